import PyProof.Rows.All
import Wide.All
import OpenK.AllK
import Wide.FinOn
import PySem.Challenge.RW_oy0033_01
open PySem PySem.W PySem.W.X PyProof.Rows
set_option Elab.async false
set_option maxRecDepth 100000
set_option linter.unusedVariables false
set_option linter.unusedSimpArgs false

section Hd_
namespace Mine
/-! the head: the objects that the top leaves behind (printed by wip/Dump.lean, wip/mkHd.py), and one look at its run -/
abbrev pg := PySem.Challenge.pw_oy0033_01
def stmK (i : Nat) : Stmt := (pg.main.body[i]?).getD (.Pass default)
def defA (i : Nat) : Arguments := match stmK i with
  | .FunctionDef _ a .. => a
  | _ => default
def defL (i : Nat) : List Stmt := match stmK i with
  | .FunctionDef _ _ b .. => b
  | _ => []
def defB (i : Nat) : FuncBody := .stmts (defL i)
def defS (i : Nat) : Scope := match stmK i with
  | .FunctionDef _ _ _ _ _ _ s .. => s
  | _ => default
def defP (i : Nat) : Pos := match stmK i with
  | .FunctionDef _ _ _ _ _ _ _ _ _ p => p
  | _ => default
abbrev vS (s : String) (t : Tok) : Value := .str (Str.ofString s) t
abbrev dE (P : Params) (s : String) (t : Tok) (v : Value) : DictEntry := ⟨PyData.keyHash P (Str.ofString s), vS s t, v⟩
noncomputable def Kf (P : Params) : Frag := [
  ((nat_lit 2), (Obj.mk Value.none none (Data.dict #[] 0) #[])),
  ((nat_lit 3), (Obj.mk (Value.type "dict") none (Data.dict #[(dE P "__name__" 165 (vS ("law_oy0033_01") 247)), (dE P "__doc__" 166 Value.none), (dE P "__package__" 167 Value.none), (dE P "__loader__" 168 (Value.builtin "__main__.__loader__#opaque")), (dE P "__spec__" 169 Value.none), (dE P "__annotations__" 170 (Value.ref 6)), (dE P "__builtins__" 171 (Value.ref 4)), (dE P "__file__" 173 (vS ("/claim/cut.py") 172)), (dE P "__cached__" 174 Value.none), (dE P "StatisticsError" 206 (Value.ref 24)), (dE P "median_low" 214 (Value.ref 34)), (dE P "median_high" 222 (Value.ref 41)), (dE P "cmp_to_key" 233 (Value.ref 48)), (dE P "_initial_missing" 234 (Value.ref 49)), (dE P "reduce" 246 (Value.ref 57)), (dE P "_law_marks" 256 (Value.ref 64)), (dE P "_law_order" 262 (Value.ref 69)), (dE P "_law_place" 268 (Value.ref 74)), (dE P "_law_refused" 276 (Value.ref 81)), (dE P "_law_far" 285 (Value.ref 88)), (dE P "law" 291 (Value.ref 93))] 21) #[])),
  ((nat_lit 6), (Obj.mk (Value.type "dict") none (Data.dict #[] 0) #[])),
  ((nat_lit 15), (Obj.mk (Value.type "tuple") none (Data.seq #[(Value.type "ValueError")] 0) #[])),
  ((nat_lit 22), (Obj.mk (Value.type "tuple") none (Data.seq #[] 0) #[])),
  ((nat_lit 23), (Obj.mk (Value.type "dict") none (Data.dict #[(dE P "__module__" 196 (vS ("cpy313.statistics") 187)), (dE P "__firstlineno__" 200 (Value.int 2 199)), (dE P "__static_attributes__" 201 (Value.ref 22)), (dE P "__weakref__" 203 (Value.ref 25)), (dE P "__doc__" 204 Value.none)] 3) #[])),
  ((nat_lit 24), (Obj.mk (Value.type "type") none (Data.cls (ClassData.mk (Str.ofString "StatisticsError") [(Value.type "ValueError")] [(Value.ref 24), (Value.type "ValueError"), (Value.type "Exception"), (Value.type "BaseException"), (Value.type "object")] 23 (Str.ofString "StatisticsError") true [] [] false none false)) #[(some (Value.ref 15)), none, (some (vS ("StatisticsError") 189)), (some (vS ("StatisticsError") 197)), (some (Value.builtin "ValueError.__new__")), (some (Value.bool true))])),
  ((nat_lit 25), (Obj.mk (Value.type "getset_descriptor") none (Data.fields #[(vS ("__weakref__") 202), (Value.ref 24), (Value.builtin "ExceptionGroup.__weakref__"), Value.none]) #[])),
  ((nat_lit 28), (Obj.mk (Value.type "tuple") none (Data.seq #[] 0) #[])),
  ((nat_lit 30), (Obj.mk (Value.type "tuple") none (Data.seq #[(vS ("data") 210), (vS ("n") 211)] 0) #[])),
  ((nat_lit 31), (Obj.mk (Value.type "tuple") none (Data.seq #[] 0) #[])),
  ((nat_lit 33), (Obj.mk (Value.type "code") none (Data.fields #[(vS ("median_low") 207), (vS ("median_low") 208), (vS ("/claim/cut.py") 209), (Value.int 4 0), (Value.int 1 0), (Value.int 0 0), (Value.int 0 0), (Value.int 3 0), (Value.ref 28), (Value.bool true), (Value.int 181 0), (Value.ref 29), Value.none, (Value.ref 30), (Value.ref 31), (Value.ref 32), (Value.int 212 0), (Value.int 4 0), (vS ("/claim/cut.py") 213)]) #[])),
  ((nat_lit 34), (Obj.mk (Value.type "function") none (Data.func (FuncData.mk (Str.ofString "median_low") (Str.ofString "median_low") (defA 2) (defB 2) (defS 2) 3 [] Value.none Value.none Value.none (vS ("cpy313.statistics") 187) none (Value.ref 33) Value.none 0)) #[])),
  ((nat_lit 35), (Obj.mk (Value.type "tuple") none (Data.seq #[] 0) #[])),
  ((nat_lit 37), (Obj.mk (Value.type "tuple") none (Data.seq #[(vS ("data") 218), (vS ("n") 219)] 0) #[])),
  ((nat_lit 38), (Obj.mk (Value.type "tuple") none (Data.seq #[] 0) #[])),
  ((nat_lit 40), (Obj.mk (Value.type "code") none (Data.fields #[(vS ("median_high") 215), (vS ("median_high") 216), (vS ("/claim/cut.py") 217), (Value.int 13 0), (Value.int 1 0), (Value.int 0 0), (Value.int 0 0), (Value.int 3 0), (Value.ref 35), (Value.bool true), (Value.int 181 0), (Value.ref 36), Value.none, (Value.ref 37), (Value.ref 38), (Value.ref 39), (Value.int 220 0), (Value.int 13 0), (vS ("/claim/cut.py") 221)]) #[])),
  ((nat_lit 41), (Obj.mk (Value.type "function") none (Data.func (FuncData.mk (Str.ofString "median_high") (Str.ofString "median_high") (defA 3) (defB 3) (defS 3) 3 [] Value.none Value.none Value.none (vS ("cpy313.statistics") 187) none (Value.ref 40) Value.none 0)) #[])),
  ((nat_lit 42), (Obj.mk (Value.type "tuple") none (Data.seq #[] 0) #[])),
  ((nat_lit 44), (Obj.mk (Value.type "tuple") none (Data.seq #[(vS ("mycmp") 228), (vS ("K") 229)] 0) #[])),
  ((nat_lit 45), (Obj.mk (Value.type "tuple") none (Data.seq #[(vS ("mycmp") 230)] 0) #[])),
  ((nat_lit 47), (Obj.mk (Value.type "code") none (Data.fields #[(vS ("cmp_to_key") 225), (vS ("cmp_to_key") 226), (vS ("/claim/cut.py") 227), (Value.int 20 0), (Value.int 1 0), (Value.int 0 0), (Value.int 0 0), (Value.int 3 0), (Value.ref 42), (Value.bool true), (Value.int 181 0), (Value.ref 43), Value.none, (Value.ref 44), (Value.ref 45), (Value.ref 46), (Value.int 231 0), (Value.int 20 0), (vS ("/claim/cut.py") 232)]) #[])),
  ((nat_lit 48), (Obj.mk (Value.type "function") none (Data.func (FuncData.mk (Str.ofString "cmp_to_key") (Str.ofString "cmp_to_key") (defA 5) (defB 5) (defS 5) 3 [] Value.none Value.none Value.none (vS ("cpy313.functools") 223) none (Value.ref 47) Value.none 0)) #[])),
  ((nat_lit 49), (Obj.mk (Value.type "object") none Data.plain #[])),
  ((nat_lit 50), (Obj.mk (Value.type "tuple") none (Data.seq #[(Value.ref 49)] 0) #[])),
  ((nat_lit 51), (Obj.mk (Value.type "tuple") none (Data.seq #[] 0) #[])),
  ((nat_lit 53), (Obj.mk (Value.type "tuple") none (Data.seq #[(vS ("function") 238), (vS ("sequence") 239), (vS ("initial") 240), (vS ("it") 241), (vS ("value") 242), (vS ("element") 243)] 0) #[])),
  ((nat_lit 54), (Obj.mk (Value.type "tuple") none (Data.seq #[] 0) #[])),
  ((nat_lit 56), (Obj.mk (Value.type "code") none (Data.fields #[(vS ("reduce") 235), (vS ("reduce") 236), (vS ("/claim/cut.py") 237), (Value.int 46 0), (Value.int 3 0), (Value.int 0 0), (Value.int 0 0), (Value.int 3 0), (Value.ref 51), (Value.bool true), (Value.int 181 0), (Value.ref 52), Value.none, (Value.ref 53), (Value.ref 54), (Value.ref 55), (Value.int 244 0), (Value.int 46 0), (vS ("/claim/cut.py") 245)]) #[])),
  ((nat_lit 57), (Obj.mk (Value.type "function") none (Data.func (FuncData.mk (Str.ofString "reduce") (Str.ofString "reduce") (defA 7) (defB 7) (defS 7) 3 [] (Value.ref 50) Value.none Value.none (vS ("cpy313.functools") 223) none (Value.ref 56) Value.none 0)) #[])),
  ((nat_lit 58), (Obj.mk (Value.type "tuple") none (Data.seq #[] 0) #[])),
  ((nat_lit 60), (Obj.mk (Value.type "tuple") none (Data.seq #[(vS ("total") 252)] 0) #[])),
  ((nat_lit 61), (Obj.mk (Value.type "tuple") none (Data.seq #[(vS ("total") 253)] 0) #[])),
  ((nat_lit 63), (Obj.mk (Value.type "code") none (Data.fields #[(vS ("_law_marks") 249), (vS ("_law_marks") 250), (vS ("/claim/cut.py") 251), (Value.int 59 0), (Value.int 1 0), (Value.int 0 0), (Value.int 0 0), (Value.int 3 0), (Value.ref 58), (Value.bool true), (Value.int 181 0), (Value.ref 59), Value.none, (Value.ref 60), (Value.ref 61), (Value.ref 62), (Value.int 254 0), (Value.int 59 0), (vS ("/claim/cut.py") 255)]) #[])),
  ((nat_lit 64), (Obj.mk (Value.type "function") none (Data.func (FuncData.mk (Str.ofString "_law_marks") (Str.ofString "_law_marks") (defA 9) (defB 9) (defS 9) 3 [] Value.none Value.none Value.none (vS ("law_oy0033_01") 247) none (Value.ref 63) Value.none 0)) #[])),
  ((nat_lit 65), (Obj.mk (Value.type "tuple") none (Data.seq #[] 0) #[])),
  ((nat_lit 68), (Obj.mk (Value.type "code") none (Data.fields #[(vS ("_law_order") 257), (vS ("_law_order") 258), (vS ("/claim/cut.py") 259), (Value.int 64 0), (Value.int 2 0), (Value.int 0 0), (Value.int 0 0), (Value.int 3 0), (Value.ref 65), (Value.bool true), (Value.int 181 0), (Value.ref 66), Value.none, Value.none, Value.none, (Value.ref 67), (Value.int 260 0), (Value.int 64 0), (vS ("/claim/cut.py") 261)]) #[])),
  ((nat_lit 69), (Obj.mk (Value.type "function") none (Data.func (FuncData.mk (Str.ofString "_law_order") (Str.ofString "_law_order") (defA 10) (defB 10) (defS 10) 3 [] Value.none Value.none Value.none (vS ("law_oy0033_01") 247) none (Value.ref 68) Value.none 0)) #[])),
  ((nat_lit 70), (Obj.mk (Value.type "tuple") none (Data.seq #[] 0) #[])),
  ((nat_lit 73), (Obj.mk (Value.type "code") none (Data.fields #[(vS ("_law_place") 263), (vS ("_law_place") 264), (vS ("/claim/cut.py") 265), (Value.int 70 0), (Value.int 3 0), (Value.int 0 0), (Value.int 0 0), (Value.int 3 0), (Value.ref 70), (Value.bool true), (Value.int 181 0), (Value.ref 71), Value.none, Value.none, Value.none, (Value.ref 72), (Value.int 266 0), (Value.int 70 0), (vS ("/claim/cut.py") 267)]) #[])),
  ((nat_lit 74), (Obj.mk (Value.type "function") none (Data.func (FuncData.mk (Str.ofString "_law_place") (Str.ofString "_law_place") (defA 11) (defB 11) (defS 11) 3 [] Value.none Value.none Value.none (vS ("law_oy0033_01") 247) none (Value.ref 73) Value.none 0)) #[])),
  ((nat_lit 75), (Obj.mk (Value.type "tuple") none (Data.seq #[] 0) #[])),
  ((nat_lit 77), (Obj.mk (Value.type "tuple") none (Data.seq #[(vS ("middle") 272), (vS ("error") 273)] 0) #[])),
  ((nat_lit 78), (Obj.mk (Value.type "tuple") none (Data.seq #[] 0) #[])),
  ((nat_lit 80), (Obj.mk (Value.type "code") none (Data.fields #[(vS ("_law_refused") 269), (vS ("_law_refused") 270), (vS ("/claim/cut.py") 271), (Value.int 75 0), (Value.int 1 0), (Value.int 0 0), (Value.int 0 0), (Value.int 3 0), (Value.ref 75), (Value.bool true), (Value.int 181 0), (Value.ref 76), Value.none, (Value.ref 77), (Value.ref 78), (Value.ref 79), (Value.int 274 0), (Value.int 75 0), (vS ("/claim/cut.py") 275)]) #[])),
  ((nat_lit 81), (Obj.mk (Value.type "function") none (Data.func (FuncData.mk (Str.ofString "_law_refused") (Str.ofString "_law_refused") (defA 12) (defB 12) (defS 12) 3 [] Value.none Value.none Value.none (vS ("law_oy0033_01") 247) none (Value.ref 80) Value.none 0)) #[])),
  ((nat_lit 82), (Obj.mk (Value.type "tuple") none (Data.seq #[] 0) #[])),
  ((nat_lit 84), (Obj.mk (Value.type "tuple") none (Data.seq #[(vS ("numbers") 280), (vS ("one") 281)] 0) #[])),
  ((nat_lit 85), (Obj.mk (Value.type "tuple") none (Data.seq #[(vS ("one") 282)] 0) #[])),
  ((nat_lit 87), (Obj.mk (Value.type "code") none (Data.fields #[(vS ("_law_far") 277), (vS ("_law_far") 278), (vS ("/claim/cut.py") 279), (Value.int 80 0), (Value.int 2 0), (Value.int 0 0), (Value.int 0 0), (Value.int 3 0), (Value.ref 82), (Value.bool true), (Value.int 181 0), (Value.ref 83), Value.none, (Value.ref 84), (Value.ref 85), (Value.ref 86), (Value.int 283 0), (Value.int 80 0), (vS ("/claim/cut.py") 284)]) #[])),
  ((nat_lit 88), (Obj.mk (Value.type "function") none (Data.func (FuncData.mk (Str.ofString "_law_far") (Str.ofString "_law_far") (defA 13) (defB 13) (defS 13) 3 [] Value.none Value.none Value.none (vS ("law_oy0033_01") 247) none (Value.ref 87) Value.none 0)) #[])),
  ((nat_lit 89), (Obj.mk (Value.type "tuple") none (Data.seq #[] 0) #[])),
  ((nat_lit 92), (Obj.mk (Value.type "code") none (Data.fields #[(vS ("law") 286), (vS ("law") 287), (vS ("/claim/cut.py") 288), (Value.int 82 0), (Value.int 1 0), (Value.int 0 0), (Value.int 0 0), (Value.int 3 0), (Value.ref 89), (Value.bool true), (Value.int 181 0), (Value.ref 90), Value.none, Value.none, Value.none, (Value.ref 91), (Value.int 289 0), (Value.int 82 0), (vS ("/claim/cut.py") 290)]) #[])),
  ((nat_lit 93), (Obj.mk (Value.type "function") none (Data.func (FuncData.mk (Str.ofString "law") (Str.ofString "law") (defA 14) (defB 14) (defS 14) 3 [] Value.none Value.none Value.none (vS ("law_oy0033_01") 247) none (Value.ref 92) Value.none 0)) #[]))]
def asK : List Addr := [2, 3, 6, 15, 22, 23, 24, 25, 28, 30, 31, 33, 34, 35, 37, 38, 40, 41, 42, 44, 45, 47, 48, 49, 50, 51, 53, 54, 56, 57, 58, 60, 61, 63, 64, 65, 68, 69, 70, 73, 74, 75, 77, 78, 80, 81, 82, 84, 85, 87, 88, 89, 92, 93]
theorem as_eq (P : Params) : asK = (Kf P).map (·.1) := by kernel_rfl
noncomputable abbrev hk := kmHook Kf asK as_eq [83, 43, 59, 90]
def vwK : Program := { pg with main := { pg.main with body := [1, 2, 3, 5, 6, 9, 10, 11, 12, 13, 14].map stmK } }
abbrev loK : List Str := [Str.ofString "_initial_missing", Str.ofString "reduce"]
abbrev rowK := PySem.Challenge.rw_oy0033_01.row
abbrev xtK : Shared → Bool := fun s => xlAt vwK [] s && recOk rowK.records s
theorem saidK : PySem.Challenge.rw_oy0033_01.wellSaid = true := by
  first
  | exact (congrFun Fast.te9446332074065402090 PySem.Challenge.rw_oy0033_01).trans (by kernel_rfl)
  | kernel_rfl
theorem leftK : LeftO pg vwK loK xtK hk.obs hk.val 1198 := fun w => by
  show (openEnds treeTable pg w 1198).map _ = _
  first
  | (unfold openEnds fencedOpening topFrom; rw [Fast.te10274390034422433532, Fast.te14364793385576792824, Fast.te1435165496053646825, Fast.te14289696077712309145, Fast.te14082659384304107361, Fast.te4187177175401517315]; kernel_rfl)
  | kernel_rfl
abbrev dL : DefRec := ⟨Str.ofString "law", defA 14, defL 14, defS 14, defP 14⟩
theorem hd (walk : WalkO vwK loK (XL vwK []) hk.says rowK.toRowW dL [] fun f vs => PySem.call f vs) : PySem.Challenge.rw_oy0033_01.Holds := by
  refine holds_law saidK fun said' => ?_
  exact holds_open (q := vwK) (loose := loK) (Xt := xtK) (XP := XL vwK []) (Yf := hk.obs) (Ya := hk.val) (YP := hk.says) (N := 1198) leftK hk.of hk.keeps (fun s e => xl_of s (Bool.and_eq_true_iff.mp e).1) XL.keeps (by kernel_rfl) (by kernel_rfl) (by kernel_rfl) (fun s e => recFacts_of (Bool.and_eq_true_iff.mp e).2) (by kernel_rfl) said' (by kernel_rfl) ⟨by kernel_rfl, by kernel_rfl, by kernel_rfl, by kernel_rfl, by kernel_rfl, by kernel_rfl⟩ ⟨[.list [.int 3, .int 1]], by kernel_rfl, by kernel_rfl⟩ walk
end Mine

end Hd_

section Kb_
namespace Mine
section
variable {α : Type} {M : Model} {w : World} {A : Around} {s : Shared} {E : Value → Shared → Prop}
theorem ite_t {c : Prop} [Decidable c] {a b : Sem α} {Q : α → Shared → Prop} (hc : c) (h : wpAny M A a Q E s) : wpAny M A (if c then a else b) Q E s := by rw [if_pos hc]; exact h
theorem ite_f {c : Prop} [Decidable c] {a b : Sem α} {Q : α → Shared → Prop} (hc : ¬ c) (h : wpAny M A b Q E s) : wpAny M A (if c then a else b) Q E s := by rw [if_neg hc]; exact h
theorem typeOf_ref {a : Addr} {o : Obj} {Q : Value → Shared → Prop} (ho : s.heap.get? a = some o) (h : Q o.cls s) : wpAny M A (typeOf (.ref a)) Q E s := by
  show wpAny M A (do return (← loadPart a (some headPart)).cls) Q E s
  exact wpAny_bind (wpAny_loadPart ho (wpAny_pure h))
theorem closed {t : Sem α} {r : α} {Q : α → Shared → Prop} (e : peek [] ⟨pg, w.params⟩ t = some r) (h : Q r s) : wpAny (model pg w) A t Q E s :=
  (Looks.of_peek (K := []) (h := s.heap) (fun _ _ e => nomatch e) e).here h

/-- a tree that reads only: the objects that it meets are handed to it in their order; what it asked for comes back -/
def feed (S : Setting) : Nat → List Obj → Sem α → Option (α × List Addr)
  | 0, _, _ => none
  | n + 1, os, t => match t with
    | .pure a => some (a, [])
    | .rule _ k => feed S n os (k ())
    | .at _ k => feed S n os (k ())
    | .point _ k => feed S n os (k ())
    | .ask k => feed S n os (k S)
    | .load a _ k => match os with
      | o :: r => match feed S n r (k o) with
        | some (x, l) => some (x, a :: l)
        | none => none
      | [] => none
    | _ => none
def Fed (h : Heap) : List Addr → List Obj → Prop
  | [], _ => True
  | _ :: _, [] => False
  | a :: l, o :: r => h.get? a = some o ∧ Fed h l r
theorem feed_wp {S : Setting} (hS : S = ⟨M.prog, M.w.params⟩) : ∀ (n : Nat) (os : List Obj) (t : Sem α) {r : α} {l : List Addr} {Q : α → Shared → Prop}, feed S n os t = some (r, l) → Fed s.heap l os → Q r s → wpAny M A t Q E s
  | 0, _, _, _, _, _, e, _, _ => by simp [feed] at e
  | n + 1, os, t, r, l, Q, e, f, h => by
    cases t with
    | pure a => simp only [feed, Option.some.injEq, Prod.mk.injEq] at e; obtain ⟨rfl, rfl⟩ := e; exact fun _ _ _ => h
    | rule tag k => exact fun Γ p hΓ => feed_wp hS n os (k ()) e f h Γ p hΓ
    | «at» q k => exact fun Γ _ hΓ => feed_wp hS n os (k ()) e f h Γ q hΓ
    | point _ k => exact fun Γ p hΓ => feed_wp hS n os (k ()) e f h Γ p hΓ
    | ask k =>
      simp only [feed] at e
      subst hS
      exact fun Γ p hΓ => feed_wp rfl n os (k _) e f h Γ p hΓ
    | load a q k =>
      simp only [feed] at e
      cases os with
      | nil => simp at e
      | cons o r' =>
        simp only at e
        cases e2 : feed S n r' (k o) with
        | none => rw [e2] at e; simp at e
        | some x =>
          obtain ⟨x1, x2⟩ := x
          rw [e2] at e
          simp only [Option.some.injEq, Prod.mk.injEq] at e
          obtain ⟨rfl, rfl⟩ := e
          exact wpAny_bind (m := loadPart a q) (f := k) (wpAny_loadPart f.1 (feed_wp hS n r' (k o) e2 f.2 h))
    | _ => simp [feed] at e
end
theorem rd {α : Type} {w : World} {A : Around} {s : Shared} {E : Value → Shared → Prop} {t : Sem α} (os : List Obj) (r : α) (l : List Addr) {Q : α → Shared → Prop}
    (e : feed ⟨pg, w.params⟩ 5000 os t = some (r, l)) (f : Fed s.heap l os) (h : Q r s) : wpAny (model pg w) A t Q E s := feed_wp (M := model pg w) rfl 5000 os t e f h
section
variable {M : Model} {A : Around} {s : Shared} {E : Value → Shared → Prop} {h₀ : Heap} {chg news : List (Addr × Obj)}
theorem al {o : Obj} {Q : Addr → Shared → Prop} (D : Mem h₀ s.heap chg news) (hf : o.isFreed = false) (h : ∀ a h', Mem h₀ h' chg ((a, o) :: news) → Q a { s with heap := h' }) : wpAny M A (alloc o) Q E s :=
  wpAny_alloc (h _ _ (D.alloc hf))
theorem up {a : Addr} {o : Obj} {f : Obj → Obj} {part : Option Value} {Q : Unit → Shared → Prop} (D : Mem h₀ s.heap chg news) (i : Nat) (hi : news[i]? = some (a, o)) (hf : (f o).isFreed = false)
    (h : ∀ h', Mem h₀ h' chg (news.set i (a, f o)) → Q () { s with heap := h' }) : wpAny M A (updatePart a part f) Q E s :=
  wpAny_updatePart (D.at i a o hi) (h _ (D.update hi hf))
end
end Mine

end Kb_

section Ge_
namespace Mine

/-- what a load or an update looks at: an object of the ledger by its place, or one of the top by its address -/
inductive Hint where
  | own (i : Nat)
  | top (b : Addr)

structure GSt where
  hints : List Hint
  as : List Addr
  tok : Nat
  led : List (Addr × Obj)
  obl : List (Addr × Addr)
  tops : List Addr

/-- where a run stands: in the tree itself, or in a code that it has called (with what waits behind it) -/
inductive Cfg (α : Type) where
  | top (t : Sem α)
  | inn (t : Sem PySem.Fin) (ks : List (Result → Sem PySem.Fin)) (kb : Result → Sem α)

def Cfg.back {α : Type} (r : Result) : List (Result → Sem PySem.Fin) → (Result → Sem α) → Cfg α
  | [], kb => .top (kb r)
  | k :: ks, kb => .inn (k r) ks kb

/-- a step of a tree: the state behind it and the tree that goes on -/
def stp (K : Frag) (S : Setting) {β : Type} (st : GSt) (t : Sem β) : Option (GSt × Sem β) := match t with
  | .rule _ k => some (st, k ())
  | .at _ k => some (st, k ())
  | .point _ k => some (st, k ())
  | .ask k => some (st, k S)
  | .fresh k => some ({ st with tok := st.tok + 1 }, k st.tok)
  | .load a _ k => match st.hints with
    | .own i :: hs => match st.led[i]? with
      | some p => some ({ st with hints := hs, obl := (a, p.1) :: st.obl }, k p.2)
      | none => none
    | .top b :: hs => match K.lookup b with
      | some o => some ({ st with hints := hs, obl := (a, b) :: st.obl, tops := b :: st.tops }, k o)
      | none => none
    | [] => none
  | .update a _ f k => match st.hints with
    | .own i :: hs => match st.led[i]? with
      | some p => match (f p.2).isFreed with
        | false => some ({ st with hints := hs, led := st.led.set i (p.1, f p.2), obl := (a, p.1) :: st.obl }, k ())
        | true => none
      | none => none
    | _ => none
  | .alloc o k => match st.as with
    | a :: as => match o.isFreed with
      | false => some ({ st with as := as, led := st.led ++ [(a, o)] }, k a)
      | true => none
    | [] => none
  | _ => none

def go (K : Frag) (S : Setting) (den : Code → Sem PySem.Fin) {α : Type} : Nat → GSt → Cfg α → Option (α × GSt)
  | 0, _, _ => none
  | n + 1, st, c => match c with
    | .top t => match t with
      | .pure a => some (a, st)
      | .call c hd _ _ k => match hd with
        | none => go K S den n st (.inn (den c) [] k)
        | some _ => none
      | t => match stp K S st t with
        | some (st', t') => go K S den n st' (.top t')
        | none => none
    | .inn t ks kb => match t with
      | .pure fin => match fin with
        | .done f => go K S den n st (Cfg.back (.ok f) ks kb)
        | .again c' => match c'.quiet with
          | true => go K S den n st (.inn (den c') ks kb)
          | false => none
      | .raise e => go K S den n st (Cfg.back (.error e) ks kb)
      | .call c hd _ _ k => match hd with
        | none => go K S den n st (.inn (den c) (k :: ks) kb)
        | some _ => none
      | t => match stp K S st t with
        | some (st', t') => go K S den n st' (.inn t' ks kb)
        | none => none

def Hi (m : Nat) (as : List Addr) : Prop := as.length = m ∧ ∀ a ∈ as, 94 ≤ a
theorem Hi.some (m : Nat) : Hi m (List.replicate m 94) := ⟨List.length_replicate .., fun a h => by rw [(List.mem_replicate.mp h).2]; exact Nat.le_refl _⟩

structure Own (h₀ : Heap) (M : List Addr) (h : Heap) (L : List (Addr × Obj)) : Prop where
  keep : ∀ b o, h₀.get? b = some o → b ∉ M → h.get? b = some o
  own : ∀ p ∈ L, h.get? p.1 = some p.2
  apart : (L.map (·.1)).Nodup
  cover : ∀ p ∈ L, p.1 ∈ M ∨ h₀.get? p.1 = none
  alive : ∀ b o, h₀.get? b = some o → ∃ o', h.get? b = some o'

theorem Own.push {h₀ h : Heap} {M : List Addr} {L : List (Addr × Obj)} (D : Own h₀ M h L) {o : Obj} (hf : o.isFreed = false) : Own h₀ M (h.push o) (L ++ [(h.objs.size, o)]) := by
  refine ⟨fun b o' e q => Heap.get?_push_of_some _ (D.keep b o' e q), fun p hp => ?_, ?_, fun p hp => ?_, ?_⟩
  · rcases List.mem_append.mp hp with hp | hp
    · exact Heap.get?_push_of_some _ (D.own p hp)
    · rw [List.mem_singleton] at hp; subst hp; exact Heap.get?_push_size _ hf
  · rw [List.map_append]
    refine List.nodup_append.mpr ⟨D.apart, by simp, ?_⟩
    intro a ha b hb e
    obtain ⟨p, hp, rfl⟩ := List.mem_map.mp ha
    simp only [List.map_cons, List.map_nil, List.mem_singleton] at hb
    have := Heap.lt_size (D.own p hp)
    subst hb
    exact absurd e (Nat.ne_of_lt this)
  · rcases List.mem_append.mp hp with hp | hp
    · exact D.cover p hp
    · rw [List.mem_singleton] at hp; subst hp
      refine .inr ?_
      cases e : h₀.get? h.objs.size with
      | none => rfl
      | some o' =>
        obtain ⟨o2, e2⟩ := D.alive _ _ e
        exact absurd (Heap.lt_size e2) (Nat.lt_irrefl _)
  · intro b o' e
    obtain ⟨o2, e2⟩ := D.alive b o' e
    exact ⟨o2, Heap.get?_push_of_some _ e2⟩

theorem Own.set {h₀ h : Heap} {M : List Addr} {L : List (Addr × Obj)} (D : Own h₀ M h L) {i : Nat} {p : Addr × Obj} {f : Obj → Obj} (hi : L[i]? = some p) (hf : (f p.2).isFreed = false) : Own h₀ M (h.update p.1 f) (L.set i (p.1, f p.2)) := by
  have hs : Heap.SameBut p.1 h (h.update p.1 f) := Heap.SameBut.update ..
  have hp := List.mem_of_getElem? hi
  have ho := D.own p hp
  have hm : (L.set i (p.1, f p.2)).map (·.1) = L.map (·.1) := by
    rw [List.map_set]
    apply List.ext_getElem?
    intro j
    by_cases hj : i = j
    · subst hj
      rw [List.getElem?_set_self']
      simp [hi]
    · rw [List.getElem?_set_ne hj]
  have nd := D.apart
  refine ⟨fun b o' e q => ?_, fun q hq => ?_, hm ▸ nd, fun q hq => ?_, ?_⟩
  · have : b ≠ p.1 := by
      rintro rfl
      rcases D.cover p hp with h1 | h1
      · exact q h1
      · rw [h1] at e; cases e
    exact (hs.2 b this).trans (D.keep b o' e q)
  · obtain ⟨j, hj⟩ := List.mem_iff_getElem?.mp hq
    by_cases e : i = j
    · subst e
      have hl : i < L.length := (List.getElem?_eq_some_iff.mp hi).1
      rw [List.getElem?_set_self hl] at hj
      cases hj
      exact Heap.get?_update_self f ho hf
    · rw [List.getElem?_set_ne e] at hj
      have hne : q.1 ≠ p.1 := by
        intro eq
        have h1 : (L.map (·.1))[i]? = some p.1 := by simp [hi]
        have h2 : (L.map (·.1))[j]? = some p.1 := by simp [hj, eq]
        obtain ⟨l1, g1⟩ := List.getElem?_eq_some_iff.mp h1
        obtain ⟨l2, g2⟩ := List.getElem?_eq_some_iff.mp h2
        exact e ((List.getElem_inj (h₀ := l1) (h₁ := l2) nd).mp (g1.trans g2.symm))
      exact (hs.2 q.1 hne).trans (D.own q (List.mem_of_getElem? hj))
  · have : q.1 ∈ L.map (·.1) := hm ▸ List.mem_map_of_mem hq
    obtain ⟨p', hp', e⟩ := List.mem_map.mp this
    exact e ▸ D.cover p' hp'
  · intro b o' e
    obtain ⟨o2, e2⟩ := D.alive b o' e
    by_cases hb : b = p.1
    · subst hb; exact ⟨_, Heap.get?_update_self f ho hf⟩
    · exact ⟨o2, (hs.2 b hb).trans e2⟩

def GSt.Le (st st' : GSt) : Prop := (∀ x ∈ st.obl, x ∈ st'.obl) ∧ (∀ x ∈ st.tops, x ∈ st'.tops)
theorem GSt.Le.refl (st : GSt) : st.Le st := ⟨fun _ h => h, fun _ h => h⟩
theorem GSt.Le.trans {a b c : GSt} (h : a.Le b) (h' : b.Le c) : a.Le c := ⟨fun x hx => h'.1 x (h.1 x hx), fun x hx => h'.2 x (h.2 x hx)⟩
theorem stp_mono {K : Frag} {S : Setting} {β : Type} {st st' : GSt} {t t' : Sem β} (e : stp K S st t = some (st', t')) : st.Le st' := by
  unfold stp at e
  split at e
  · cases e; exact .refl _
  · cases e; exact .refl _
  · cases e; exact .refl _
  · cases e; exact .refl _
  · cases e; exact ⟨fun _ h => h, fun _ h => h⟩
  · split at e
    · split at e
      · cases e; exact ⟨fun _ h => .tail _ h, fun _ h => h⟩
      · cases e
    · split at e
      · cases e; exact ⟨fun _ h => .tail _ h, fun _ h => .tail _ h⟩
      · cases e
    · cases e
  · split at e
    · split at e
      · split at e
        · cases e; exact ⟨fun _ h => .tail _ h, fun _ h => h⟩
        · cases e
      · cases e
    · cases e
  · split at e
    · split at e
      · cases e; exact ⟨fun _ h => h, fun _ h => h⟩
      · cases e
    · cases e
  · cases e
theorem go_mono {K : Frag} {S : Setting} {den : Code → Sem PySem.Fin} {α : Type} : ∀ (n : Nat) (st : GSt) (c : Cfg α) {r : α} {st' : GSt}, go K S den n st c = some (r, st') → st.Le st'
  | 0, _, _, _, _, e => by simp [go] at e
  | n + 1, st, c, r, st', e => by
    unfold go at e
    split at e
    · split at e
      · cases e; exact .refl _
      · split at e
        · exact go_mono n _ _ e
        · cases e
      · split at e
        · rename_i h; exact (stp_mono h).trans (go_mono n _ _ e)
        · cases e
    · split at e
      · split at e
        · exact go_mono n _ _ e
        · split at e
          · exact go_mono n _ _ e
          · cases e
      · exact go_mono n _ _ e
      · split at e
        · exact go_mono n _ _ e
        · cases e
      · split at e
        · rename_i h; exact (stp_mono h).trans (go_mono n _ _ e)
        · cases e

def Fine (M : List Addr) (st : GSt) : Prop := (∀ x ∈ st.obl, x.1 = x.2) ∧ (∀ b ∈ st.tops, b ∉ M)
theorem Fine.le {M : List Addr} {st st' : GSt} (h : Fine M st') (l : st.Le st') : Fine M st := ⟨fun x hx => h.1 x (l.1 x hx), fun x hx => h.2 x (l.2 x hx)⟩

section
variable {K : Frag} {S : Setting} {MD : Model} {h₀ : Heap} {M : List Addr}

/-- one step is sound: what is left to show is the rest of the tree, behind the step -/
theorem stp_sound (hS : S = ⟨MD.prog, MD.w.params⟩) (hK : K.In h₀) (h94 : ∃ o, h₀.get? 93 = some o) {β : Type} {A : Around} {E : Value → Shared → Prop} {t : Sem β} {st : GSt} {m : Nat} {s : Shared} {Q : β → Shared → Prop}
    (D : Own h₀ M s.heap st.led) (ht : s.toks = st.tok)
    (hf : ∃ as st' t', Hi m as ∧ stp K S { st with as := as } t = some (st', t') ∧ Fine M st')
    (H : ∀ (st₁ : GSt) (m' : Nat) (s₁ : Shared) (t₁ : Sem β), Own h₀ M s₁.heap st₁.led → s₁.toks = st₁.tok → (s₁.gens = s.gens ∧ s₁.drawn = s.drawn ∧ s₁.os = s.os) →
      (∀ as₁ : List Addr, Hi m' as₁ → ∃ as : List Addr, Hi m as ∧ stp K S { st with as := as } t = some ({ st₁ with as := as₁ }, t₁)) → wpAny MD A t₁ Q E s₁) :
    wpAny MD A t Q E s := by
  obtain ⟨as0, st0, t0, hm0, e0, f0⟩ := hf
  cases t with
  | rule tag k =>
    refine fun Γ p hΓ => H { st with as := [] } m s (k ()) D ht ⟨rfl, rfl, rfl⟩ (fun as h => ⟨as, h, rfl⟩) Γ p hΓ
  | «at» q k =>
    refine fun Γ _ hΓ => H { st with as := [] } m s (k ()) D ht ⟨rfl, rfl, rfl⟩ (fun as h => ⟨as, h, rfl⟩) Γ q hΓ
  | point _ k =>
    refine fun Γ p hΓ => H { st with as := [] } m s (k ()) D ht ⟨rfl, rfl, rfl⟩ (fun as h => ⟨as, h, rfl⟩) Γ p hΓ
  | ask k =>
    subst hS
    refine fun Γ p hΓ => H { st with as := [] } m s (k _) D ht ⟨rfl, rfl, rfl⟩ (fun as h => ⟨as, h, rfl⟩) Γ p hΓ
  | fresh k =>
    have := H { st with as := [], tok := st.tok + 1 } m { s with toks := s.toks + 1 } (k s.toks) D (by show s.toks + 1 = _; rw [ht]) ⟨rfl, rfl, rfl⟩ (fun as h => ⟨as, h, by rw [ht]; rfl⟩)
    exact fun Γ p hΓ => this Γ p hΓ
  | load a q k =>
    simp only [stp] at e0
    split at e0
    · rename_i i hs heq
      split at e0
      · rename_i p hp
        cases e0
        have hap : a = p.1 := f0.1 (a, p.1) (.head _)
        have ho : s.heap.get? a = some p.2 := hap ▸ D.own p (List.mem_of_getElem? hp)
        refine wpAny_bind (m := loadPart a q) (f := k) (wpAny_loadPart ho (H { st with as := [], hints := hs, obl := (a, p.1) :: st.obl } m s (k p.2) D ht ⟨rfl, rfl, rfl⟩ fun as h => ⟨as, h, ?_⟩))
        simp only [stp, heq, hp]
      · cases e0
    · rename_i b hs heq
      split at e0
      · rename_i o hp
        cases e0
        have hap : a = b := f0.1 (a, b) (.head _)
        have hbM : b ∉ M := f0.2 b (.head _)
        have ho : s.heap.get? a = some o := hap ▸ D.keep b o (hK b o hp) hbM
        refine wpAny_bind (m := loadPart a q) (f := k) (wpAny_loadPart ho (H { st with as := [], hints := hs, obl := (a, b) :: st.obl, tops := b :: st.tops } m s (k o) D ht ⟨rfl, rfl, rfl⟩ fun as h => ⟨as, h, ?_⟩))
        simp only [stp, heq, hp]
      · cases e0
    · cases e0
  | update a q f k =>
    simp only [stp] at e0
    split at e0
    · rename_i i hs heq
      split at e0
      · rename_i p hp
        split at e0
        · rename_i hf
          cases e0
          have hap : a = p.1 := f0.1 (a, p.1) (.head _)
          have ho : s.heap.get? a = some p.2 := hap ▸ D.own p (List.mem_of_getElem? hp)
          have D' : Own h₀ M (s.heap.update a f) (st.led.set i (p.1, f p.2)) := hap ▸ D.set hp hf
          refine wpAny_bind (m := updatePart a q f) (f := k) (wpAny_updatePart ho (H { st with as := [], hints := hs, led := st.led.set i (p.1, f p.2), obl := (a, p.1) :: st.obl } m { s with heap := s.heap.update a f } (k ()) D' ht ⟨rfl, rfl, rfl⟩ fun as h => ⟨as, h, ?_⟩))
          simp only [stp, heq, hp, hf]
        · cases e0
      · cases e0
    · cases e0
  | alloc o k =>
    cases m with
    | zero =>
      have := hm0.1
      rw [List.length_eq_zero_iff] at this
      subst this
      simp [stp] at e0
    | succ m =>
      have hf : o.isFreed = false := by
        cases as0 with
        | nil => exact absurd hm0.1 (by simp)
        | cons a as0 =>
          simp only [stp] at e0
          split at e0
          · assumption
          · cases e0
      refine wpAny_bind (m := alloc o) (f := k) (wpAny_alloc (H { st with as := [], led := st.led ++ [(s.heap.objs.size, o)] } m { s with heap := s.heap.push o } (k s.heap.objs.size) (D.push hf) ht ⟨rfl, rfl, rfl⟩ fun as h => ⟨s.heap.objs.size :: as, ⟨by simp [h.1], fun a ha => ?_⟩, ?_⟩))
      · rcases List.mem_cons.mp ha with rfl | ha
        · obtain ⟨o9, e9⟩ := h94
          obtain ⟨o8, e8⟩ := D.alive _ _ e9
          exact Heap.lt_size e8
        · exact h.2 a ha
      · simp only [stp, hf]
  | _ => simp [stp] at e0
end
end Mine

end Ge_

section Gs_
namespace Mine
section
variable {K : Frag} {S : Setting} {den : Code → Sem PySem.Fin} {MD : Model} {h₀ : Heap} {M : List Addr}

def postF (MD : Model) (A : Around) (R : Result → Shared → Prop) : PySem.Fin → Shared → Prop := fun fin s' => match fin with
  | .done f => R (.ok f) s'
  | .again c' => c'.quiet = true ∧ codeAny MD A c' R s'

def RQ (MD : Model) (base : Result → Shared → Prop) : List (Around × Code × (Result → Sem PySem.Fin)) → Result → Shared → Prop
  | [] => base
  | (A, c, k) :: fs => fun r s' => wpAny MD (A.under c) (k r) (postF MD A (RQ MD base fs)) (fun e s'' => RQ MD base fs (.error e) s'') s'

theorem code_of {A : Around} {c : Code} {R : Result → Shared → Prop} {s : Shared} (h : wpAny MD (A.under c) (MD.den c) (postF MD A R) (fun e s' => R (.error e) s') s) : codeAny MD A c R s :=
  codeAny_of_tree (wpAny_mono h (fun fin _ hf => by cases fin <;> exact hf) fun _ _ x => x)

def Hyp (K : Frag) (S : Setting) (den : Code → Sem PySem.Fin) (h₀ : Heap) (M : List Addr) {α : Type} (g : Array GenState) (d : Drawn) (os : OsState) (Q : α → Shared → Prop) (n m : Nat) (st : GSt) (c : Cfg α) : Prop :=
  ∀ as : List Addr, Hi m as → ∃ r st', go K S den n { st with as := as } c = some (r, st') ∧ Fine M st' ∧ ∀ h', Own h₀ M h' st'.led → Q r ⟨h', g, d, st'.tok, os⟩

theorem Hyp.step_top {α : Type} {g : Array GenState} {d : Drawn} {os : OsState} {Q : α → Shared → Prop} {n m : Nat} {st : GSt} {t : Sem α} (H : Hyp K S den h₀ M g d os Q (n + 1) m st (.top t))
    (hst : ∀ st, go K S den (n + 1) st (.top t) = match stp K S st t with | some (st', t') => go K S den n st' (.top t') | none => none) :
    (∃ as st' t', Hi m as ∧ stp K S { st with as := as } t = some (st', t') ∧ Fine M st') ∧
    ∀ (st₁ : GSt) (m' : Nat) (t₁ : Sem α), (∀ as₁ : List Addr, Hi m' as₁ → ∃ as : List Addr, Hi m as ∧ stp K S { st with as := as } t = some ({ st₁ with as := as₁ }, t₁)) → Hyp K S den h₀ M g d os Q n m' st₁ (.top t₁) := by
  refine ⟨?_, fun st₁ m' t₁ h as₁ h1 => ?_⟩
  · obtain ⟨r, st', e, f, _⟩ := H _ (Hi.some m)
    rw [hst] at e
    split at e
    · rename_i st1 t1 e1
      exact ⟨_, st1, t1, Hi.some m, e1, f.le (go_mono n _ _ e)⟩
    · cases e
  · obtain ⟨as, ha, e1⟩ := h as₁ h1
    obtain ⟨r, st', e, x⟩ := H as ha
    rw [hst, e1] at e
    exact ⟨r, st', e, x⟩
theorem Hyp.step_inn {α : Type} {g : Array GenState} {d : Drawn} {os : OsState} {Q : α → Shared → Prop} {n m : Nat} {st : GSt} {t : Sem PySem.Fin} {ks : List (Result → Sem PySem.Fin)} {kb : Result → Sem α} (H : Hyp K S den h₀ M g d os Q (n + 1) m st (.inn t ks kb))
    (hst : ∀ st, go K S den (n + 1) st (.inn t ks kb) = match stp K S st t with | some (st', t') => go K S den n st' (.inn t' ks kb) | none => none) :
    (∃ as st' t', Hi m as ∧ stp K S { st with as := as } t = some (st', t') ∧ Fine M st') ∧
    ∀ (st₁ : GSt) (m' : Nat) (t₁ : Sem PySem.Fin), (∀ as₁ : List Addr, Hi m' as₁ → ∃ as : List Addr, Hi m as ∧ stp K S { st with as := as } t = some ({ st₁ with as := as₁ }, t₁)) → Hyp K S den h₀ M g d os Q n m' st₁ (.inn t₁ ks kb) := by
  refine ⟨?_, fun st₁ m' t₁ h as₁ h1 => ?_⟩
  · obtain ⟨r, st', e, f, _⟩ := H _ (Hi.some m)
    rw [hst] at e
    split at e
    · rename_i st1 t1 e1
      exact ⟨_, st1, t1, Hi.some m, e1, f.le (go_mono n _ _ e)⟩
    · cases e
  · obtain ⟨as, ha, e1⟩ := h as₁ h1
    obtain ⟨r, st', e, x⟩ := H as ha
    rw [hst, e1] at e
    exact ⟨r, st', e, x⟩

theorem x_callM {MD : Model} {α : Type} {A : Around} {Q : α → Shared → Prop} {E : Value → Shared → Prop} {s : Shared} {c : Code} {g : Bool} {l : List Value} {k : Result → Sem α} (hc : codeAny MD (A.mark none) c (fun r s' => wpAny MD A (k r) Q E s') s) : wpAny MD A (.call c none g l k) Q E s := fun Γ p hΓ => wpCode_mono (fun _ _ q => q Γ p hΓ) (hc _ p rfl (hΓ.enter c none p (by intro x; cases x)))

theorem go_sound (hS : S = ⟨MD.prog, MD.w.params⟩) (hK : K.In h₀) (h94 : ∃ o, h₀.get? 93 = some o) (hden : ∀ c, den c = MD.den c) {α : Type} {A₀ : Around} {E : Value → Shared → Prop} {g : Array GenState} {d : Drawn} {os : OsState} {Q : α → Shared → Prop} : ∀ n : Nat,
    (∀ (t : Sem α) (st : GSt) (m : Nat) (h : Heap), Own h₀ M h st.led → Hyp K S den h₀ M g d os Q n m st (.top t) → wpAny MD A₀ t Q E ⟨h, g, d, st.tok, os⟩) ∧
    (∀ (fs : List (Around × Code × (Result → Sem PySem.Fin))) (A : Around) (c : Code) (t : Sem PySem.Fin) (kb : Result → Sem α) (st : GSt) (m : Nat) (h : Heap), Own h₀ M h st.led → Hyp K S den h₀ M g d os Q n m st (.inn t (fs.map (·.2.2)) kb) →
      wpAny MD (A.under c) t (postF MD A (RQ MD (fun r s' => wpAny MD A₀ (kb r) Q E s') fs)) (fun e s' => RQ MD (fun r s' => wpAny MD A₀ (kb r) Q E s') fs (.error e) s') ⟨h, g, d, st.tok, os⟩)
  | 0 => by
    refine ⟨fun t st m h D H => ?_, fun fs A c t kb st m h D H => ?_⟩
    · obtain ⟨r, st', e, _⟩ := H _ (Hi.some m)
      simp [go] at e
    · obtain ⟨r, st', e, _⟩ := H _ (Hi.some m)
      simp [go] at e
  | n + 1 => by
    obtain ⟨IH1, IH2⟩ := go_sound hS hK h94 hden (A₀ := A₀) (E := E) (g := g) (d := d) (os := os) (Q := Q) n
    -- what a code's end does
    have back : ∀ (fs : List (Around × Code × (Result → Sem PySem.Fin))) (r : Result) (kb : Result → Sem α) (st : GSt) (m : Nat) (h : Heap), Own h₀ M h st.led → Hyp K S den h₀ M g d os Q n m st (Cfg.back r (fs.map (·.2.2)) kb) →
        RQ MD (fun r s' => wpAny MD A₀ (kb r) Q E s') fs r ⟨h, g, d, st.tok, os⟩ := by
      intro fs r kb st m h D H
      cases fs with
      | nil => exact IH1 (kb r) st m h D H
      | cons f fs => obtain ⟨A, c, k⟩ := f; exact IH2 fs A c (k r) kb st m h D H
    have stT : ∀ (t : Sem α) (st : GSt) (m : Nat) (h : Heap), Own h₀ M h st.led → Hyp K S den h₀ M g d os Q (n + 1) m st (.top t) →
        (∀ st, go K S den (n + 1) st (.top t) = match stp K S st t with | some (st', t') => go K S den n st' (.top t') | none => none) → wpAny MD A₀ t Q E ⟨h, g, d, st.tok, os⟩ := by
      intro t st m h D H hst
      obtain ⟨h1, h2⟩ := H.step_top hst
      refine stp_sound hS hK h94 D rfl h1 fun st₁ m' s₁ t₁ D₁ ht₁ hs₁ h3 => ?_
      have := IH1 t₁ st₁ m' s₁.heap D₁ (h2 st₁ m' t₁ h3)
      obtain ⟨hh, gg, dd, tt, oo⟩ := s₁
      obtain ⟨e1, e2, e3⟩ := hs₁
      dsimp only at e1 e2 e3 ht₁ this
      subst e1 e2 e3 ht₁
      exact this
    have stI : ∀ (fs : List (Around × Code × (Result → Sem PySem.Fin))) (A : Around) (c : Code) (t : Sem PySem.Fin) (kb : Result → Sem α) (st : GSt) (m : Nat) (h : Heap), Own h₀ M h st.led → Hyp K S den h₀ M g d os Q (n + 1) m st (.inn t (fs.map (·.2.2)) kb) →
        (∀ st, go K S den (n + 1) st (.inn t (fs.map (·.2.2)) kb) = match stp K S st t with | some (st', t') => go K S den n st' (.inn t' (fs.map (·.2.2)) kb) | none => none) →
        wpAny MD (A.under c) t (postF MD A (RQ MD (fun r s' => wpAny MD A₀ (kb r) Q E s') fs)) (fun e s' => RQ MD (fun r s' => wpAny MD A₀ (kb r) Q E s') fs (.error e) s') ⟨h, g, d, st.tok, os⟩ := by
      intro fs A c t kb st m h D H hst
      obtain ⟨h1, h2⟩ := H.step_inn hst
      refine stp_sound hS hK h94 D rfl h1 fun st₁ m' s₁ t₁ D₁ ht₁ hs₁ h3 => ?_
      have := IH2 fs A c t₁ kb st₁ m' s₁.heap D₁ (h2 st₁ m' t₁ h3)
      obtain ⟨hh, gg, dd, tt, oo⟩ := s₁
      obtain ⟨e1, e2, e3⟩ := hs₁
      dsimp only at e1 e2 e3 ht₁ this
      subst e1 e2 e3 ht₁
      exact this
    refine ⟨fun t st m h D H => ?_, fun fs A c t kb st m h D H => ?_⟩
    · cases t with
      | pure a =>
        obtain ⟨r, st', e, f, q⟩ := H _ (Hi.some m)
        simp only [go, Option.some.injEq, Prod.mk.injEq] at e
        obtain ⟨rfl, rfl⟩ := e
        exact fun _ _ _ => q h D
      | call c hd gd l k =>
        cases hd with
        | some v =>
          obtain ⟨r, st', e, _⟩ := H _ (Hi.some m)
          simp [go] at e
        | none =>
          refine x_callM (MD := MD) ?_
          refine code_of ?_
          rw [← hden]
          exact IH2 [] _ c (den c) k st m h D H
      | _ => exact stT _ st m h D H fun _ => rfl
    · cases t with
      | pure fin =>
        cases fin with
        | done f => exact wpAny_pure (back fs (.ok f) kb st m h D H)
        | again c' =>
          obtain ⟨r, st', e, f, q⟩ := H _ (Hi.some m)
          cases hq : c'.quiet with
          | false => simp [go, hq] at e
          | true =>
            refine wpAny_pure ⟨hq, code_of ?_⟩
            rw [← hden]
            refine IH2 fs A c' (den c') kb st m h D fun as ha => ?_
            obtain ⟨r, st', e, x⟩ := H as ha
            refine ⟨r, st', ?_, x⟩
            simp only [go, hq] at e
            exact e
      | raise e => exact wpAny_throw (back fs (.error e) kb st m h D H)
      | call c2 hd gd l k =>
        cases hd with
        | some v =>
          obtain ⟨r, st', e, _⟩ := H _ (Hi.some m)
          simp [go] at e
        | none =>
          refine x_callM (MD := MD) ?_
          refine code_of ?_
          rw [← hden]
          exact IH2 ((A, c, k) :: fs) _ c2 (den c2) kb st m h D H
      | _ => exact stI fs A c _ kb st m h D H fun _ => rfl
end
end Mine

end Gs_

section Gx_
namespace Mine
noncomputable def den : Code → Sem PySem.Fin := PySem.W.ZFast.zw11892475500146522536 PySem.W.ZFast.tableZ
theorem den_eq (w : World) (c : Code) : den c = (model pg w).den c := by
  show PySem.W.ZFast.zw11892475500146522536 PySem.W.ZFast.tableZ c = denote table c
  rw [← PySem.W.ZFast.ze11892475500146522536, ← PySem.W.ZFast.tableZ_eq]

theorem Own.pick {h₀ h : Heap} {M : List Addr} {L : List (Addr × Obj)} (D : Own h₀ M h L) {idx : List Nat} {Lp : List (Addr × Obj)} (nd : idx.Nodup) (e : idx.map (fun i => L[i]?) = Lp.map some) : Own h₀ M h Lp := by
  have mem : ∀ p ∈ Lp, ∃ i ∈ idx, L[i]? = some p := fun p hp => by
    have : some p ∈ idx.map (fun i => L[i]?) := e ▸ List.mem_map_of_mem hp
    obtain ⟨i, hi, e⟩ := List.mem_map.mp this
    exact ⟨i, hi, e⟩
  refine ⟨D.keep, fun p hp => let ⟨i, _, e⟩ := mem p hp; D.own p (List.mem_of_getElem? e), ?_, fun p hp => let ⟨i, _, e⟩ := mem p hp; D.cover p (List.mem_of_getElem? e), D.alive⟩
  clear mem
  induction idx generalizing Lp with
  | nil => cases Lp with
    | nil => exact List.nodup_nil
    | cons _ _ => simp at e
  | cons i idx ih => cases Lp with
    | nil => simp at e
    | cons p Lp =>
      simp only [List.map_cons, List.cons.injEq] at e
      rw [List.nodup_cons] at nd
      rw [List.map_cons, List.nodup_cons]
      refine ⟨fun hm => ?_, ih nd.2 e.2⟩
      obtain ⟨q, hq, eq⟩ := List.mem_map.mp hm
      have : some q ∈ idx.map (fun i => L[i]?) := e.2 ▸ List.mem_map_of_mem hq
      obtain ⟨j, hj, ej⟩ := List.mem_map.mp this
      have h1 : (L.map (·.1))[i]? = some p.1 := by simp [e.1]
      have h2 : (L.map (·.1))[j]? = some p.1 := by simp [ej, eq]
      obtain ⟨l1, g1⟩ := List.getElem?_eq_some_iff.mp h1
      obtain ⟨l2, g2⟩ := List.getElem?_eq_some_iff.mp h2
      have : i = j := (List.getElem_inj (h₀ := l1) (h₁ := l2) D.apart).mp (g1.trans g2.symm)
      exact nd.1 (this ▸ hj)

/-- a tree run at once by the kernel: what it met, what it made -/
theorem gz {w : World} {A : Around} {E : Value → Shared → Prop} {α : Type} {t : Sem α} {Q : α → Shared → Prop} {h₀ h : Heap} {M : List Addr} {L : List (Addr × Obj)} {g : Array GenState} {d : Drawn} {tk : Nat} {os : OsState}
    (K : Params → Frag) (hK : (K w.params).In h₀) (h94 : ∃ o, h₀.get? 93 = some o) (D : Own h₀ M h L) (hints : List Hint) (m : Nat) (idx : List Nat) (tops : List Addr) (hM : ∀ b ∈ tops, b ∉ M) (nd : idx.Nodup)
    (H : ∀ as : List Addr, Hi m as → ∃ r tk' Lp,
      (go (K w.params) ⟨pg, w.params⟩ den 20000 ⟨hints, as, tk, L, [], []⟩ (.top t)).map (fun x => (x.1, x.2.tok, idx.map (fun i => x.2.led[i]?), x.2.obl.map (·.1), x.2.tops)) =
      (go (K w.params) ⟨pg, w.params⟩ den 20000 ⟨hints, as, tk, L, [], []⟩ (.top t)).bind (fun x => some (r, tk', Lp.map some, x.2.obl.map (·.2), tops)) ∧
      (go (K w.params) ⟨pg, w.params⟩ den 20000 ⟨hints, as, tk, L, [], []⟩ (.top t)).isSome = true ∧
      ∀ h', Own h₀ M h' Lp → Q r ⟨h', g, d, tk', os⟩) : wpAny (model pg w) A t Q E ⟨h, g, d, tk, os⟩ := by
  refine (go_sound (MD := model pg w) (A₀ := A) (E := E) (g := g) (d := d) (os := os) (Q := Q) rfl hK h94 (den_eq w) 20000).1 t ⟨hints, [], tk, L, [], []⟩ m h D fun as ha => ?_
  obtain ⟨r, tk', Lp, e, hs, q⟩ := H as ha
  cases e1 : go (K w.params) ⟨pg, w.params⟩ den 20000 ⟨hints, as, tk, L, [], []⟩ (.top t) with
  | none => rw [e1] at hs; cases hs
  | some x =>
    obtain ⟨r', st'⟩ := x
    rw [e1] at e
    simp only [Option.map_some, Option.bind_some, Option.some.injEq, Prod.mk.injEq] at e
    obtain ⟨rfl, rfl, e3, e4, e5⟩ := e
    refine ⟨r', st', e1, ⟨fun x hx => ?_, e5 ▸ hM⟩, fun h' D' => q h' (D'.pick nd e3)⟩
    obtain ⟨i, hi⟩ := List.mem_iff_getElem?.mp hx
    have z1 : (st'.obl.map (·.1))[i]? = some x.1 := by simp [hi]
    have z2 : (st'.obl.map (·.2))[i]? = some x.2 := by simp [hi]
    rw [e4, z2] at z1
    exact (Option.some.inj z1).symm
end Mine

end Gx_

section Ko_
namespace Mine
theorem Own.at {h₀ h : Heap} {M : List Addr} {L : List (Addr × Obj)} (D : Own h₀ M h L) (i : Nat) {p : Addr × Obj} (hi : L[i]? = some p) : h.get? p.1 = some p.2 := D.own p (List.mem_of_getElem? hi)
section
variable {α : Type} {w : World} {A : Around} {E : Value → Shared → Prop} {h₀ h : Heap} {M : List Addr} {L : List (Addr × Obj)} {g : Array GenState} {d : Drawn} {tk : Nat} {os : OsState}
theorem o_alloc {o : Obj} {Q : Addr → Shared → Prop} (D : Own h₀ M h L) (hf : o.isFreed = false) (k : ∀ a h', Own h₀ M h' (L ++ [(a, o)]) → Q a ⟨h', g, d, tk, os⟩) : wpAny (model pg w) A (alloc o) Q E ⟨h, g, d, tk, os⟩ :=
  wpAny_alloc (k _ _ (D.push hf))
theorem o_update {a : Addr} {f : Obj → Obj} {part : Option Value} {Q : Unit → Shared → Prop} (D : Own h₀ M h L) (i : Nat) {o : Obj} (hi : L[i]? = some (a, o)) (hf : (f o).isFreed = false)
    (k : ∀ h', Own h₀ M h' (L.set i (a, f o)) → Q () ⟨h', g, d, tk, os⟩) : wpAny (model pg w) A (updatePart a part f) Q E ⟨h, g, d, tk, os⟩ :=
  wpAny_updatePart (D.at i hi) (k _ (D.set (p := (a, o)) hi hf))
theorem o_nsGet {a : Addr} {name : Str} {Q : Option Value → Shared → Prop} (D : Own h₀ M h L) (i : Nat) {o : Obj} (hi : L[i]? = some (a, o)) (v : Option Value) (e : nsLook name o = pure v) (k : Q v ⟨h, g, d, tk, os⟩) : wpAny (model pg w) A (nsGet a name) Q E ⟨h, g, d, tk, os⟩ := by
  unfold nsGet
  refine wpAny_bind (wpAny_loadPart (D.at i hi) ?_)
  rw [e]; exact wpAny_pure k
/-- the hash that a name is stored under -/
def hsh (P : Params) (name : Str) : Int := if name.cps.isEmpty then 0 else reduceHash (P.strHash name.cps)
theorem o_nsSet {a : Addr} {name : Str} {v : Value} {Q : Unit → Shared → Prop} (D : Own h₀ M h L) (i : Nat) {o : Obj} (hi : L[i]? = some (a, o)) {es : Array DictEntry} {n : Nat} (hd : o.data = .dict es n) (hr : aRefKeyMayBeTheName name es = false)
    (hf : (Obj.putName name (hsh w.params name) (.str name tk) v o).isFreed = false)
    (k : ∀ h', Own h₀ M h' (L.set i (a, Obj.putName name (hsh w.params name) (.str name tk) v o)) → Q () ⟨h', g, d, tk + 1, os⟩) : wpAny (model pg w) A (nsSet a name v) Q E ⟨h, g, d, tk, os⟩ := by
  unfold nsSet strHash mkText
  refine wpAny_bind (wpAny_bind (wpAny_askSetting (wpAny_pure ?_)))
  refine wpAny_bind (wpAny_bind (wpAny_fresh (wpAny_pure ?_)))
  refine wpAny_bind (wpAny_loadPart (D.at i hi) ?_)
  dsimp only
  rw [hd]
  dsimp only
  rw [hr]
  exact o_update D i hi hf k
theorem o_setSlot {a : Addr} {j : Nat} {v : Option Value} {Q : Unit → Shared → Prop} (D : Own h₀ M h L) (i : Nat) {o : Obj} (hi : L[i]? = some (a, o)) (hj : ¬ j ≥ sizeLine) (hf : o.isFreed = false)
    (k : ∀ h', Own h₀ M h' (L.set i (a, { o with slots := (o.slots ++ Array.replicate (j + 1 - o.slots.size) none).setIfInBounds j v })) → Q () ⟨h', g, d, tk, os⟩) : wpAny (model pg w) A (setSlotAt a j v) Q E ⟨h, g, d, tk, os⟩ := by
  unfold setSlotAt
  rw [if_neg hj]
  exact o_update (f := fun o => { o with slots := (o.slots ++ Array.replicate (j + 1 - o.slots.size) none).setIfInBounds j v }) D i hi (by obtain ⟨c, dd, dt, sl⟩ := o; cases dt <;> first | rfl | exact hf) k
theorem o_nsDel {a : Addr} {name : Str} {Q : Bool → Shared → Prop} (D : Own h₀ M h L) (i : Nat) {o : Obj} (hi : L[i]? = some (a, o)) (e : nsHas name o = pure true) (hf : (Obj.dropName name o).isFreed = false)
    (k : ∀ h', Own h₀ M h' (L.set i (a, Obj.dropName name o)) → Q true ⟨h', g, d, tk, os⟩) : wpAny (model pg w) A (nsDel a name) Q E ⟨h, g, d, tk, os⟩ := by
  unfold nsDel
  refine wpAny_bind (wpAny_loadPart (D.at i hi) ?_)
  rw [e]
  refine wpAny_bind (wpAny_pure ?_)
  exact wpAny_bind (o_update D i hi hf fun h' D' => wpAny_pure (k h' D'))
end
end Mine

end Ko_

section Sr_
namespace Mine
noncomputable def K1 : Params → Frag := Kf
abbrev md (sl : Array (Option Value)) : Obj := ⟨.type "module", some 0, .plain, sl⟩
/-- the built-in names and their module -/
structure Bt (h : Heap) : Prop where
  m4 : ∃ sl, h.get? 4 = some (md sl)
  b0 : ∃ mb, h.Ns 0 mb ∧ ∀ x : Str, x ≠ "__name__" → mb x = bootBuiltins x
theorem Bt.grow {h h' : Heap} (k : ∀ b o, h.get? b = some o → h'.get? b = some o) (x : Bt h) : Bt h' := ⟨let ⟨sl, e⟩ := x.m4; ⟨sl, k _ _ e⟩, let ⟨mb, n, r⟩ := x.b0; ⟨mb, n.keeps k, r⟩⟩
noncomputable def K4 (sl : Array (Option Value)) : Params → Frag := fun P => (4, md sl) :: K1 P
/-- the namespace behind the class body -/
abbrev esK (q : Nat → Int) (u : Nat → Tok) (v1 v2 v3 : Value) (l f1 f2 f3 f4 f5 f6 T : Addr) : Array DictEntry :=
  #[⟨q 0, .str (Str.ofString "__module__") (u 0), v1⟩, ⟨q 1, .str (Str.ofString "__qualname__") (u 1), v2⟩, ⟨q 2, .str (Str.ofString "__firstlineno__") (u 2), v3⟩, ⟨q 3, .str (Str.ofString "__slots__") (u 3), .ref l⟩,
    ⟨q 4, .str (Str.ofString "__init__") (u 4), .ref f1⟩, ⟨q 5, .str (Str.ofString "__lt__") (u 5), .ref f2⟩, ⟨q 6, .str (Str.ofString "__gt__") (u 6), .ref f3⟩, ⟨q 7, .str (Str.ofString "__eq__") (u 7), .ref f4⟩,
    ⟨q 8, .str (Str.ofString "__le__") (u 8), .ref f5⟩, ⟨q 9, .str (Str.ofString "__ge__") (u 9), .ref f6⟩, ⟨q 10, .str (Str.ofString "__hash__") (u 10), .none⟩, ⟨q 11, .str (Str.ofString "__static_attributes__") (u 11), .ref T⟩]
theorem ff : ¬ (false = true) := Bool.false_ne_true
section
variable {α : Type} {M : Model} {A : Around} {s : Shared} {E : Value → Shared → Prop}
theorem ite_kf {b : Bool} {x y : Sem α} {Q : α → Shared → Prop} (e : b = false) (h : wpAny M A y Q E s) : wpAny M A (if b = true then x else y) Q E s := by subst e; exact h
theorem ite_kt {b : Bool} {x y : Sem α} {Q : α → Shared → Prop} (e : b = true) (h : wpAny M A x Q E s) : wpAny M A (if b = true then x else y) Q E s := by subst e; exact h
end
set_option maxHeartbeats 4000000 in
theorem slots_read {w : World} {A : Around} {E : Value → Shared → Prop} {h₀ h : Heap} {M : List Addr} {L : List (Addr × Obj)} {g : Array GenState} {d : Drawn} {tk : Nat} {os : OsState} {Q : Builtin.Slots.Plan → Shared → Prop}
    {l f1 f2 f3 f4 f5 f6 T : Addr} {q : Nat → Int} {u : Nat → Tok} {v1 v2 v3 : Value} {ul : Tok} (D : Own h₀ M h L) (hl : h.get? l = some ⟨.type "list", none, .seq #[.str (Str.ofString "obj") ul] 0, #[]⟩)
    (k : ∀ h', Own h₀ M h' L → Q { names := [Str.ofString "obj"], dict := false, weak := false, inherited := [] } ⟨h', g, d, tk, os⟩) :
    wpAny (model pg w) A (Builtin.Slots.read (Str.ofString "K") [.type "object"] (esK q u v1 v2 v3 l f1 f2 f3 f4 f5 f6 T)) Q E ⟨h, g, d, tk, os⟩ := by
  unfold Builtin.Slots.read
  refine wpAny_bind (closed (r := .type "object") (by kernel_rfl!) ?_)
  refine wpAny_bind (closed (r := []) (by kernel_rfl!) ?_)
  refine wpAny_bind (closed (r := false) (by kernel_rfl!) ?_)
  refine wpAny_bind (closed (r := false) (by kernel_rfl!) ?_)
  refine wpAny_bind (closed (r := false) (by kernel_rfl!) ?_)
  rw [show (esK q u v1 v2 v3 l f1 f2 f3 f4 f5 f6 T).find? (fun x => x.key.isStr (Str.ofString "__slots__")) = some ⟨q 3, .str (Str.ofString "__slots__") (u 3), .ref l⟩ from by kernel_rfl!]
  refine wpAny_bind (wpAny_rule ?_)
  refine wpAny_bind (rd [_] none [l] (by kernel_rfl!) ⟨hl, trivial⟩ ?_)
  refine ite_f ff ?_
  have D1 : Own h₀ M ((h.push (seqObj "list" #[] 0)).update h.objs.size (Obj.mapSeq (· ++ #[.str (Str.ofString "obj") ul]))) L := by
    have d1 := D.push (o := seqObj "list" #[] 0) rfl
    have d2 := d1.set (i := L.length) (p := (h.objs.size, seqObj "list" #[] 0)) (f := Obj.mapSeq (· ++ #[.str (Str.ofString "obj") ul])) (by simp) rfl
    refine d2.pick (idx := List.range L.length) List.nodup_range ?_
    apply List.ext_getElem?
    intro j
    by_cases hj : j < L.length
    · simp [hj, List.getElem?_append, List.getElem?_set]
    · simp [hj]
  refine wpAny_bind (collect_list (vs := [.str (Str.ofString "obj") ul]) ⟨_, hl, rfl, 0, rfl⟩ ?_ (by rw [sizeLine_eq]; simp))
  exact closed (r := { names := [Str.ofString "obj"], dict := false, weak := false, inherited := [] }) (by kernel_rfl!) (k _ D1)
end Mine

end Sr_

section Xs_
namespace Mine
abbrev prg := PySem.Challenge.rw_oy0033_01.prog
abbrev A1 : Around := ⟨none, 440, none, none, 1000⟩
theorem weaken {α : Type} {M : Model} {A : Around} {t : Sem α} {Q : α → Shared → Prop} {E : Value → Shared → Prop} {s : Shared} (h : wpAny M A1 t Q E s) (h1 : A.handled = none) (h2 : A.depth ≤ 440) (h3 : A.units ≤ 1000) : wpAny M A t Q E s :=
  fun Γ p hΓ => h Γ p ⟨hΓ.1.trans h1, Nat.le_trans hΓ.2.1 h2, (by intro l e; cases e), (by intro l e; cases e), Nat.le_trans hΓ.2.2.2.2 h3⟩
abbrev cO (ns : Addr) (mro : List Value) (hd : Bool) (sn : List Str) (sl : Array (Option Value)) : Obj :=
  ⟨.type "type", none, .cls ⟨Str.ofString "K", [.type "object"], mro, ns, Str.ofString "cmp_to_key.<locals>.K", hd, sn, [], false, none, false⟩, sl⟩
local macro_rules | `(tactic| x_close) => `(tactic| (apply_assumption; assumption))
set_option maxHeartbeats 0 in
theorem super_call (w : World) (h : Heap) (g : Array GenState) (d : Drawn) (tk : Nat) (os : OsState) (E : Value → Shared → Prop) (Q : Value → Shared → Prop) (C ns : Addr) (sl : Array (Option Value)) : (K1 w.params).In h →
    h.get? C = some (cO ns [.ref C, .type "object"] false [Str.ofString "obj"] sl) →
    (∀ a h', Mem h h' [] [(a, ⟨.type "super", none, .fields #[.ref C, .ref C, .ref C], #[]⟩)] → Q (.ref a) ⟨h', g, d, tk, os⟩) →
    wpAny (model PySem.Challenge.rw_oy0033_01.prog w) ⟨none, 440, none, none, 1000⟩ (call (.type "super") [.ref C, .ref C]) Q E ⟨h, g, d, tk, os⟩ := by
  k_fill
  intro X hC kk
  delta cO at hC
  x_run
end Mine

end Xs_

section Sg_
namespace Mine
theorem entry_super_ga : entryFor table "super.__getattribute__" = some Builtin.«super.__getattribute__» := entryFor_of_fast (by kernel_rfl!)
section
variable {w : World} {A : Around} {s : Shared} {R : Result → Shared → Prop}
theorem bcode {id : String} {args : Args} {b : Builtin} (hb : entryFor table id = some b)
    (h : wpAny (model pg w) (A.under (.builtin id args)) (b args) (postF (model pg w) A R) (fun e s' => R (.error e) s') s) : codeAny (model pg w) A (.builtin id args) R s := by
  refine code_of ?_
  show wpAny _ _ (match entryFor table id with | some b => b args | none => unsupported ((withoutEnding? id "#data").getD id)) _ _ _
  rw [hb]; exact h
end
theorem Own.grow {h₀ h h' : Heap} {M : List Addr} {L : List (Addr × Obj)} (D : Own h₀ M h L) (k : ∀ b o, h.get? b = some o → h'.get? b = some o) : Own h₀ M h' L :=
  ⟨fun b o e q => k b o (D.keep b o e q), fun p hp => k _ _ (D.own p hp), D.apart, D.cover, fun b o e => let ⟨o', e'⟩ := D.alive b o e; ⟨o', k _ _ e'⟩⟩
theorem Own.two {h : Heap} {a b : Addr} {oa ob : Obj} (ha : h.get? a = some oa) (hb : h.get? b = some ob) (ne : a ≠ b) : Own h [a, b] h [(a, oa), (b, ob)] :=
  ⟨fun _ _ e _ => e, fun p hp => by rcases List.mem_cons.mp hp with rfl | hp; exact ha; rw [List.mem_singleton] at hp; subst hp; exact hb, by simp [ne], fun p hp => .inl (by rcases List.mem_cons.mp hp with rfl | hp; simp; rw [List.mem_singleton] at hp; subst hp; simp), fun _ o e => ⟨o, e⟩⟩
theorem Own.ends2 {h h' : Heap} {a b : Addr} {oa ob : Obj} {L : List (Addr × Obj)} (ha : h.get? a = some oa) (hb : h.get? b = some ob) (D : Own h [a, b] h' ((a, oa) :: (b, ob) :: L)) : ∀ c o, h.get? c = some o → h'.get? c = some o := by
  intro c o e
  by_cases h1 : c = a
  · subst h1; rw [ha] at e; cases e; exact D.own _ (.head _)
  · by_cases h2 : c = b
    · subst h2; rw [hb] at e; cases e; exact D.own _ (.tail _ (.head _))
    · exact D.keep c o e (by simp [h1, h2])
set_option maxHeartbeats 4000000 in
theorem super_attr {w : World} {A : Around} {E : Value → Shared → Prop} {h : Heap} {g : Array GenState} {d : Drawn} {tk : Nat} {os : OsState} {Q : Value → Shared → Prop} {C ns sp : Addr} {sl : Array (Option Value)} (hK : (K1 w.params).In h) (h94 : ∃ o, h.get? 93 = some o) (ne : C ≠ sp)
    (hC : h.get? C = some (cO ns [.ref C, .type "object"] false [Str.ofString "obj"] sl)) (h2 : h.get? 2 = some ⟨.none, none, .dict #[] 0, #[]⟩) (hs : h.get? sp = some ⟨.type "super", none, .fields #[.ref C, .ref C, .ref C], #[]⟩)
    (k : ∀ bm h', (∀ b o, h.get? b = some o → h'.get? b = some o) → h'.get? bm = some ⟨.type "builtin_function_or_method", none, .fields #[.builtin "object.__init_subclass__", .ref C], #[]⟩ → Q (.ref bm) ⟨h', g, d, tk + 1, os⟩) :
    wpAny (model pg w) A (getAttr (.ref sp) (Str.ofString "__init_subclass__")) Q E ⟨h, g, d, tk, os⟩ := by
  unfold getAttr
  refine wpAny_bind (wpAny_mkText ?_)
  unfold getAttrBy
  refine wpAny_holding ?_
  dsimp only
  refine wpAny_bind (typeOf_ref hs ?_)
  refine wpAny_bind (closed (r := some (.builtin "super.__getattribute__")) (by kernel_rfl!) ?_)
  refine ite_kf (by kernel_rfl!) ?_
  unfold getAttrByItsOwn
  refine wpAny_bind (closed (r := none) (by kernel_rfl!) ?_)
  refine wpAny_bind (wpAny_attempt (wpAny_holding ?_))
  unfold callGetattribute
  refine ite_kf (by kernel_rfl!) ?_
  unfold boundAndCalled
  refine wpAny_bind (closed (r := (.builtin "super.__getattribute__", [.ref sp])) (by kernel_rfl!) ?_)
  refine wpAny_call (code_of (rd [_] (.again (.builtin "super.__getattribute__" ⟨[.ref sp, .str (Str.ofString "__init_subclass__") tk], []⟩)) [sp] (by kernel_rfl!) ⟨hs, trivial⟩ ?_))
  refine ⟨by kernel_rfl!, bcode entry_super_ga ?_⟩
  unfold Builtin.«super.__getattribute__»
  refine wpAny_bind (closed (r := some (Str.ofString "__init_subclass__")) (by kernel_rfl!) ?_)
  refine ite_kf (by kernel_rfl!) ?_
  refine wpAny_bind (closed (r := some (Str.ofString "__init_subclass__")) (by kernel_rfl!) ?_)
  refine wpAny_bind (rd [_] (.ref C) [sp] (by kernel_rfl!) ⟨hs, trivial⟩ ?_)
  refine wpAny_bind (rd [_] (.ref C) [sp] (by kernel_rfl!) ⟨hs, trivial⟩ ?_)
  refine wpAny_bind (rd [_] (.ref C) [sp] (by kernel_rfl!) ⟨hs, trivial⟩ ?_)
  refine ite_kf (by kernel_rfl!) ?_
  refine wpAny_bind (rd [_] () [2] (by kernel_rfl!) ⟨h2, trivial⟩ ?_)
  refine ite_kf (by kernel_rfl!) ?_
  refine wpAny_bind (rd [_] [.ref C, .type "object"] [C] (by kernel_rfl!) ⟨hC, trivial⟩ ?_)
  refine wpAny_bind ?_
  rw [show List.drop 1 (List.dropWhile (fun x => x != Value.ref C) [Value.ref C, Value.type "object"]) = [Value.type "object"] from by simp]
  simp only [List.forIn_cons, List.forIn_nil, beq_self_eq_true, if_true]
  refine wpAny_bind (wpAny_bind (closed (r := some (.builtin "object.__init_subclass__")) (by kernel_rfl!) ?_))
  refine wpAny_bind (closed (r := .type "classmethod_descriptor") (by kernel_rfl!) ?_)
  refine wpAny_bind (closed (r := some (.builtin "classmethod_descriptor.__get__")) (by kernel_rfl!) ?_)
  refine wpAny_bind (wpAny_holding (gz K1 hK h94 (Own.two hC hs ne) [.own 0, .own 0] 1 (List.range 3) [] (by simp) (by decide) fun as ha => ?_))
  match as, ha with
  | [bm], _ =>
  refine ⟨.ref bm, tk + 1, [(C, cO ns [.ref C, .type "object"] false [Str.ofString "obj"] sl), (sp, ⟨.type "super", none, .fields #[.ref C, .ref C, .ref C], #[]⟩), (bm, ⟨.type "builtin_function_or_method", none, .fields #[.builtin "object.__init_subclass__", .ref C], #[]⟩)], by kernel_rfl!, by kernel_rfl!, fun h' D' => ?_⟩
  have kp := Own.ends2 hC hs D'
  have hb := D'.own _ (.tail _ (.tail _ (.head _)))
  refine wpAny_bind (wpAny_pure (wpAny_pure ?_))
  refine wpAny_pure ?_
  refine wpAny_pure ?_
  exact wpAny_pure (k bm h' kp hb)
end Mine

end Sg_

section C3_
namespace Mine
theorem entry_type_call : entryFor table "type.__call__" = some Builtin.«type.__call__» := entryFor_of_fast (by kernel_rfl)
theorem entry_type_new : entryFor table "type.__new__" = some Builtin.«type.__new__» := entryFor_of_fast (by kernel_rfl)
/-- the ledger when the class is made: the namespace, the bases, the slots' list, the six functions, the tuple of names, the codes -/
abbrev LK (N B l f1 f2 f3 f4 f5 f6 T k1 k2 k3 k4 k5 : Addr) (es : Array DictEntry) (n : Nat) (ul : Tok) (d1 d2 d3 d4 d5 d6 dT : Data) (o1 o2 o3 o4 o5 : Obj) : List (Addr × Obj) :=
  [(N, ⟨.type "dict", none, .dict es n, #[]⟩), (B, ⟨.type "tuple", none, .seq #[.type "object"] 0, #[]⟩), (l, ⟨.type "list", none, .seq #[.str (Str.ofString "obj") ul] 0, #[]⟩),
   (f1, ⟨.type "function", none, d1, #[]⟩), (f2, ⟨.type "function", none, d2, #[]⟩), (f3, ⟨.type "function", none, d3, #[]⟩), (f4, ⟨.type "function", none, d4, #[]⟩), (f5, ⟨.type "function", none, d5, #[]⟩), (f6, ⟨.type "function", none, d6, #[]⟩),
   (T, ⟨.type "tuple", none, dT, #[]⟩), (k1, o1), (k2, o2), (k3, o3), (k4, o4), (k5, o5)]
abbrev esD (q : Nat → Int) (u : Nat → Tok) (v1 v3 : Value) (l f1 f2 f3 f4 f5 f6 T : Addr) : List DictEntry :=
  [⟨q 0, .str (Str.ofString "__module__") (u 0), v1⟩, ⟨q 2, .str (Str.ofString "__firstlineno__") (u 2), v3⟩, ⟨q 3, .str (Str.ofString "__slots__") (u 3), .ref l⟩,
    ⟨q 4, .str (Str.ofString "__init__") (u 4), .ref f1⟩, ⟨q 5, .str (Str.ofString "__lt__") (u 5), .ref f2⟩, ⟨q 6, .str (Str.ofString "__gt__") (u 6), .ref f3⟩, ⟨q 7, .str (Str.ofString "__eq__") (u 7), .ref f4⟩,
    ⟨q 8, .str (Str.ofString "__le__") (u 8), .ref f5⟩, ⟨q 9, .str (Str.ofString "__ge__") (u 9), .ref f6⟩, ⟨q 10, .str (Str.ofString "__hash__") (u 10), .none⟩, ⟨q 11, .str (Str.ofString "__static_attributes__") (u 11), .ref T⟩]
abbrev dO (es : List DictEntry) (n : Nat) : Obj := ⟨.type "dict", none, .dict es.toArray n, #[]⟩
theorem k93 (P : Params) : ∃ o, (K1 P).lookup 93 = some o := Option.isSome_iff_exists.mp (by kernel_rfl!)
theorem mem_grow {h h' : Heap} {news : List (Addr × Obj)} (D : Mem h h' [] news) : ∀ b o, h.get? b = some o → h'.get? b = some o := fun b o e => D.keep b o e (Bool.or_true _)
abbrev A0 : Around := ⟨none, 420, none, none, 500⟩
abbrev LF (N B l f1 f2 f3 f4 f5 f6 T k1 k2 k3 k4 k5 ns C m : Addr) (q : Nat → Int) (u : Nat → Tok) (P : Params) (md qn fl tn ul tk : Tok) (n : Nat) (d1 d2 d3 d4 d5 d6 dT : Data) (o1 o2 o3 o4 o5 : Obj) : List (Addr × Obj) :=
  LK N B l f1 f2 f3 f4 f5 f6 T k1 k2 k3 k4 k5 (esK q u (.str (Str.ofString "cpy313.functools") md) (.str (Str.ofString "cmp_to_key.<locals>.K") qn) (.int 22 fl) l f1 f2 f3 f4 f5 f6 T) n ul d1 d2 d3 d4 d5 d6 dT o1 o2 o3 o4 o5 ++
    [(ns, dO (esD q u (.str (Str.ofString "cpy313.functools") md) (.int 22 fl) l f1 f2 f3 f4 f5 f6 T ++ [⟨hsh P (Str.ofString "obj"), .str (Str.ofString "obj") (tk + 1), .ref m⟩, ⟨hsh P (Str.ofString "__doc__"), .str (Str.ofString "__doc__") (tk + 2), .none⟩]) 3),
     (C, cO ns [.ref C, .type "object"] false [Str.ofString "obj"] #[some (.ref B), none, some (.str (Str.ofString "K") tn), some (.str (Str.ofString "cmp_to_key.<locals>.K") qn), some (.builtin "object.__new__"), some (.bool false)]),
     (m, ⟨.type "member_descriptor", none, .fields #[.str (Str.ofString "obj") tk, .ref C, .builtin "proto.slot", .builtin "proto.slot#set", rawInt 0], #[]⟩)]
set_option maxHeartbeats 4000000 in
theorem tc1 {w : World} {E : Value → Shared → Prop} {h₀ h : Heap} {M : List Addr} {g : Array GenState} {d : Drawn} {tk : Nat} {os : OsState} {Q : Value → Shared → Prop}
    {N B l f1 f2 f3 f4 f5 f6 T k1 k2 k3 k4 k5 : Addr} {q : Nat → Int} {u : Nat → Tok} {md qn fl tn ul : Tok} {n : Nat} {d1 d2 d3 d4 d5 d6 dT : Data} {o1 o2 o3 o4 o5 : Obj}
    (hK : (K1 w.params).In h₀) (h94 : ∃ o, h₀.get? 93 = some o) (hN : N ≠ 1) (hKM : ∀ b o, (K1 w.params).lookup b = some o → b ∉ M) {es : Array DictEntry} (hes : es = esK q u (.str (Str.ofString "cpy313.functools") md) (.str (Str.ofString "cmp_to_key.<locals>.K") qn) (.int 22 fl) l f1 f2 f3 f4 f5 f6 T)
    (D : Own h₀ M h (LK N B l f1 f2 f3 f4 f5 f6 T k1 k2 k3 k4 k5 es n ul d1 d2 d3 d4 d5 d6 dT o1 o2 o3 o4 o5))
    (k : ∀ ns C m h', Own h₀ M h' (LF N B l f1 f2 f3 f4 f5 f6 T k1 k2 k3 k4 k5 ns C m q u w.params md qn fl tn ul tk n d1 d2 d3 d4 d5 d6 dT o1 o2 o3 o4 o5) → Q (.ref C) ⟨h', g, d, tk + 4, os⟩) :
    wpAny (model pg w) A0 (call (.type "type") [.str (Str.ofString "K") tn, .ref B, .ref N] []) Q E ⟨h, g, d, tk, os⟩ := by
  refine wpAny_call (code_of (wpAny_pure ⟨by kernel_rfl, bcode entry_type_call ?_⟩))
  unfold Builtin.«type.__call__»
  refine ite_t (by decide) ?_
  refine ite_f ff ?_
  refine ite_f ff ?_
  refine ite_f (by decide +kernel) ?_
  refine wpAny_bind (closed (r := ()) (by kernel_rfl) ?_)
  refine wpAny_bind (closed (r := [.type "type", .type "object"]) (by kernel_rfl) ?_)
  refine ite_f ff ?_
  refine wpAny_bind (closed (r := some "type.__new__") (by kernel_rfl) ?_)
  refine wpAny_bind (wpAny_pure ?_)
  refine wpAny_bind (wpAny_holding (wpAny_call (code_of (closed (r := .again (.builtin "type.__new__" ⟨[.type "type", .str (Str.ofString "K") tn, .ref B, .ref N], []⟩)) (by kernel_rfl) ?_))))
  refine ⟨by kernel_rfl, bcode entry_type_new ?_⟩
  have eN := D.own _ (.head _)
  have eB := D.own _ (.tail _ (.head _))
  dsimp only at eN eB
  unfold Builtin.«type.__new__»
  refine wpAny_bind (closed (r := some (Str.ofString "K")) (by kernel_rfl) ?_)
  refine wpAny_bind (wpAny_bind (typeOf_ref eB (closed (r := true) (by kernel_rfl) ?_)))
  refine ite_f ff ?_
  refine wpAny_bind (wpAny_bind (typeOf_ref eN (closed (r := true) (by kernel_rfl) ?_)))
  refine ite_f ff ?_
  refine wpAny_bind (rd [_] (some #[.type "object"]) [B] (by kernel_rfl) ⟨eB, trivial⟩ ?_)
  refine ite_f (by decide) ?_
  refine wpAny_bind (closed (r := PUnit.unit) (by kernel_rfl) ?_)
  refine wpAny_bind (closed (r := .type "type") (by kernel_rfl) ?_)
  refine ite_f (by decide) ?_
  refine wpAny_bind (closed (r := ()) (by kernel_rfl) ?_)
  refine wpAny_bind (closed (r := .type "object") (by kernel_rfl) ?_)
  refine ite_f (by simpa [sysModules] using hN) ?_
  refine wpAny_bind (rd [_] es [N] (by kernel_rfl!) ⟨eN, trivial⟩ ?_)
  refine wpAny_bind (rd [_] (some (.builtin "dict.__iter__")) [N] (by kernel_rfl!) ⟨eN, trivial⟩ ?_)
  refine ite_t (by simp) ?_
  refine wpAny_bind (wpAny_pure ?_)
  subst hes
  refine wpAny_bind (wpAny_holding (slots_read D (D.at 2 rfl) fun h1 D1 => ?_))
  refine wpAny_bind (gz K1 hK h94 D1 [] 1 (List.range 16) [] (by simp) (by decide) fun as ha => ?_)
  match as, ha with
  | [ns], _ =>
  refine ⟨.ref ns, tk, LK N B l f1 f2 f3 f4 f5 f6 T k1 k2 k3 k4 k5 (esK q u (.str (Str.ofString "cpy313.functools") md) (.str (Str.ofString "cmp_to_key.<locals>.K") qn) (.int 22 fl) l f1 f2 f3 f4 f5 f6 T) n ul d1 d2 d3 d4 d5 d6 dT o1 o2 o3 o4 o5 ++
    [(ns, ⟨.type "dict", none, .dict (esK q u (.str (Str.ofString "cpy313.functools") md) (.str (Str.ofString "cmp_to_key.<locals>.K") qn) (.int 22 fl) l f1 f2 f3 f4 f5 f6 T) 0, #[]⟩)], by kernel_rfl!, by kernel_rfl!, fun h2 D2 => ?_⟩
  refine ite_kf (by kernel_rfl!) ?_
  refine wpAny_bind (ite_kf (by kernel_rfl!) (wpAny_pure ?_))
  refine ite_kf (by kernel_rfl!) ?_
  refine wpAny_bind (o_nsGet D2 15 rfl (some (.str (Str.ofString "cmp_to_key.<locals>.K") qn)) (by kernel_rfl!) ?_)
  refine wpAny_bind (o_nsGet D2 15 rfl (some (.str (Str.ofString "cmp_to_key.<locals>.K") qn)) (by kernel_rfl!) ?_)
  refine wpAny_bind (closed (r := some (Str.ofString "cmp_to_key.<locals>.K")) (by kernel_rfl!) ?_)
  refine wpAny_bind (wpAny_pure ?_)
  refine wpAny_bind (o_nsGet D2 15 rfl none (by kernel_rfl!) ?_)
  refine wpAny_bind (o_alloc D2 rfl fun C h3 D3 => ?_)
  refine ite_t (by decide) ?_
  refine wpAny_bind (o_setSlot (j := 0) D3 16 rfl (by decide +kernel) rfl fun h4 D4 => ?_)
  refine wpAny_bind (o_setSlot (j := 2) D4 16 rfl (by decide +kernel) rfl fun h5 D5 => ?_)
  refine wpAny_bind (o_setSlot (j := 3) D5 16 rfl (by decide +kernel) rfl fun h6 D6 => ?_)
  refine wpAny_bind (o_nsDel D6 15 rfl (by kernel_rfl!) rfl fun h7 D7 => ?_)
  have D8 := D7.pick (idx := List.range 17) (Lp := LK N B l f1 f2 f3 f4 f5 f6 T k1 k2 k3 k4 k5 (esK q u (.str (Str.ofString "cpy313.functools") md) (.str (Str.ofString "cmp_to_key.<locals>.K") qn) (.int 22 fl) l f1 f2 f3 f4 f5 f6 T) n ul d1 d2 d3 d4 d5 d6 dT o1 o2 o3 o4 o5 ++
    [(ns, dO (esD q u (.str (Str.ofString "cpy313.functools") md) (.int 22 fl) l f1 f2 f3 f4 f5 f6 T) 1), (C, cO ns [] true [] #[some (.ref B), none, some (.str (Str.ofString "K") tn), some (.str (Str.ofString "cmp_to_key.<locals>.K") qn)])]) (by decide) (by kernel_rfl!)
  clear D7 D6 D5 D4 D3 D2 D1 D eN eB
  refine wpAny_bind (o_nsGet D8 15 rfl none (by kernel_rfl!) ?_)
  have e1 := D8.at 15 rfl
  have e2 := D8.at 16 rfl
  refine wpAny_bind (rd [_, _] PUnit.unit [ns, ns] (by kernel_rfl!) ⟨e1, e1, trivial⟩ ?_)
  refine wpAny_bind (o_nsGet D8 15 rfl none (by kernel_rfl!) ?_)
  refine wpAny_bind (o_nsGet D8 15 rfl none (by kernel_rfl!) ?_)
  refine wpAny_bind (closed (r := none) (by kernel_rfl!) ?_)
  refine wpAny_bind (closed (r := [.type "object"]) (by kernel_rfl!) ?_)
  refine wpAny_bind (wpAny_pure ?_)
  refine wpAny_bind ?_
  rw [show List.filter (fun x => x != Value.ref C) [Value.ref C, Value.type "object"] = [Value.type "object"] from by simp]
  refine closed (r := false) (by kernel_rfl!) ?_
  refine wpAny_bind (gz K1 hK h94 D8 [.own 16, .own 16, .own 16] 0 (List.range 17) [] (by simp) (by decide) fun as ha => ?_)
  match as, ha with
  | [], _ =>
  refine ⟨(), tk, LK N B l f1 f2 f3 f4 f5 f6 T k1 k2 k3 k4 k5 (esK q u (.str (Str.ofString "cpy313.functools") md) (.str (Str.ofString "cmp_to_key.<locals>.K") qn) (.int 22 fl) l f1 f2 f3 f4 f5 f6 T) n ul d1 d2 d3 d4 d5 d6 dT o1 o2 o3 o4 o5 ++
    [(ns, dO (esD q u (.str (Str.ofString "cpy313.functools") md) (.int 22 fl) l f1 f2 f3 f4 f5 f6 T) 1), (C, cO ns [.ref C, .type "object"] true [] #[some (.ref B), none, some (.str (Str.ofString "K") tn), some (.str (Str.ofString "cmp_to_key.<locals>.K") qn)])], by kernel_rfl!, by kernel_rfl!, fun h9 D9 => ?_⟩
  clear D8 e1 e2
  refine wpAny_bind (closed (r := some "object.__new__") (by kernel_rfl!) ?_)
  refine wpAny_bind (o_setSlot (j := 4) D9 16 rfl (by decide +kernel) rfl fun ha Da => ?_)
  have e1 := Da.at 15 rfl
  have e2 := Da.at 16 rfl
  refine wpAny_bind (rd [_, _, _, _] () [C, C, C, ns] (by kernel_rfl!) ⟨e2, e2, e2, e1, trivial⟩ ?_)
  refine wpAny_bind (gz K1 hK h94 Da [.own 15, .own 15, .own 15, .own 15, .own 16, .own 16, .own 16] 1 (List.range 18) [] (by simp) (by decide) fun as ha => ?_)
  match as, ha with
  | [m], _ =>
  refine ⟨(), tk + 2, LK N B l f1 f2 f3 f4 f5 f6 T k1 k2 k3 k4 k5 (esK q u (.str (Str.ofString "cpy313.functools") md) (.str (Str.ofString "cmp_to_key.<locals>.K") qn) (.int 22 fl) l f1 f2 f3 f4 f5 f6 T) n ul d1 d2 d3 d4 d5 d6 dT o1 o2 o3 o4 o5 ++
    [(ns, dO (esD q u (.str (Str.ofString "cpy313.functools") md) (.int 22 fl) l f1 f2 f3 f4 f5 f6 T ++ [⟨hsh w.params (Str.ofString "obj"), .str (Str.ofString "obj") (tk + 1), .ref m⟩]) 2),
     (C, cO ns [.ref C, .type "object"] false [Str.ofString "obj"] #[some (.ref B), none, some (.str (Str.ofString "K") tn), some (.str (Str.ofString "cmp_to_key.<locals>.K") qn), some (.builtin "object.__new__")]),
     (m, ⟨.type "member_descriptor", none, .fields #[.str (Str.ofString "obj") tk, .ref C, .builtin "proto.slot", .builtin "proto.slot#set", rawInt 0], #[]⟩)], by kernel_rfl!, by kernel_rfl!, fun hb Db => ?_⟩
  clear Da D9 e1 e2
  refine wpAny_bind (closed (r := false) (by kernel_rfl!) ?_)
  refine wpAny_bind (o_setSlot (j := 5) Db 16 rfl (by decide +kernel) rfl fun hc Dc => ?_)
  refine ite_f ff ?_
  refine ite_f ff ?_
  refine wpAny_bind (o_nsGet Dc 15 rfl none (by kernel_rfl!) ?_)
  refine ite_t rfl ?_
  refine wpAny_bind (o_nsSet Dc 15 rfl rfl (by kernel_rfl!) rfl fun hd' Dd => ?_)
  have De := Dd.pick (idx := List.range 18) (Lp := LK N B l f1 f2 f3 f4 f5 f6 T k1 k2 k3 k4 k5 (esK q u (.str (Str.ofString "cpy313.functools") md) (.str (Str.ofString "cmp_to_key.<locals>.K") qn) (.int 22 fl) l f1 f2 f3 f4 f5 f6 T) n ul d1 d2 d3 d4 d5 d6 dT o1 o2 o3 o4 o5 ++
    [(ns, dO (esD q u (.str (Str.ofString "cpy313.functools") md) (.int 22 fl) l f1 f2 f3 f4 f5 f6 T ++ [⟨hsh w.params (Str.ofString "obj"), .str (Str.ofString "obj") (tk + 1), .ref m⟩, ⟨hsh w.params (Str.ofString "__doc__"), .str (Str.ofString "__doc__") (tk + 2), .none⟩]) 3),
     (C, cO ns [.ref C, .type "object"] false [Str.ofString "obj"] #[some (.ref B), none, some (.str (Str.ofString "K") tn), some (.str (Str.ofString "cmp_to_key.<locals>.K") qn), some (.builtin "object.__new__"), some (.bool false)]),
     (m, ⟨.type "member_descriptor", none, .fields #[.str (Str.ofString "obj") tk, .ref C, .builtin "proto.slot", .builtin "proto.slot#set", rawInt 0], #[]⟩)]) (by decide) (by kernel_rfl!)
  clear Dd Dc Db
  refine wpAny_bind (o_nsGet De 15 rfl (some (.ref f4)) (by kernel_rfl!) ?_)
  refine ite_t rfl ?_
  refine wpAny_bind (o_nsGet De 15 rfl (some .none) (by kernel_rfl!) ?_)
  refine ite_f ff ?_
  refine wpAny_bind (closed (r := PUnit.unit) (by kernel_rfl!) ?_)
  have X : (K1 w.params).In hd' := fun b o e => De.keep b o (hK b o e) (hKM b o e)
  have x2 : hd'.get? 2 = some ⟨.none, none, .dict #[] 0, #[]⟩ := X 2 _ (by kernel_rfl!)
  obtain ⟨o93, e93⟩ := k93 w.params
  have e1 := De.at 15 rfl
  have e2 := De.at 16 rfl
  refine wpAny_bind ?_
  refine wpAny_tryCatch ?_
  refine wpAny_holding ?_
  refine wpAny_bind (rd [_] _ [ns] rfl ⟨e1, trivial⟩ ?_)
  refine wpAny_bind (closed (r := false) (by kernel_rfl!) ?_)
  refine ite_f ff ?_
  refine wpAny_bind (rd [_] _ [ns] rfl ⟨e1, trivial⟩ ?_)
  refine wpAny_bind (rd [_, _, _, _, _, _, _, _, _] PUnit.unit [l, f1, f2, f3, f4, f5, f6, T, m] (by kernel_rfl!) ⟨De.at 2 rfl, De.at 3 rfl, De.at 4 rfl, De.at 5 rfl, De.at 6 rfl, De.at 7 rfl, De.at 8 rfl, De.at 9 rfl, De.at 17 rfl, trivial⟩ ?_)
  refine wpAny_bind (weaken (super_call w hd' g d _ os _ _ C ns _ X e2 fun sp h9 Dm => ?_) rfl (Nat.le_of_ble_eq_true (by kernel_rfl!)) (Nat.le_of_ble_eq_true (by kernel_rfl!)))
  have gw := mem_grow Dm
  have Df := De.grow gw
  have X9 : (K1 w.params).In h9 := fun b o e => gw _ _ (X b o e)
  have es := (Dm.nw _ (.head _)).1
  have nsp : C ≠ sp := fun q => by have := (Dm.nw _ (.head _)).2; dsimp only at this; rw [← q, e2] at this; cases this
  refine wpAny_bind (wpAny_holding (super_attr X9 ⟨_, X9 93 _ e93⟩ nsp (gw _ _ e2) (gw _ _ x2) es fun bm ha' gb eb => ?_))
  have Dg := Df.grow gb
  have e3 := Dg.at 16 rfl
  have nbm : C ≠ bm := fun q => by rw [← q, e3] at eb; simp at eb
  have Xa : (K1 w.params).In ha' := fun b o e => gb _ _ (X9 b o e)
  refine wpAny_bind (gz K1 Xa ⟨_, Xa 93 _ e93⟩ (Own.two e3 eb nbm) [.own 1, .own 0, .own 0, .own 0, .own 0] 0 (List.range 2) [] (by simp) (by decide) fun as ha => ?_)
  match as, ha with
  | [], _ =>
  refine ⟨.none, tk + 4, [(C, cO ns [.ref C, .type "object"] false [Str.ofString "obj"] #[some (.ref B), none, some (.str (Str.ofString "K") tn), some (.str (Str.ofString "cmp_to_key.<locals>.K") qn), some (.builtin "object.__new__"), some (.bool false)]), (bm, ⟨.type "builtin_function_or_method", none, .fields #[.builtin "object.__init_subclass__", .ref C], #[]⟩)], by kernel_rfl!, by kernel_rfl!, fun hz Dz => ?_⟩
  have Dh := Dg.grow (Own.ends2 e3 eb Dz)
  have e4 := Dh.at 16 rfl
  have e5 := Dh.at 1 rfl
  have nCB : C ≠ B := fun q => by rw [← q, e4] at e5; simp at e5
  have Xz : (K1 w.params).In hz := fun b o e => Own.ends2 e3 eb Dz _ _ (Xa b o e)
  refine wpAny_pure ?_
  refine wpAny_pure ?_
  refine wpAny_bind (rd [_] true [C] (by kernel_rfl!) ⟨e4, trivial⟩ ?_)
  refine ite_f ff ?_
  refine wpAny_bind (wpAny_holding (gz K1 Xz ⟨_, Xz 93 _ e93⟩ (Own.two e4 e5 nCB) [.own 0, .own 0] 0 (List.range 2) [] (by simp) (by decide) fun as ha => ?_))
  match as, ha with
  | [], _ =>
  refine ⟨some .none, tk + 4, [(C, cO ns [.ref C, .type "object"] false [Str.ofString "obj"] #[some (.ref B), none, some (.str (Str.ofString "K") tn), some (.str (Str.ofString "cmp_to_key.<locals>.K") qn), some (.builtin "object.__new__"), some (.bool false)]), (B, ⟨.type "tuple", none, .seq #[.type "object"] 0, #[]⟩)], by kernel_rfl!, by kernel_rfl!, fun hy Dy => ?_⟩
  refine ite_kf (by kernel_rfl!) ?_
  exact wpAny_pure (k ns C m hy (Dh.grow (Own.ends2 e4 e5 Dy)))
end Mine

end C3_

section C4_
namespace Mine
noncomputable def fnOf (P : Params) (a : Addr) : FuncData := match (K1 P).lookup a with
  | some ⟨_, _, .func fd, _⟩ => fd
  | _ => default
def bodyOf (fd : FuncData) : List Stmt := match fd.body with
  | .stmts b => b
  | _ => []
def clsOf (b : List Stmt) : Stmt := match b with
  | s :: _ => s
  | _ => .Pass default
def clsBody : Stmt → List Stmt
  | .ClassDef _ _ _ b .. => b
  | _ => []
def clsBases : Stmt → List PySem.Expr
  | .ClassDef _ b .. => b
  | _ => []
def clsScope : Stmt → Scope
  | .ClassDef _ _ _ _ _ _ s .. => s
  | _ => default
def clsStat : Stmt → List Str
  | .ClassDef _ _ _ _ _ _ _ _ _ s _ => s
  | _ => []
def clsPos : Stmt → Pos
  | .ClassDef _ _ _ _ _ _ _ _ _ _ p => p
  | _ => default
def pBody (i : Nat) : List Stmt := match pg.main.body[i]? with
  | some (.FunctionDef _ _ b ..) => b
  | _ => []
def ctk : List Stmt := pBody 5
def kc : Stmt := clsOf ctk
theorem kc_eq : kc = .ClassDef (Str.ofString "K") (clsBases kc) [] (clsBody kc) [] [] (clsScope kc) none (Str.ofString "K") (clsStat kc) (clsPos kc) := by kernel_rfl!
theorem ctk_eq (P : Params) : (fnOf P 48).body = .stmts ctk := by kernel_rfl!
noncomputable def envC (P : Params) (L c : Addr) : Env := newEnv (fnOf P 48).scope L (fnOf P 48).globals [(Str.ofString "mycmp", c)] ((fnOf P 48).qualname ++ ".<locals>.") (some 48) (fnOf P 48).code none (fnOf P 48).builtins
abbrev tab (l : List Value) : Obj := ⟨.none, none, .fields l.toArray, #[]⟩
theorem noLimit_of {h : Heap} (x2 : h.get? 2 = some ⟨.none, none, .dict #[] 0, #[]⟩) : h.NoLimit := ⟨fun _ => none, ⟨_, #[], 0, x2, rfl, fun e he => absurd he (by simp), fun _ => rfl⟩, rfl⟩
def dfn (i : Nat) : Stmt := (clsBody kc).getD i (.Pass default)
/-- the function that a def of the class body makes -/
def fnS (s : Stmt) (q : Str) (clo : List (Str × Addr)) (code : Addr) (ct : Value) : Data := match s with
  | .FunctionDef name args body _ _ _ scope .. => .func { name, qualname := q, params := args, body := .stmts body, scope, globals := 3, closure := clo, defaults := .none, kwdefaults := .none, doc := .none, pyModule := .str (Str.ofString "law_oy0033_01") 247, annotations := none, code := .ref code, closureTuple := ct, builtins := 0 }
  | _ => .plain
def nmK (i : Nat) : Str := [Str.ofString "__module__", Str.ofString "__qualname__", Str.ofString "__firstlineno__", Str.ofString "__slots__", Str.ofString "__init__", Str.ofString "__lt__", Str.ofString "__gt__", Str.ofString "__eq__", Str.ofString "__le__", Str.ofString "__ge__", Str.ofString "__hash__", Str.ofString "__static_attributes__"].getD i default
noncomputable def qK (P : Params) (i : Nat) : Int := if i < 3 ∨ i = 11 then hsh P (nmK i) else PySem.W.ZFast.zw12210062019545310541 (P.strHash (nmK i).cps)
def uK (tk : Nat) (i : Nat) : Tok := tk + [8, 10, 12, 16, 24, 33, 42, 51, 60, 69, 70, 72].getD i 0

/-- a code object -/
abbrev cdO (nm q : Str) (line argc fl : Int) (t0 t1 t2 t3 z : Nat) (x y1 y2 y3 : Value) (pl : Addr) : Obj :=
  ⟨.type "code", none, .fields #[.str nm t0, .str q t1, .str (Str.ofString "/claim/cut.py") t2, rawInt line, rawInt argc, rawInt 0, rawInt 0, rawInt fl, x, .bool true, rawInt 181, .ref pl, .none, y1, y2, y3, rawInt (z : Int), rawInt line, .str (Str.ofString "/claim/cut.py") t3], #[]⟩
def CodeIs (h : Heap) (a : Addr) (nm q : Str) (line argc fl : Int) : Prop := ∃ t0 t1 t2 t3 z x y1 y2 y3 pl, h.get? a = some (cdO nm q line argc fl t0 t1 t2 t3 z x y1 y2 y3 pl)
abbrev plK (c1 c2 c3 c4 c5 c6 : Addr) : Obj := tab [rawInt 26, rawInt 8, .ref c1, rawInt 29, rawInt 8, .ref c2, rawInt 32, rawInt 8, .ref c3, rawInt 35, rawInt 8, .ref c4, rawInt 38, rawInt 8, .ref c5, rawInt 41, rawInt 8, .ref c6]
/-- the codes of the class, made by an earlier call -/
structure FullK (h : Heap) (cK PK c1 c2 c3 c4 c5 c6 : Addr) : Prop where
  t : h.get? 43 = some (tab [rawInt 22, rawInt 4, .ref cK])
  p : h.get? PK = some (plK c1 c2 c3 c4 c5 c6)
  k : ∃ t0 t1 t2 t3 z x y1 y2 y3, h.get? cK = some (cdO (Str.ofString "K") (Str.ofString "cmp_to_key.<locals>.K") 22 0 0 t0 t1 t2 t3 z x y1 y2 y3 PK)
  low : 94 ≤ PK ∧ 94 ≤ cK ∧ 94 ≤ c1
  e1 : CodeIs h c1 (Str.ofString "__init__") (Str.ofString "cmp_to_key.<locals>.K.__init__") 26 2 19
  e2 : CodeIs h c2 (Str.ofString "__lt__") (Str.ofString "cmp_to_key.<locals>.K.__lt__") 29 2 19
  e3 : CodeIs h c3 (Str.ofString "__gt__") (Str.ofString "cmp_to_key.<locals>.K.__gt__") 32 2 19
  e4 : CodeIs h c4 (Str.ofString "__eq__") (Str.ofString "cmp_to_key.<locals>.K.__eq__") 35 2 19
  e5 : CodeIs h c5 (Str.ofString "__le__") (Str.ofString "cmp_to_key.<locals>.K.__le__") 38 2 19
  e6 : CodeIs h c6 (Str.ofString "__ge__") (Str.ofString "cmp_to_key.<locals>.K.__ge__") 41 2 19
theorem k1_dom {P : Params} {b : Addr} {o : Obj} (e : (K1 P).lookup b = some o) : b < 94 ∧ b ≠ 43 ∧ b ≠ 59 ∧ b ≠ 83 ∧ b ≠ 90 := by
  have hm : b ∈ (K1 P).map (·.1) := by
    generalize K1 P = K at e
    induction K with
    | nil => cases e
    | cons p r ih =>
      obtain ⟨a, x⟩ := p
      simp only [List.lookup] at e
      split at e
      · rename_i q; rw [beq_iff_eq.mp q]; exact List.mem_cons_self
      · exact List.mem_cons_of_mem _ (ih e)
  have ha : (K1 P).map (·.1) = [2, 3, 6, 15, 22, 23, 24, 25, 28, 30, 31, 33, 34, 35, 37, 38, 40, 41, 42, 44, 45, 47, 48, 49, 50, 51, 53, 54, 56, 57, 58, 60, 61, 63, 64, 65, 68, 69, 70, 73, 74, 75, 77, 78, 80, 81, 82, 84, 85, 87, 88, 89, 92, 93] := by kernel_rfl!
  rw [ha] at hm
  exact (by decide : ∀ b ∈ [2, 3, 6, 15, 22, 23, 24, 25, 28, 30, 31, 33, 34, 35, 37, 38, 40, 41, 42, 44, 45, 47, 48, 49, 50, 51, 53, 54, 56, 57, 58, 60, 61, 63, 64, 65, 68, 69, 70, 73, 74, 75, 77, 78, 80, 81, 82, 84, 85, 87, 88, 89, 92, 93], b < 94 ∧ b ≠ 43 ∧ b ≠ 59 ∧ b ≠ 83 ∧ b ≠ 90) b hm
theorem Own.base {h₀ h : Heap} {M : List Addr} {L : List (Addr × Obj)} (D : Own h₀ M h L) : Own h (L.map (·.1)) h L :=
  ⟨fun _ _ e _ => e, D.own, D.apart, fun _ hp => .inl (List.mem_map_of_mem hp), fun _ o e => ⟨o, e⟩⟩
theorem Own.free {h₀ h : Heap} {M : List Addr} {L : List (Addr × Obj)} (D : Own h₀ M h L) {b : Addr} {o : Obj} (e : h₀.get? b = some o) (hM : b ∉ M) : b ∉ L.map (·.1) := fun hb => by
  obtain ⟨p, hp, rfl⟩ := List.mem_map.mp hb
  rcases D.cover p hp with q | q
  · exact hM q
  · rw [q] at e; cases e
abbrev frO (es : List DictEntry) (n : Nat) : Obj := ⟨.type "frame", none, .dict es.toArray n, #[]⟩

theorem nd_inj {l : List Addr} (nd : l.Nodup) {i j : Nat} {a : Addr} (hi : l[i]? = some a) (hj : l[j]? = some a) : i = j := by
  obtain ⟨l1, g1⟩ := List.getElem?_eq_some_iff.mp hi
  obtain ⟨l2, g2⟩ := List.getElem?_eq_some_iff.mp hj
  exact (List.getElem_inj (h₀ := l1) (h₁ := l2) nd).mp (g1.trans g2.symm)
/-- what lies in the ledger, and not at these places, is new -/
theorem Own.fresh {h₀ h : Heap} {M : List Addr} {L : List (Addr × Obj)} (D : Own h₀ M h L) (js : List Nat) (e : js.map (fun j => (L.map (·.1))[j]?) = M.map some) {i : Nat} {a : Addr} (hi : (L.map (·.1))[i]? = some a) (ni : i ∉ js) : h₀.get? a = none := by
  obtain ⟨p, hp, rfl⟩ := List.mem_map.mp (List.mem_of_getElem? hi)
  refine (D.cover p hp).resolve_left fun hm => ?_
  have : some p.1 ∈ js.map (fun j => (L.map (·.1))[j]?) := e ▸ List.mem_map_of_mem hm
  obtain ⟨j, hj, e2⟩ := List.mem_map.mp this
  exact ni (nd_inj D.apart hi e2 ▸ hj)
theorem Own.fresh0 {h₀ h : Heap} {M : List Addr} {L : List (Addr × Obj)} (D : Own h₀ M h L) {b : Addr} (e : h.get? b = none) : h₀.get? b = none := by
  cases e2 : h₀.get? b with
  | none => rfl
  | some o => obtain ⟨o', e3⟩ := D.alive _ _ e2; rw [e] at e3; cases e3
theorem nd_take {l : List Addr} (nd : l.Nodup) {i j : Nat} {a : Addr} (hi : l[i]? = some a) (hj : j ≤ i) : a ∉ l.take j := fun hm => by
  obtain ⟨k, hk⟩ := List.mem_iff_getElem?.mp hm
  rw [List.getElem?_take] at hk
  split at hk
  · rename_i lt
    obtain ⟨l1, g1⟩ := List.getElem?_eq_some_iff.mp hi
    obtain ⟨l2, g2⟩ := List.getElem?_eq_some_iff.mp hk
    have : i = k := (List.getElem_inj (h₀ := l1) (h₁ := l2) nd).mp (g1.trans g2.symm)
    lia
  · cases hk
theorem ne_of_objs {h : Heap} {a b : Addr} {oa ob : Obj} (ha : h.get? a = some oa) (hb : h.get? b = some ob) (ne : oa ≠ ob) : a ≠ b := fun q => by
  subst q; rw [ha] at hb; exact ne (Option.some.inj hb)
theorem Own.of {h : Heap} {L : List (Addr × Obj)} (o : ∀ p ∈ L, h.get? p.1 = some p.2) (nd : (L.map (·.1)).Nodup) : Own h (L.map (·.1)) h L :=
  ⟨fun _ _ e _ => e, o, nd, fun _ hp => .inl (List.mem_map_of_mem hp), fun _ o e => ⟨o, e⟩⟩
/-- the class that cmp_to_key hands out -/
structure KClass (h : Heap) (C ns m f1 f2 c c1 c2 : Addr) (P : Params) : Prop where
  cls : ∃ B tn qn, h.get? C = some (cO ns [.ref C, .type "object"] false [Str.ofString "obj"] #[some (.ref B), none, some (.str (Str.ofString "K") tn), some (.str (Str.ofString "cmp_to_key.<locals>.K") qn), some (.builtin "object.__new__"), some (.bool false)])
  dct : ∃ q u md fl l f3 f4 f5 f6 T t1 t2, h.get? ns = some (dO (esD q u (.str (Str.ofString "cpy313.functools") md) (.int 22 fl) l f1 f2 f3 f4 f5 f6 T ++ [⟨hsh P (Str.ofString "obj"), .str (Str.ofString "obj") t1, .ref m⟩, ⟨hsh P (Str.ofString "__doc__"), .str (Str.ofString "__doc__") t2, .none⟩]) 3)
  mem : ∃ t, h.get? m = some ⟨.type "member_descriptor", none, .fields #[.str (Str.ofString "obj") t, .ref C, .builtin "proto.slot", .builtin "proto.slot#set", rawInt 0], #[]⟩
  ini : h.get? f1 = some ⟨.type "function", none, fnS (dfn 2) (Str.ofString "cmp_to_key.<locals>.K.__init__") [] c1 .none, #[]⟩
  ltf : ∃ ct, h.get? f2 = some ⟨.type "function", none, fnS (dfn 3) (Str.ofString "cmp_to_key.<locals>.K.__lt__") [(Str.ofString "mycmp", c)] c2 (.ref ct), #[]⟩
  cd1 : CodeIs h c1 (Str.ofString "__init__") (Str.ofString "cmp_to_key.<locals>.K.__init__") 26 2 19
  cd2 : CodeIs h c2 (Str.ofString "__lt__") (Str.ofString "cmp_to_key.<locals>.K.__lt__") 29 2 19
def uH (tk : Nat) (i : Nat) : Tok := tk + [2, 4, 6, 10, 11, 12, 13, 14, 15, 16, 17, 19].getD i 0
theorem guard_ok {M : Model} {A : Around} {s : Shared} {E : Value → Shared → Prop} {env : Env} {Q : Unit → Shared → Prop} (hb : env.builtins = 0) (hB : Bt s.heap) (k : Q () s) : wpAny M A (buildClassGuard env) Q E s := by
  obtain ⟨mb, hn, hm⟩ := hB.b0
  unfold buildClassGuard
  rw [hb]
  refine wpAny_bind (wpAny_nsGet hn ?_)
  rw [hm _ (by decide +kernel), show bootBuiltins "__build_class__" = some (.builtin "__build_class__") from by kernel_rfl!]
  exact wpAny_pure k
noncomputable def ob (P : Params) (a : Addr) : Obj := ((K1 P).lookup a).getD default
theorem ob3 (P : Params) : (K1 P).lookup 3 = some (ob P 3) := by kernel_rfl!
/-- a built-in name, read in a function -/
theorem bltName {w : World} {A : Around} {s : Shared} {E : Value → Shared → Prop} {env : Env} {x : Str} {pos : Pos} {v : Value} {Q : Value → Shared → Prop} (hK : (K1 w.params).In s.heap) (hB : Bt s.heap) (hk : env.scope.kind = .function) (hx : env.kindOf x = some .globalImplicit) (hg : env.globals = 3) (hb : env.builtins = 0)
    (hd : (x == ("__debug__" : Str)) = false) (hn : x ≠ "__name__") (e : nsLook x (ob w.params 3) = pure none) (e' : bootBuiltins x = some v) (k : Q v s) : wpAny (model pg w) A (eval (.Name x pos) env) Q E s := by
  refine Calls.Name_function_global hk hx ?_ hd
  obtain ⟨mb, hn', hm⟩ := hB.b0
  unfold loadGlobal nsGet
  rw [hg]
  refine wpAny_bind (wpAny_bind (wpAny_loadPart (hK 3 _ (ob3 _)) ?_))
  rw [e]
  refine wpAny_pure ?_
  refine wpAny_bind ?_
  rw [hb]
  refine wpAny_nsGet (a := 0) hn' ?_
  rw [hm x hn, e']
  exact wpAny_pure k
theorem bases_ok {w : World} {A : Around} {s : Shared} {E : Value → Shared → Prop} {L c : Addr} {Q : Args → Shared → Prop} (hK : (K1 w.params).In s.heap) (hB : Bt s.heap) (k : Q ⟨[.type "object"], []⟩ s) :
    wpAny (model pg w) A (evalArgs (.builtin "__build_class__") false (backTo (clsPos kc) (starEach (clsBases kc) (envC w.params L c))) (backToKw (clsPos kc) (keywordEach [] (envC w.params L c)))) Q E s := by
  unfold evalArgs
  refine wpAny_bind (m := spliced (backTo (clsPos kc) (starEach (clsBases kc) (envC w.params L c)))) ?_
  refine args_cons (bltName hK hB (by kernel_rfl!) (by kernel_rfl!) (by kernel_rfl!) (by kernel_rfl!) (by decide) (by decide +kernel) (by kernel_rfl!) (v := .type "object") (by kernel_rfl!) (args_nil ?_))
  exact wpAny_bind (wpAny_pure (wpAny_holding (wpAny_bind (wpAny_pure (wpAny_bind (wpAny_pure (wpAny_pure k)))))))
theorem asF {m : Nat} {as : List Addr} (h : Hi m as) : ∃ f : Nat → Addr, as = (List.range m).map f := ⟨fun i => as.getD i 0, by
  refine List.ext_getElem? fun i => ?_
  rw [List.getElem?_map, ← h.1]
  by_cases hi : i < as.length
  · rw [List.getElem?_range hi, List.getElem?_eq_getElem hi, Option.map_some, List.getD_eq_getElem?_getD, List.getElem?_eq_getElem hi]; rfl
  · rw [List.getElem?_eq_none (by lia), List.getElem?_eq_none (by simp; lia)]; rfl⟩
set_option maxHeartbeats 4000000 in
theorem cls1 {w : World} {E : Value → Shared → Prop} {h : Heap} {g : Array GenState} {d : Drawn} {tk : Nat} {os : OsState} {L c : Addr} {Q : Flow → Shared → Prop}
    (hK : (K1 w.params).In h) (hB : Bt h) (h43 : h.get? 43 = some (tab [])) (hL : h.get? L = some (frO [] 0)) (lL : 94 ≤ L)
    (k : ∀ C ns m f1 f2 PK cK c1 c2 c3 c4 c5 c6 t tk' h', (∀ b o, h.get? b = some o → b ≠ 43 → b ≠ L → h'.get? b = some o) → FullK h' cK PK c1 c2 c3 c4 c5 c6 → KClass h' C ns m f1 f2 c c1 c2 w.params → (∀ a ∈ [C, ns, m, f1, f2, PK, cK, c1, c2, c3, c4, c5, c6], h.get? a = none) →
      h'.get? L = some (frO [⟨hsh w.params (Str.ofString "K"), .str (Str.ofString "K") t, .ref C⟩] 1) → Q .next ⟨h', g, d, tk', os⟩) :
    wpAny (model pg w) A0 (exec kc (envC w.params L c)) Q E ⟨h, g, d, tk, os⟩ := by
  have X := hK
  have hKM : ∀ b o, (K1 w.params).lookup b = some o → b ∉ [43, L] := fun b o e => by
    have := k1_dom e
    simp only [List.mem_cons, List.not_mem_nil, or_false, not_or]
    exact ⟨this.2.1, fun q => by subst q; exact absurd this.1 (Nat.not_lt.mpr lL)⟩
  have h94 : ∃ o, h.get? 93 = some o := ⟨_, X 93 _ (k93 _).choose_spec⟩
  have D : Own h [43, L] h [(43, tab []), (L, frO [] 0)] := Own.two h43 hL (fun q => by subst q; exact absurd lL (by decide))
  have n4 : 4 ∉ [43, L] := by
    simp only [List.mem_cons, List.not_mem_nil, or_false, not_or]
    exact ⟨by decide, fun q => absurd lL (by rw [← q]; decide)⟩
  obtain ⟨sl, e4⟩ := hB.m4
  have hTop : ∀ b ∈ [3, 4], b ∉ [43, L] := fun b hb => by
    rcases List.mem_cons.mp hb with rfl | hb
    · exact hKM 3 _ rfl
    · rw [List.mem_singleton] at hb; subst hb; exact n4
  rw [kc_eq]
  refine wpAny_bind (wpAny_pure ?_)
  refine wpAny_bind (wpAny_standAt ?_)
  refine wpAny_bind (guard_ok (by kernel_rfl!) hB ?_)
  refine wpAny_bind (wpAny_holding (wpAny_bind (bases_ok X hB ?_)))
  refine wpAny_bind (wpAny_standAt (wpAny_holding ?_))
  unfold buildClass
  refine wpAny_bind (gz K1 hK h94 D [] 1 (List.range 3) [] (by simp) (by decide) fun as ha => ?_)
  match as, ha with
  | [B], _ =>
  refine ⟨.ref B, tk, [(43, tab []), (L, frO [] 0), (B, ⟨.type "tuple", none, .seq #[.type "object"] 0, #[]⟩)], by kernel_rfl!, by kernel_rfl!, fun h1 D1 => ?_⟩
  refine wpAny_bind (closed (r := ([.type "object"], false)) (by kernel_rfl!) ?_)
  refine wpAny_bind (closed (r := .type "type") (by kernel_rfl!) ?_)
  refine wpAny_bind (closed (r := true) (by kernel_rfl!) ?_)
  refine ite_t rfl ?_
  refine wpAny_bind (closed (r := .type "type") (by kernel_rfl!) ?_)
  refine wpAny_bind (wpAny_mkText ?_)
  refine ite_f ff ?_
  refine wpAny_bind (wpAny_pure ?_)
  refine wpAny_holding ?_
  refine wpAny_bind (gz K1 hK h94 D1 [] 1 (List.range 4) [] (by simp) (by decide) fun as ha => ?_)
  match as, ha with
  | [pm], _ =>
  refine ⟨some (.ref pm), tk + 2, [(43, tab []), (L, frO [] 0), (B, ⟨.type "tuple", none, .seq #[.type "object"] 0, #[]⟩), (pm, ⟨.type "builtin_function_or_method", none, .fields #[.builtin "type.__prepare__", .type "type"], #[]⟩)], by kernel_rfl!, by kernel_rfl!, fun h2 D2 => ?_⟩
  refine wpAny_bind (gz K1 hK h94 D2 [.own 3] 1 ([4, 2] ++ List.range 2) [] (by simp) (by decide) fun as ha => ?_)
  match as, ha with
  | [N], haN =>
  refine ⟨.ref N, tk + 2, [(N, ⟨.type "dict", none, .dict #[] 0, #[]⟩), (B, ⟨.type "tuple", none, .seq #[.type "object"] 0, #[]⟩), (43, tab []), (L, frO [] 0)], by kernel_rfl!, by kernel_rfl!, fun h3 D3 => ?_⟩
  have eN := D3.at 0 rfl
  have hN : N ≠ 1 := fun q => absurd (haN.2 N (by simp)) (by rw [q]; decide)
  refine wpAny_bind ?_
  unfold notTheModulesDict
  refine ite_f (by simpa [sysModules] using hN) (wpAny_pure ?_)
  refine wpAny_bind (rd [_] (some (.builtin "dict.__getitem__")) [N] (by kernel_rfl!) ⟨eN, trivial⟩ ?_)
  refine ite_f ff ?_
  refine wpAny_holding ?_
  refine ite_kf (by kernel_rfl!) ?_
  refine wpAny_bind (wpAny_pure ?_)
  refine ite_kf (by kernel_rfl!) ?_
  refine wpAny_bind (wpAny_pure ?_)
  refine wpAny_bind (gz K1 hK h94 D3 [.top 47, .own 2, .own 2, .own 2, .own 2] 3 [0, 1, 2, 5, 6, 3] [47] (fun b hb => by rw [List.mem_singleton] at hb; subst hb; exact hKM 47 _ rfl) (by decide) fun as ha => ?_)
  match as, ha with
  | [x4, PK, cK], ha4 =>
  refine ⟨.ref cK, tk + 8, [(N, ⟨.type "dict", none, .dict #[] 0, #[]⟩), (B, ⟨.type "tuple", none, .seq #[.type "object"] 0, #[]⟩), (43, tab [rawInt 22, rawInt 4, .ref cK]), (PK, tab []), (cK, cdO (Str.ofString "K") (Str.ofString "cmp_to_key.<locals>.K") 22 0 0 (tk + 2) (tk + 3) (tk + 4) (tk + 7) (tk + 6) (.ref x4) .none .none .none PK), (L, frO [] 0)], by kernel_rfl!, by kernel_rfl!, fun h4 D4 => ?_⟩
  have X4 : (K1 w.params).In h4 := fun b o e => D4.keep b o (hK b o e) (hKM b o e)
  refine wpAny_bind (rd [_, _] 0 [3, 4] (by kernel_rfl!) ⟨X4 3 _ rfl, D4.keep 4 _ e4 n4, trivial⟩ ?_)
  refine wpAny_bind (gz K1 hK h94 D4 [.top 3] 1 (List.range 6) [3] (fun b hb => by rw [List.mem_singleton] at hb; subst hb; exact hKM 3 _ rfl) (by decide) fun as ha => ?_)
  match as, ha with
  | [fr], _ =>
  refine ⟨fr, tk + 8, [(N, ⟨.type "dict", none, .dict #[] 0, #[]⟩), (B, ⟨.type "tuple", none, .seq #[.type "object"] 0, #[]⟩), (43, tab [rawInt 22, rawInt 4, .ref cK]), (PK, tab []), (cK, cdO (Str.ofString "K") (Str.ofString "cmp_to_key.<locals>.K") 22 0 0 (tk + 2) (tk + 3) (tk + 4) (tk + 7) (tk + 6) (.ref x4) .none .none .none PK), (L, frO [] 0)], by kernel_rfl!, by kernel_rfl!, fun h5 D5 => ?_⟩
  have X5 : (K1 w.params).In h5 := fun b o e => D5.keep b o (hK b o e) (hKM b o e)
  refine wpAny_bind (closed (r := [(Str.ofString "mycmp", c)]) (by kernel_rfl!) ?_)
  refine wpAny_holding ?_
  refine wpAny_bind (wpAny_enterFrame (noLimit_of (X5 2 _ rfl)) (by decide) ?_)
  refine wpAny_bind (gz K1 hK h94 D5 [.own 0, .own 0, .top 3, .own 0, .own 0, .own 0, .own 0, .own 0, .own 0, .own 0, .own 0, .own 0] 0 (List.range 6) [3] (fun b hb => by rw [List.mem_singleton] at hb; subst hb; exact hKM 3 _ rfl) (by decide) fun as ha => ?_)
  match as, ha with
  | [], _ =>
  refine ⟨(), tk + 13, [(N, ⟨.type "dict", none, .dict #[⟨qK w.params 0, .str (Str.ofString "__module__") (uK tk 0), .str (Str.ofString "law_oy0033_01") 247⟩, ⟨qK w.params 1, .str (Str.ofString "__qualname__") (uK tk 1), .str (Str.ofString "cmp_to_key.<locals>.K") (tk + 9)⟩, ⟨qK w.params 2, .str (Str.ofString "__firstlineno__") (uK tk 2), .int 22 (tk + 11)⟩] 3, #[]⟩), (B, ⟨.type "tuple", none, .seq #[.type "object"] 0, #[]⟩), (43, tab [rawInt 22, rawInt 4, .ref cK]), (PK, tab []), (cK, cdO (Str.ofString "K") (Str.ofString "cmp_to_key.<locals>.K") 22 0 0 (tk + 2) (tk + 3) (tk + 4) (tk + 7) (tk + 6) (.ref x4) .none .none .none PK), (L, frO [] 0)], by kernel_rfl!, by kernel_rfl!, fun h6 D6 => ?_⟩
  have hK4 : (K4 sl w.params).In h := fun b o e => by
    by_cases q : b = 4
    · subst q; cases e; exact e4
    · have qb : (b == 4) = false := by simpa using q
      exact hK b o (by simpa [K4, List.lookup_cons, qb] using e)
  refine wpAny_bind (gz (K4 sl) hK4 h94 D6 [.own 0, .own 0, .own 0, .own 0, .own 0, .own 0, .own 4, .own 3, .own 3, .own 3, .own 3, .top 3, .top 4, .top 3, .own 0, .own 0, .own 0, .own 4, .own 3, .own 3, .own 3, .own 3, .top 3, .top 4, .top 3, .own 0, .own 0, .own 0, .own 4, .own 3, .own 3, .own 3, .own 3, .top 3, .top 4, .top 3, .own 0, .own 0, .own 0, .own 4, .own 3, .own 3, .own 3, .own 3, .top 3, .top 4, .top 3, .own 0, .own 0, .own 0, .own 4, .own 3, .own 3, .own 3, .own 3, .top 3, .top 4, .top 3, .own 0, .own 0, .own 0, .own 4, .own 3, .own 3, .own 3, .own 3, .top 3, .top 4, .top 3, .own 0, .own 0, .own 0, .own 0, .own 0, .own 0] 48 [0, 1, 6, 13, 21, 29, 37, 45, 53, 2, 3, 4, 12, 20, 28, 36, 44, 52, 5] [3, 4, 3, 3, 4, 3, 3, 4, 3, 3, 4, 3, 3, 4, 3, 3, 4, 3] (fun b hb => hTop b ((by decide : ∀ b ∈ [3, 4, 3, 3, 4, 3, 3, 4, 3, 3, 4, 3, 3, 4, 3, 3, 4, 3], b ∈ [3, 4]) b hb)) (by decide) fun as ha => ?_)
  obtain ⟨f, rfl⟩ := asF ha
  have ha7 := ha
  refine ⟨.next, tk + 71, [(N, ⟨.type "dict", none, .dict #[⟨qK w.params 0, .str (Str.ofString "__module__") (uK tk 0), .str (Str.ofString "cpy313.functools") (tk + 13)⟩, ⟨qK w.params 1, .str (Str.ofString "__qualname__") (uK tk 1), .str (Str.ofString "cmp_to_key.<locals>.K") (tk + 9)⟩, ⟨qK w.params 2, .str (Str.ofString "__firstlineno__") (uK tk 2), .int 22 (tk + 11)⟩, ⟨qK w.params 3, .str (Str.ofString "__slots__") (uK tk 3), .ref (f 0)⟩, ⟨qK w.params 4, .str (Str.ofString "__init__") (uK tk 4), .ref (f 7)⟩, ⟨qK w.params 5, .str (Str.ofString "__lt__") (uK tk 5), .ref (f 15)⟩, ⟨qK w.params 6, .str (Str.ofString "__gt__") (uK tk 6), .ref (f 23)⟩, ⟨qK w.params 7, .str (Str.ofString "__eq__") (uK tk 7), .ref (f 31)⟩, ⟨qK w.params 8, .str (Str.ofString "__le__") (uK tk 8), .ref (f 39)⟩, ⟨qK w.params 9, .str (Str.ofString "__ge__") (uK tk 9), .ref (f 47)⟩, ⟨qK w.params 10, .str (Str.ofString "__hash__") (uK tk 10), .none⟩] 11, #[]⟩), (B, ⟨.type "tuple", none, .seq #[.type "object"] 0, #[]⟩), ((f 0), ⟨.type "list", none, .seq #[.str (Str.ofString "obj") (tk + 15)] 0, #[]⟩), ((f 7), ⟨.type "function", none, fnS (dfn 2) (Str.ofString "cmp_to_key.<locals>.K.__init__") [] (f 6) .none, #[]⟩), ((f 15), ⟨.type "function", none, fnS (dfn 3) (Str.ofString "cmp_to_key.<locals>.K.__lt__") [(Str.ofString "mycmp", c)] (f 14) (.ref (f 8)), #[]⟩), ((f 23), ⟨.type "function", none, fnS (dfn 4) (Str.ofString "cmp_to_key.<locals>.K.__gt__") [(Str.ofString "mycmp", c)] (f 22) (.ref (f 16)), #[]⟩), ((f 31), ⟨.type "function", none, fnS (dfn 5) (Str.ofString "cmp_to_key.<locals>.K.__eq__") [(Str.ofString "mycmp", c)] (f 30) (.ref (f 24)), #[]⟩), ((f 39), ⟨.type "function", none, fnS (dfn 6) (Str.ofString "cmp_to_key.<locals>.K.__le__") [(Str.ofString "mycmp", c)] (f 38) (.ref (f 32)), #[]⟩), ((f 47), ⟨.type "function", none, fnS (dfn 7) (Str.ofString "cmp_to_key.<locals>.K.__ge__") [(Str.ofString "mycmp", c)] (f 46) (.ref (f 40)), #[]⟩), (43, tab [rawInt 22, rawInt 4, .ref cK]), (PK, plK (f 6) (f 14) (f 22) (f 30) (f 38) (f 46)), (cK, cdO (Str.ofString "K") (Str.ofString "cmp_to_key.<locals>.K") 22 0 0 (tk + 2) (tk + 3) (tk + 4) (tk + 7) (tk + 6) (.ref x4) .none .none .none PK), ((f 6), cdO (Str.ofString "__init__") (Str.ofString "cmp_to_key.<locals>.K.__init__") 26 2 19 (tk + 17) (tk + 18) (tk + 19) (tk + 23) (tk + 22) (.ref (f 1)) (.ref (f 3)) (.ref (f 4)) (.ref (f 5)) (f 2)), ((f 14), cdO (Str.ofString "__lt__") (Str.ofString "cmp_to_key.<locals>.K.__lt__") 29 2 19 (tk + 25) (tk + 26) (tk + 27) (tk + 32) (tk + 31) (.ref (f 9)) (.ref (f 11)) (.ref (f 12)) (.ref (f 13)) (f 10)), ((f 22), cdO (Str.ofString "__gt__") (Str.ofString "cmp_to_key.<locals>.K.__gt__") 32 2 19 (tk + 34) (tk + 35) (tk + 36) (tk + 41) (tk + 40) (.ref (f 17)) (.ref (f 19)) (.ref (f 20)) (.ref (f 21)) (f 18)), ((f 30), cdO (Str.ofString "__eq__") (Str.ofString "cmp_to_key.<locals>.K.__eq__") 35 2 19 (tk + 43) (tk + 44) (tk + 45) (tk + 50) (tk + 49) (.ref (f 25)) (.ref (f 27)) (.ref (f 28)) (.ref (f 29)) (f 26)), ((f 38), cdO (Str.ofString "__le__") (Str.ofString "cmp_to_key.<locals>.K.__le__") 38 2 19 (tk + 52) (tk + 53) (tk + 54) (tk + 59) (tk + 58) (.ref (f 33)) (.ref (f 35)) (.ref (f 36)) (.ref (f 37)) (f 34)), ((f 46), cdO (Str.ofString "__ge__") (Str.ofString "cmp_to_key.<locals>.K.__ge__") 41 2 19 (tk + 61) (tk + 62) (tk + 63) (tk + 68) (tk + 67) (.ref (f 41)) (.ref (f 43)) (.ref (f 44)) (.ref (f 45)) (f 42)), (L, frO [] 0)], by kernel_rfl!, by kernel_rfl!, fun h7 D7 => ?_⟩
  refine wpAny_bind (gz K1 hK h94 D7 [.own 0, .own 0, .own 0] 1 [0, 1, 2, 3, 4, 5, 6, 7, 8, 19, 9, 10, 11, 12, 13, 14, 15, 16, 17, 18] [] (by simp) (by decide) fun as ha => ?_)
  match as, ha with
  | [T], _ =>
  refine ⟨(), tk + 73, [(N, ⟨.type "dict", none, .dict #[⟨qK w.params 0, .str (Str.ofString "__module__") (uK tk 0), .str (Str.ofString "cpy313.functools") (tk + 13)⟩, ⟨qK w.params 1, .str (Str.ofString "__qualname__") (uK tk 1), .str (Str.ofString "cmp_to_key.<locals>.K") (tk + 9)⟩, ⟨qK w.params 2, .str (Str.ofString "__firstlineno__") (uK tk 2), .int 22 (tk + 11)⟩, ⟨qK w.params 3, .str (Str.ofString "__slots__") (uK tk 3), .ref (f 0)⟩, ⟨qK w.params 4, .str (Str.ofString "__init__") (uK tk 4), .ref (f 7)⟩, ⟨qK w.params 5, .str (Str.ofString "__lt__") (uK tk 5), .ref (f 15)⟩, ⟨qK w.params 6, .str (Str.ofString "__gt__") (uK tk 6), .ref (f 23)⟩, ⟨qK w.params 7, .str (Str.ofString "__eq__") (uK tk 7), .ref (f 31)⟩, ⟨qK w.params 8, .str (Str.ofString "__le__") (uK tk 8), .ref (f 39)⟩, ⟨qK w.params 9, .str (Str.ofString "__ge__") (uK tk 9), .ref (f 47)⟩, ⟨qK w.params 10, .str (Str.ofString "__hash__") (uK tk 10), .none⟩, ⟨qK w.params 11, .str (Str.ofString "__static_attributes__") (uK tk 11), .ref T⟩] 12, #[]⟩), (B, ⟨.type "tuple", none, .seq #[.type "object"] 0, #[]⟩), ((f 0), ⟨.type "list", none, .seq #[.str (Str.ofString "obj") (tk + 15)] 0, #[]⟩), ((f 7), ⟨.type "function", none, fnS (dfn 2) (Str.ofString "cmp_to_key.<locals>.K.__init__") [] (f 6) .none, #[]⟩), ((f 15), ⟨.type "function", none, fnS (dfn 3) (Str.ofString "cmp_to_key.<locals>.K.__lt__") [(Str.ofString "mycmp", c)] (f 14) (.ref (f 8)), #[]⟩), ((f 23), ⟨.type "function", none, fnS (dfn 4) (Str.ofString "cmp_to_key.<locals>.K.__gt__") [(Str.ofString "mycmp", c)] (f 22) (.ref (f 16)), #[]⟩), ((f 31), ⟨.type "function", none, fnS (dfn 5) (Str.ofString "cmp_to_key.<locals>.K.__eq__") [(Str.ofString "mycmp", c)] (f 30) (.ref (f 24)), #[]⟩), ((f 39), ⟨.type "function", none, fnS (dfn 6) (Str.ofString "cmp_to_key.<locals>.K.__le__") [(Str.ofString "mycmp", c)] (f 38) (.ref (f 32)), #[]⟩), ((f 47), ⟨.type "function", none, fnS (dfn 7) (Str.ofString "cmp_to_key.<locals>.K.__ge__") [(Str.ofString "mycmp", c)] (f 46) (.ref (f 40)), #[]⟩), (T, ⟨.type "tuple", none, .seq #[.str (Str.ofString "obj") (tk + 71)] 0, #[]⟩), (43, tab [rawInt 22, rawInt 4, .ref cK]), (PK, plK (f 6) (f 14) (f 22) (f 30) (f 38) (f 46)), (cK, cdO (Str.ofString "K") (Str.ofString "cmp_to_key.<locals>.K") 22 0 0 (tk + 2) (tk + 3) (tk + 4) (tk + 7) (tk + 6) (.ref x4) .none .none .none PK), ((f 6), cdO (Str.ofString "__init__") (Str.ofString "cmp_to_key.<locals>.K.__init__") 26 2 19 (tk + 17) (tk + 18) (tk + 19) (tk + 23) (tk + 22) (.ref (f 1)) (.ref (f 3)) (.ref (f 4)) (.ref (f 5)) (f 2)), ((f 14), cdO (Str.ofString "__lt__") (Str.ofString "cmp_to_key.<locals>.K.__lt__") 29 2 19 (tk + 25) (tk + 26) (tk + 27) (tk + 32) (tk + 31) (.ref (f 9)) (.ref (f 11)) (.ref (f 12)) (.ref (f 13)) (f 10)), ((f 22), cdO (Str.ofString "__gt__") (Str.ofString "cmp_to_key.<locals>.K.__gt__") 32 2 19 (tk + 34) (tk + 35) (tk + 36) (tk + 41) (tk + 40) (.ref (f 17)) (.ref (f 19)) (.ref (f 20)) (.ref (f 21)) (f 18)), ((f 30), cdO (Str.ofString "__eq__") (Str.ofString "cmp_to_key.<locals>.K.__eq__") 35 2 19 (tk + 43) (tk + 44) (tk + 45) (tk + 50) (tk + 49) (.ref (f 25)) (.ref (f 27)) (.ref (f 28)) (.ref (f 29)) (f 26)), ((f 38), cdO (Str.ofString "__le__") (Str.ofString "cmp_to_key.<locals>.K.__le__") 38 2 19 (tk + 52) (tk + 53) (tk + 54) (tk + 59) (tk + 58) (.ref (f 33)) (.ref (f 35)) (.ref (f 36)) (.ref (f 37)) (f 34)), ((f 46), cdO (Str.ofString "__ge__") (Str.ofString "cmp_to_key.<locals>.K.__ge__") 41 2 19 (tk + 61) (tk + 62) (tk + 63) (tk + 68) (tk + 67) (.ref (f 41)) (.ref (f 43)) (.ref (f 44)) (.ref (f 45)) (f 42)), (L, frO [] 0)], by kernel_rfl!, by kernel_rfl!, fun h8 D8 => ?_⟩
  refine ite_f ff ?_
  have X8 : (K1 w.params).In h8 := fun b o e => D8.keep b o (hK b o e) (hKM b o e)
  have D9 := (D8.pick (idx := List.range 15) (Lp := [(N, ⟨.type "dict", none, .dict #[⟨qK w.params 0, .str (Str.ofString "__module__") (uK tk 0), .str (Str.ofString "cpy313.functools") (tk + 13)⟩, ⟨qK w.params 1, .str (Str.ofString "__qualname__") (uK tk 1), .str (Str.ofString "cmp_to_key.<locals>.K") (tk + 9)⟩, ⟨qK w.params 2, .str (Str.ofString "__firstlineno__") (uK tk 2), .int 22 (tk + 11)⟩, ⟨qK w.params 3, .str (Str.ofString "__slots__") (uK tk 3), .ref (f 0)⟩, ⟨qK w.params 4, .str (Str.ofString "__init__") (uK tk 4), .ref (f 7)⟩, ⟨qK w.params 5, .str (Str.ofString "__lt__") (uK tk 5), .ref (f 15)⟩, ⟨qK w.params 6, .str (Str.ofString "__gt__") (uK tk 6), .ref (f 23)⟩, ⟨qK w.params 7, .str (Str.ofString "__eq__") (uK tk 7), .ref (f 31)⟩, ⟨qK w.params 8, .str (Str.ofString "__le__") (uK tk 8), .ref (f 39)⟩, ⟨qK w.params 9, .str (Str.ofString "__ge__") (uK tk 9), .ref (f 47)⟩, ⟨qK w.params 10, .str (Str.ofString "__hash__") (uK tk 10), .none⟩, ⟨qK w.params 11, .str (Str.ofString "__static_attributes__") (uK tk 11), .ref T⟩] 12, #[]⟩), (B, ⟨.type "tuple", none, .seq #[.type "object"] 0, #[]⟩), ((f 0), ⟨.type "list", none, .seq #[.str (Str.ofString "obj") (tk + 15)] 0, #[]⟩), ((f 7), ⟨.type "function", none, fnS (dfn 2) (Str.ofString "cmp_to_key.<locals>.K.__init__") [] (f 6) .none, #[]⟩), ((f 15), ⟨.type "function", none, fnS (dfn 3) (Str.ofString "cmp_to_key.<locals>.K.__lt__") [(Str.ofString "mycmp", c)] (f 14) (.ref (f 8)), #[]⟩), ((f 23), ⟨.type "function", none, fnS (dfn 4) (Str.ofString "cmp_to_key.<locals>.K.__gt__") [(Str.ofString "mycmp", c)] (f 22) (.ref (f 16)), #[]⟩), ((f 31), ⟨.type "function", none, fnS (dfn 5) (Str.ofString "cmp_to_key.<locals>.K.__eq__") [(Str.ofString "mycmp", c)] (f 30) (.ref (f 24)), #[]⟩), ((f 39), ⟨.type "function", none, fnS (dfn 6) (Str.ofString "cmp_to_key.<locals>.K.__le__") [(Str.ofString "mycmp", c)] (f 38) (.ref (f 32)), #[]⟩), ((f 47), ⟨.type "function", none, fnS (dfn 7) (Str.ofString "cmp_to_key.<locals>.K.__ge__") [(Str.ofString "mycmp", c)] (f 46) (.ref (f 40)), #[]⟩), (T, ⟨.type "tuple", none, .seq #[.str (Str.ofString "obj") (tk + 71)] 0, #[]⟩), (43, tab [rawInt 22, rawInt 4, .ref cK]), (PK, plK (f 6) (f 14) (f 22) (f 30) (f 38) (f 46)), (cK, cdO (Str.ofString "K") (Str.ofString "cmp_to_key.<locals>.K") 22 0 0 (tk + 2) (tk + 3) (tk + 4) (tk + 7) (tk + 6) (.ref x4) .none .none .none PK), ((f 6), cdO (Str.ofString "__init__") (Str.ofString "cmp_to_key.<locals>.K.__init__") 26 2 19 (tk + 17) (tk + 18) (tk + 19) (tk + 23) (tk + 22) (.ref (f 1)) (.ref (f 3)) (.ref (f 4)) (.ref (f 5)) (f 2)), ((f 14), cdO (Str.ofString "__lt__") (Str.ofString "cmp_to_key.<locals>.K.__lt__") 29 2 19 (tk + 25) (tk + 26) (tk + 27) (tk + 32) (tk + 31) (.ref (f 9)) (.ref (f 11)) (.ref (f 12)) (.ref (f 13)) (f 10))]) (by decide) rfl)
  have hL8 : h8.get? L = some (frO [] 0) := D8.at 19 rfl
  refine wpAny_bind (tc1 (M := _) (q := qK w.params) (u := uK tk) (md := tk + 13) (qn := tk + 9) (fl := tk + 11) (tn := tk) (ul := tk + 15) X8 ⟨_, X8 93 _ (k93 _).choose_spec⟩ hN (fun b o e => D9.free (hK b o e) (hKM b o e)) rfl D9.base fun ns C m h9 E9 => ?_)
  refine wpAny_pure ?_
  refine wpAny_bind (closed (r := .ref C) (by kernel_rfl!) ?_)
  refine wpAny_bind (wpAny_standAt ?_)
  have lt15 : ∀ i a, (([(N, ⟨.type "dict", none, .dict #[⟨qK w.params 0, .str (Str.ofString "__module__") (uK tk 0), .str (Str.ofString "cpy313.functools") (tk + 13)⟩, ⟨qK w.params 1, .str (Str.ofString "__qualname__") (uK tk 1), .str (Str.ofString "cmp_to_key.<locals>.K") (tk + 9)⟩, ⟨qK w.params 2, .str (Str.ofString "__firstlineno__") (uK tk 2), .int 22 (tk + 11)⟩, ⟨qK w.params 3, .str (Str.ofString "__slots__") (uK tk 3), .ref (f 0)⟩, ⟨qK w.params 4, .str (Str.ofString "__init__") (uK tk 4), .ref (f 7)⟩, ⟨qK w.params 5, .str (Str.ofString "__lt__") (uK tk 5), .ref (f 15)⟩, ⟨qK w.params 6, .str (Str.ofString "__gt__") (uK tk 6), .ref (f 23)⟩, ⟨qK w.params 7, .str (Str.ofString "__eq__") (uK tk 7), .ref (f 31)⟩, ⟨qK w.params 8, .str (Str.ofString "__le__") (uK tk 8), .ref (f 39)⟩, ⟨qK w.params 9, .str (Str.ofString "__ge__") (uK tk 9), .ref (f 47)⟩, ⟨qK w.params 10, .str (Str.ofString "__hash__") (uK tk 10), .none⟩, ⟨qK w.params 11, .str (Str.ofString "__static_attributes__") (uK tk 11), .ref T⟩] 12, #[]⟩), (B, ⟨.type "tuple", none, .seq #[.type "object"] 0, #[]⟩), ((f 0), ⟨.type "list", none, .seq #[.str (Str.ofString "obj") (tk + 15)] 0, #[]⟩), ((f 7), ⟨.type "function", none, fnS (dfn 2) (Str.ofString "cmp_to_key.<locals>.K.__init__") [] (f 6) .none, #[]⟩), ((f 15), ⟨.type "function", none, fnS (dfn 3) (Str.ofString "cmp_to_key.<locals>.K.__lt__") [(Str.ofString "mycmp", c)] (f 14) (.ref (f 8)), #[]⟩), ((f 23), ⟨.type "function", none, fnS (dfn 4) (Str.ofString "cmp_to_key.<locals>.K.__gt__") [(Str.ofString "mycmp", c)] (f 22) (.ref (f 16)), #[]⟩), ((f 31), ⟨.type "function", none, fnS (dfn 5) (Str.ofString "cmp_to_key.<locals>.K.__eq__") [(Str.ofString "mycmp", c)] (f 30) (.ref (f 24)), #[]⟩), ((f 39), ⟨.type "function", none, fnS (dfn 6) (Str.ofString "cmp_to_key.<locals>.K.__le__") [(Str.ofString "mycmp", c)] (f 38) (.ref (f 32)), #[]⟩), ((f 47), ⟨.type "function", none, fnS (dfn 7) (Str.ofString "cmp_to_key.<locals>.K.__ge__") [(Str.ofString "mycmp", c)] (f 46) (.ref (f 40)), #[]⟩), (T, ⟨.type "tuple", none, .seq #[.str (Str.ofString "obj") (tk + 71)] 0, #[]⟩), (43, tab [rawInt 22, rawInt 4, .ref cK]), (PK, plK (f 6) (f 14) (f 22) (f 30) (f 38) (f 46)), (cK, cdO (Str.ofString "K") (Str.ofString "cmp_to_key.<locals>.K") 22 0 0 (tk + 2) (tk + 3) (tk + 4) (tk + 7) (tk + 6) (.ref x4) .none .none .none PK), ((f 6), cdO (Str.ofString "__init__") (Str.ofString "cmp_to_key.<locals>.K.__init__") 26 2 19 (tk + 17) (tk + 18) (tk + 19) (tk + 23) (tk + 22) (.ref (f 1)) (.ref (f 3)) (.ref (f 4)) (.ref (f 5)) (f 2)), ((f 14), cdO (Str.ofString "__lt__") (Str.ofString "cmp_to_key.<locals>.K.__lt__") 29 2 19 (tk + 25) (tk + 26) (tk + 27) (tk + 32) (tk + 31) (.ref (f 9)) (.ref (f 11)) (.ref (f 12)) (.ref (f 13)) (f 10)), ((f 22), cdO (Str.ofString "__gt__") (Str.ofString "cmp_to_key.<locals>.K.__gt__") 32 2 19 (tk + 34) (tk + 35) (tk + 36) (tk + 41) (tk + 40) (.ref (f 17)) (.ref (f 19)) (.ref (f 20)) (.ref (f 21)) (f 18)), ((f 30), cdO (Str.ofString "__eq__") (Str.ofString "cmp_to_key.<locals>.K.__eq__") 35 2 19 (tk + 43) (tk + 44) (tk + 45) (tk + 50) (tk + 49) (.ref (f 25)) (.ref (f 27)) (.ref (f 28)) (.ref (f 29)) (f 26)), ((f 38), cdO (Str.ofString "__le__") (Str.ofString "cmp_to_key.<locals>.K.__le__") 38 2 19 (tk + 52) (tk + 53) (tk + 54) (tk + 59) (tk + 58) (.ref (f 33)) (.ref (f 35)) (.ref (f 36)) (.ref (f 37)) (f 34)), ((f 46), cdO (Str.ofString "__ge__") (Str.ofString "cmp_to_key.<locals>.K.__ge__") 41 2 19 (tk + 61) (tk + 62) (tk + 63) (tk + 68) (tk + 67) (.ref (f 41)) (.ref (f 43)) (.ref (f 44)) (.ref (f 45)) (f 42)), (L, frO [] 0)] : List (Addr × Obj)).map (·.1))[i]? = some a → 15 ≤ i → a ∉ (([(N, ⟨.type "dict", none, .dict #[⟨qK w.params 0, .str (Str.ofString "__module__") (uK tk 0), .str (Str.ofString "cpy313.functools") (tk + 13)⟩, ⟨qK w.params 1, .str (Str.ofString "__qualname__") (uK tk 1), .str (Str.ofString "cmp_to_key.<locals>.K") (tk + 9)⟩, ⟨qK w.params 2, .str (Str.ofString "__firstlineno__") (uK tk 2), .int 22 (tk + 11)⟩, ⟨qK w.params 3, .str (Str.ofString "__slots__") (uK tk 3), .ref (f 0)⟩, ⟨qK w.params 4, .str (Str.ofString "__init__") (uK tk 4), .ref (f 7)⟩, ⟨qK w.params 5, .str (Str.ofString "__lt__") (uK tk 5), .ref (f 15)⟩, ⟨qK w.params 6, .str (Str.ofString "__gt__") (uK tk 6), .ref (f 23)⟩, ⟨qK w.params 7, .str (Str.ofString "__eq__") (uK tk 7), .ref (f 31)⟩, ⟨qK w.params 8, .str (Str.ofString "__le__") (uK tk 8), .ref (f 39)⟩, ⟨qK w.params 9, .str (Str.ofString "__ge__") (uK tk 9), .ref (f 47)⟩, ⟨qK w.params 10, .str (Str.ofString "__hash__") (uK tk 10), .none⟩, ⟨qK w.params 11, .str (Str.ofString "__static_attributes__") (uK tk 11), .ref T⟩] 12, #[]⟩), (B, ⟨.type "tuple", none, .seq #[.type "object"] 0, #[]⟩), ((f 0), ⟨.type "list", none, .seq #[.str (Str.ofString "obj") (tk + 15)] 0, #[]⟩), ((f 7), ⟨.type "function", none, fnS (dfn 2) (Str.ofString "cmp_to_key.<locals>.K.__init__") [] (f 6) .none, #[]⟩), ((f 15), ⟨.type "function", none, fnS (dfn 3) (Str.ofString "cmp_to_key.<locals>.K.__lt__") [(Str.ofString "mycmp", c)] (f 14) (.ref (f 8)), #[]⟩), ((f 23), ⟨.type "function", none, fnS (dfn 4) (Str.ofString "cmp_to_key.<locals>.K.__gt__") [(Str.ofString "mycmp", c)] (f 22) (.ref (f 16)), #[]⟩), ((f 31), ⟨.type "function", none, fnS (dfn 5) (Str.ofString "cmp_to_key.<locals>.K.__eq__") [(Str.ofString "mycmp", c)] (f 30) (.ref (f 24)), #[]⟩), ((f 39), ⟨.type "function", none, fnS (dfn 6) (Str.ofString "cmp_to_key.<locals>.K.__le__") [(Str.ofString "mycmp", c)] (f 38) (.ref (f 32)), #[]⟩), ((f 47), ⟨.type "function", none, fnS (dfn 7) (Str.ofString "cmp_to_key.<locals>.K.__ge__") [(Str.ofString "mycmp", c)] (f 46) (.ref (f 40)), #[]⟩), (T, ⟨.type "tuple", none, .seq #[.str (Str.ofString "obj") (tk + 71)] 0, #[]⟩), (43, tab [rawInt 22, rawInt 4, .ref cK]), (PK, plK (f 6) (f 14) (f 22) (f 30) (f 38) (f 46)), (cK, cdO (Str.ofString "K") (Str.ofString "cmp_to_key.<locals>.K") 22 0 0 (tk + 2) (tk + 3) (tk + 4) (tk + 7) (tk + 6) (.ref x4) .none .none .none PK), ((f 6), cdO (Str.ofString "__init__") (Str.ofString "cmp_to_key.<locals>.K.__init__") 26 2 19 (tk + 17) (tk + 18) (tk + 19) (tk + 23) (tk + 22) (.ref (f 1)) (.ref (f 3)) (.ref (f 4)) (.ref (f 5)) (f 2)), ((f 14), cdO (Str.ofString "__lt__") (Str.ofString "cmp_to_key.<locals>.K.__lt__") 29 2 19 (tk + 25) (tk + 26) (tk + 27) (tk + 32) (tk + 31) (.ref (f 9)) (.ref (f 11)) (.ref (f 12)) (.ref (f 13)) (f 10))] : List (Addr × Obj)).map (·.1)) := fun i a hi hj => nd_take (j := 15) D8.apart hi hj
  have hLn := lt15 19 L rfl (by decide)
  have hL9 : h9.get? L = some (frO [] 0) := E9.keep L _ hL8 hLn
  have hLf := E9.free hL8 hLn
  have D10 : Own h9 [L] h9 [(L, frO [] 0)] := Own.of (L := [(L, frO [] 0)]) (fun p hp => by rw [List.mem_singleton] at hp; subst hp; exact hL9) (by simp)
  have X9 : (K1 w.params).In h9 := fun b o e => E9.keep b o (X8 b o e) (D9.free (hK b o e) (hKM b o e))
  have nL : ∀ b, b < 94 → b ≠ L := fun b hb q => by subst q; exact absurd hb (Nat.not_lt.mpr lL)
  refine wpAny_bind (gz K1 X9 ⟨_, X9 93 _ (k93 _).choose_spec⟩ D10 [.own 0, .own 0] 0 [0] [] (by simp) (by decide) fun as ha => ?_)
  match as, ha with
  | [], _ =>
  refine ⟨(), tk + 78, [(L, frO [⟨hsh w.params (Str.ofString "K"), .str (Str.ofString "K") (tk + 77), .ref C⟩] 1)], by kernel_rfl!, by kernel_rfl!, fun h10 D11 => ?_⟩
  have kp : ∀ b o, h9.get? b = some o → b ≠ L → h10.get? b = some o := fun b o e ne => D11.keep b o e (by simpa using ne)
  have at9 : ∀ i (p : Addr × Obj), (LF N B (f 0) (f 7) (f 15) (f 23) (f 31) (f 39) (f 47) T 43 PK cK (f 6) (f 14) ns C m (qK w.params) (uK tk) w.params (tk + 13) (tk + 9) (tk + 11) tk (tk + 15) (tk + 73) 12 _ _ _ _ _ _ _ _ _ _ _ _)[i]? = some p → h10.get? p.1 = some p.2 := fun i p hi => kp _ _ (E9.own _ (List.mem_of_getElem? hi)) fun q => hLf (q ▸ List.mem_map_of_mem (f := (·.1)) (List.mem_of_getElem? hi))
  have old : ∀ i (p : Addr × Obj), ([(N, ⟨.type "dict", none, .dict #[⟨qK w.params 0, .str (Str.ofString "__module__") (uK tk 0), .str (Str.ofString "cpy313.functools") (tk + 13)⟩, ⟨qK w.params 1, .str (Str.ofString "__qualname__") (uK tk 1), .str (Str.ofString "cmp_to_key.<locals>.K") (tk + 9)⟩, ⟨qK w.params 2, .str (Str.ofString "__firstlineno__") (uK tk 2), .int 22 (tk + 11)⟩, ⟨qK w.params 3, .str (Str.ofString "__slots__") (uK tk 3), .ref (f 0)⟩, ⟨qK w.params 4, .str (Str.ofString "__init__") (uK tk 4), .ref (f 7)⟩, ⟨qK w.params 5, .str (Str.ofString "__lt__") (uK tk 5), .ref (f 15)⟩, ⟨qK w.params 6, .str (Str.ofString "__gt__") (uK tk 6), .ref (f 23)⟩, ⟨qK w.params 7, .str (Str.ofString "__eq__") (uK tk 7), .ref (f 31)⟩, ⟨qK w.params 8, .str (Str.ofString "__le__") (uK tk 8), .ref (f 39)⟩, ⟨qK w.params 9, .str (Str.ofString "__ge__") (uK tk 9), .ref (f 47)⟩, ⟨qK w.params 10, .str (Str.ofString "__hash__") (uK tk 10), .none⟩, ⟨qK w.params 11, .str (Str.ofString "__static_attributes__") (uK tk 11), .ref T⟩] 12, #[]⟩), (B, ⟨.type "tuple", none, .seq #[.type "object"] 0, #[]⟩), ((f 0), ⟨.type "list", none, .seq #[.str (Str.ofString "obj") (tk + 15)] 0, #[]⟩), ((f 7), ⟨.type "function", none, fnS (dfn 2) (Str.ofString "cmp_to_key.<locals>.K.__init__") [] (f 6) .none, #[]⟩), ((f 15), ⟨.type "function", none, fnS (dfn 3) (Str.ofString "cmp_to_key.<locals>.K.__lt__") [(Str.ofString "mycmp", c)] (f 14) (.ref (f 8)), #[]⟩), ((f 23), ⟨.type "function", none, fnS (dfn 4) (Str.ofString "cmp_to_key.<locals>.K.__gt__") [(Str.ofString "mycmp", c)] (f 22) (.ref (f 16)), #[]⟩), ((f 31), ⟨.type "function", none, fnS (dfn 5) (Str.ofString "cmp_to_key.<locals>.K.__eq__") [(Str.ofString "mycmp", c)] (f 30) (.ref (f 24)), #[]⟩), ((f 39), ⟨.type "function", none, fnS (dfn 6) (Str.ofString "cmp_to_key.<locals>.K.__le__") [(Str.ofString "mycmp", c)] (f 38) (.ref (f 32)), #[]⟩), ((f 47), ⟨.type "function", none, fnS (dfn 7) (Str.ofString "cmp_to_key.<locals>.K.__ge__") [(Str.ofString "mycmp", c)] (f 46) (.ref (f 40)), #[]⟩), (T, ⟨.type "tuple", none, .seq #[.str (Str.ofString "obj") (tk + 71)] 0, #[]⟩), (43, tab [rawInt 22, rawInt 4, .ref cK]), (PK, plK (f 6) (f 14) (f 22) (f 30) (f 38) (f 46)), (cK, cdO (Str.ofString "K") (Str.ofString "cmp_to_key.<locals>.K") 22 0 0 (tk + 2) (tk + 3) (tk + 4) (tk + 7) (tk + 6) (.ref x4) .none .none .none PK), ((f 6), cdO (Str.ofString "__init__") (Str.ofString "cmp_to_key.<locals>.K.__init__") 26 2 19 (tk + 17) (tk + 18) (tk + 19) (tk + 23) (tk + 22) (.ref (f 1)) (.ref (f 3)) (.ref (f 4)) (.ref (f 5)) (f 2)), ((f 14), cdO (Str.ofString "__lt__") (Str.ofString "cmp_to_key.<locals>.K.__lt__") 29 2 19 (tk + 25) (tk + 26) (tk + 27) (tk + 32) (tk + 31) (.ref (f 9)) (.ref (f 11)) (.ref (f 12)) (.ref (f 13)) (f 10)), ((f 22), cdO (Str.ofString "__gt__") (Str.ofString "cmp_to_key.<locals>.K.__gt__") 32 2 19 (tk + 34) (tk + 35) (tk + 36) (tk + 41) (tk + 40) (.ref (f 17)) (.ref (f 19)) (.ref (f 20)) (.ref (f 21)) (f 18)), ((f 30), cdO (Str.ofString "__eq__") (Str.ofString "cmp_to_key.<locals>.K.__eq__") 35 2 19 (tk + 43) (tk + 44) (tk + 45) (tk + 50) (tk + 49) (.ref (f 25)) (.ref (f 27)) (.ref (f 28)) (.ref (f 29)) (f 26)), ((f 38), cdO (Str.ofString "__le__") (Str.ofString "cmp_to_key.<locals>.K.__le__") 38 2 19 (tk + 52) (tk + 53) (tk + 54) (tk + 59) (tk + 58) (.ref (f 33)) (.ref (f 35)) (.ref (f 36)) (.ref (f 37)) (f 34)), ((f 46), cdO (Str.ofString "__ge__") (Str.ofString "cmp_to_key.<locals>.K.__ge__") 41 2 19 (tk + 61) (tk + 62) (tk + 63) (tk + 68) (tk + 67) (.ref (f 41)) (.ref (f 43)) (.ref (f 44)) (.ref (f 45)) (f 42)), (L, frO [] 0)] : List (Addr × Obj))[i]? = some p → 15 ≤ i → i < 19 → h10.get? p.1 = some p.2 := fun i p hi hj hj2 => by
    have h8p := D8.own _ (List.mem_of_getElem? hi)
    have hi' : (([(N, ⟨.type "dict", none, .dict #[⟨qK w.params 0, .str (Str.ofString "__module__") (uK tk 0), .str (Str.ofString "cpy313.functools") (tk + 13)⟩, ⟨qK w.params 1, .str (Str.ofString "__qualname__") (uK tk 1), .str (Str.ofString "cmp_to_key.<locals>.K") (tk + 9)⟩, ⟨qK w.params 2, .str (Str.ofString "__firstlineno__") (uK tk 2), .int 22 (tk + 11)⟩, ⟨qK w.params 3, .str (Str.ofString "__slots__") (uK tk 3), .ref (f 0)⟩, ⟨qK w.params 4, .str (Str.ofString "__init__") (uK tk 4), .ref (f 7)⟩, ⟨qK w.params 5, .str (Str.ofString "__lt__") (uK tk 5), .ref (f 15)⟩, ⟨qK w.params 6, .str (Str.ofString "__gt__") (uK tk 6), .ref (f 23)⟩, ⟨qK w.params 7, .str (Str.ofString "__eq__") (uK tk 7), .ref (f 31)⟩, ⟨qK w.params 8, .str (Str.ofString "__le__") (uK tk 8), .ref (f 39)⟩, ⟨qK w.params 9, .str (Str.ofString "__ge__") (uK tk 9), .ref (f 47)⟩, ⟨qK w.params 10, .str (Str.ofString "__hash__") (uK tk 10), .none⟩, ⟨qK w.params 11, .str (Str.ofString "__static_attributes__") (uK tk 11), .ref T⟩] 12, #[]⟩), (B, ⟨.type "tuple", none, .seq #[.type "object"] 0, #[]⟩), ((f 0), ⟨.type "list", none, .seq #[.str (Str.ofString "obj") (tk + 15)] 0, #[]⟩), ((f 7), ⟨.type "function", none, fnS (dfn 2) (Str.ofString "cmp_to_key.<locals>.K.__init__") [] (f 6) .none, #[]⟩), ((f 15), ⟨.type "function", none, fnS (dfn 3) (Str.ofString "cmp_to_key.<locals>.K.__lt__") [(Str.ofString "mycmp", c)] (f 14) (.ref (f 8)), #[]⟩), ((f 23), ⟨.type "function", none, fnS (dfn 4) (Str.ofString "cmp_to_key.<locals>.K.__gt__") [(Str.ofString "mycmp", c)] (f 22) (.ref (f 16)), #[]⟩), ((f 31), ⟨.type "function", none, fnS (dfn 5) (Str.ofString "cmp_to_key.<locals>.K.__eq__") [(Str.ofString "mycmp", c)] (f 30) (.ref (f 24)), #[]⟩), ((f 39), ⟨.type "function", none, fnS (dfn 6) (Str.ofString "cmp_to_key.<locals>.K.__le__") [(Str.ofString "mycmp", c)] (f 38) (.ref (f 32)), #[]⟩), ((f 47), ⟨.type "function", none, fnS (dfn 7) (Str.ofString "cmp_to_key.<locals>.K.__ge__") [(Str.ofString "mycmp", c)] (f 46) (.ref (f 40)), #[]⟩), (T, ⟨.type "tuple", none, .seq #[.str (Str.ofString "obj") (tk + 71)] 0, #[]⟩), (43, tab [rawInt 22, rawInt 4, .ref cK]), (PK, plK (f 6) (f 14) (f 22) (f 30) (f 38) (f 46)), (cK, cdO (Str.ofString "K") (Str.ofString "cmp_to_key.<locals>.K") 22 0 0 (tk + 2) (tk + 3) (tk + 4) (tk + 7) (tk + 6) (.ref x4) .none .none .none PK), ((f 6), cdO (Str.ofString "__init__") (Str.ofString "cmp_to_key.<locals>.K.__init__") 26 2 19 (tk + 17) (tk + 18) (tk + 19) (tk + 23) (tk + 22) (.ref (f 1)) (.ref (f 3)) (.ref (f 4)) (.ref (f 5)) (f 2)), ((f 14), cdO (Str.ofString "__lt__") (Str.ofString "cmp_to_key.<locals>.K.__lt__") 29 2 19 (tk + 25) (tk + 26) (tk + 27) (tk + 32) (tk + 31) (.ref (f 9)) (.ref (f 11)) (.ref (f 12)) (.ref (f 13)) (f 10)), ((f 22), cdO (Str.ofString "__gt__") (Str.ofString "cmp_to_key.<locals>.K.__gt__") 32 2 19 (tk + 34) (tk + 35) (tk + 36) (tk + 41) (tk + 40) (.ref (f 17)) (.ref (f 19)) (.ref (f 20)) (.ref (f 21)) (f 18)), ((f 30), cdO (Str.ofString "__eq__") (Str.ofString "cmp_to_key.<locals>.K.__eq__") 35 2 19 (tk + 43) (tk + 44) (tk + 45) (tk + 50) (tk + 49) (.ref (f 25)) (.ref (f 27)) (.ref (f 28)) (.ref (f 29)) (f 26)), ((f 38), cdO (Str.ofString "__le__") (Str.ofString "cmp_to_key.<locals>.K.__le__") 38 2 19 (tk + 52) (tk + 53) (tk + 54) (tk + 59) (tk + 58) (.ref (f 33)) (.ref (f 35)) (.ref (f 36)) (.ref (f 37)) (f 34)), ((f 46), cdO (Str.ofString "__ge__") (Str.ofString "cmp_to_key.<locals>.K.__ge__") 41 2 19 (tk + 61) (tk + 62) (tk + 63) (tk + 68) (tk + 67) (.ref (f 41)) (.ref (f 43)) (.ref (f 44)) (.ref (f 45)) (f 42)), (L, frO [] 0)] : List (Addr × Obj)).map (·.1))[i]? = some p.1 := by rw [List.getElem?_map, hi]; rfl
    refine kp _ _ (E9.keep _ _ h8p (lt15 i _ hi' hj)) fun q => ?_
    have := nd_take (j := 19) D8.apart (i := 19) (a := L) rfl (by decide)
    rw [q] at hi'
    exact this (List.mem_iff_getElem?.mpr ⟨i, by rw [List.getElem?_take, if_pos hj2]; exact hi'⟩)
  have fr8 := fun i a hi ni => D8.fresh [10, 19] rfl (i := i) (a := a) hi ni
  have fr9 := fun i a hi ni => D8.fresh0 (E9.fresh (List.range 15) rfl (i := i) (a := a) hi ni)
  have frs : ∀ a ∈ [C, ns, m, (f 7), (f 15), PK, cK, (f 6), (f 14), (f 22), (f 30), (f 38), (f 46)], h.get? a = none := by
    intro a ha
    simp only [List.mem_cons, List.not_mem_nil, or_false] at ha
    rcases ha with rfl | rfl | rfl | rfl | rfl | rfl | rfl | rfl | rfl | rfl | rfl | rfl | rfl
    · exact fr9 16 _ rfl (by decide)
    · exact fr9 15 _ rfl (by decide)
    · exact fr9 17 _ rfl (by decide)
    · exact fr8 3 _ rfl (by decide)
    · exact fr8 4 _ rfl (by decide)
    · exact fr8 11 _ rfl (by decide)
    · exact fr8 12 _ rfl (by decide)
    · exact fr8 13 _ rfl (by decide)
    · exact fr8 14 _ rfl (by decide)
    · exact fr8 15 _ rfl (by decide)
    · exact fr8 16 _ rfl (by decide)
    · exact fr8 17 _ rfl (by decide)
    · exact fr8 18 _ rfl (by decide)
  refine wpAny_pure (k C ns m (f 7) (f 15) PK cK (f 6) (f 14) (f 22) (f 30) (f 38) (f 46) _ _ h10 (fun b o e n1 n2 => kp _ _ (E9.keep b o (D8.keep b o e (by simp [n1, n2])) (D9.free e (by simp [n1, n2]))) n2) ⟨at9 10 _ rfl, at9 11 _ rfl, ⟨_, _, _, _, _, _, _, _, _, at9 12 _ rfl⟩, ⟨ha4.2 _ (by simp), ha4.2 _ (by simp), ha7.2 _ (List.mem_map_of_mem (a := 6) (List.mem_range.mpr (show 6 < 48 by decide)))⟩, ⟨_, _, _, _, _, _, _, _, _, _, at9 13 _ rfl⟩, ⟨_, _, _, _, _, _, _, _, _, _, at9 14 _ rfl⟩, ⟨_, _, _, _, _, _, _, _, _, _, old 15 _ rfl (by decide) (by decide)⟩, ⟨_, _, _, _, _, _, _, _, _, _, old 16 _ rfl (by decide) (by decide)⟩, ⟨_, _, _, _, _, _, _, _, _, _, old 17 _ rfl (by decide) (by decide)⟩, ⟨_, _, _, _, _, _, _, _, _, _, old 18 _ rfl (by decide) (by decide)⟩⟩
    ⟨⟨_, _, _, at9 16 _ rfl⟩, ⟨_, _, _, _, _, _, _, _, _, _, _, _, at9 15 _ rfl⟩, ⟨_, at9 17 _ rfl⟩, at9 3 _ rfl, ⟨_, at9 4 _ rfl⟩, ⟨_, _, _, _, _, _, _, _, _, _, at9 13 _ rfl⟩, ⟨_, _, _, _, _, _, _, _, _, _, at9 14 _ rfl⟩⟩ frs (D11.at 0 rfl))
end Mine

end C4_

section C5_
namespace Mine
set_option maxHeartbeats 4000000 in
theorem cls2 {w : World} {E : Value → Shared → Prop} {h : Heap} {g : Array GenState} {d : Drawn} {tk : Nat} {os : OsState} {L c : Addr} {cK PK c1 c2 c3 c4 c5 c6 : Addr} {Q : Flow → Shared → Prop}
    (hK : (K1 w.params).In h) (hB : Bt h) (F : FullK h cK PK c1 c2 c3 c4 c5 c6) (hL : h.get? L = some (frO [] 0)) (lL : 94 ≤ L)
    (k : ∀ C ns m f1 f2 t tk' h', (∀ b o, h.get? b = some o → b ≠ L → h'.get? b = some o) → FullK h' cK PK c1 c2 c3 c4 c5 c6 → KClass h' C ns m f1 f2 c c1 c2 w.params → (∀ a ∈ [C, ns, m, f1, f2], h.get? a = none) →
      h'.get? L = some (frO [⟨hsh w.params (Str.ofString "K"), .str (Str.ofString "K") t, .ref C⟩] 1) → Q .next ⟨h', g, d, tk', os⟩) :
    wpAny (model pg w) A0 (exec kc (envC w.params L c)) Q E ⟨h, g, d, tk, os⟩ := by
  have X := hK
  obtain ⟨ta0, tb0, tc0, td0, z0, x0, y0, v0, u0, hcK⟩ := F.k
  obtain ⟨ta1, tb1, tc1', td1, z1, x1, y1, v1, u1, p1, hc1⟩ := F.e1
  have h94 : ∃ o, h.get? 93 = some o := ⟨_, X 93 _ (k93 _).choose_spec⟩
  have D : Own h [43, PK, cK, c1, L] h [(43, tab [rawInt 22, rawInt 4, .ref cK]), (PK, plK c1 c2 c3 c4 c5 c6), (cK, cdO (Str.ofString "K") (Str.ofString "cmp_to_key.<locals>.K") 22 0 0 ta0 tb0 tc0 td0 z0 x0 y0 v0 u0 PK), (c1, cdO (Str.ofString "__init__") (Str.ofString "cmp_to_key.<locals>.K.__init__") 26 2 19 ta1 tb1 tc1' td1 z1 x1 y1 v1 u1 p1), (L, frO [] 0)] := Own.of (L := [(43, tab [rawInt 22, rawInt 4, .ref cK]), (PK, plK c1 c2 c3 c4 c5 c6), (cK, cdO (Str.ofString "K") (Str.ofString "cmp_to_key.<locals>.K") 22 0 0 ta0 tb0 tc0 td0 z0 x0 y0 v0 u0 PK), (c1, cdO (Str.ofString "__init__") (Str.ofString "cmp_to_key.<locals>.K.__init__") 26 2 19 ta1 tb1 tc1' td1 z1 x1 y1 v1 u1 p1), (L, frO [] 0)]) (fun p hp => by
      simp only [List.mem_cons, List.not_mem_nil, or_false] at hp
      rcases hp with rfl | rfl | rfl | rfl | rfl
      · exact F.t
      · exact F.p
      · exact hcK
      · exact hc1
      · exact hL) (by
      have n1 := ne_of_objs F.t F.p (by simp)
      have n2 := ne_of_objs F.t hcK (by simp)
      have n3 := ne_of_objs F.t hc1 (by simp)
      have n4 := ne_of_objs F.t hL (by simp)
      have n5 := ne_of_objs F.p hcK (by simp)
      have n6 := ne_of_objs F.p hc1 (by simp)
      have n7 := ne_of_objs F.p hL (by simp)
      have n8 := ne_of_objs hcK hc1 (by simp [rawInt])
      have n9 := ne_of_objs hcK hL (by simp)
      have n10 := ne_of_objs hc1 hL (by simp)
      simp [n1, n2, n3, n4, n5, n6, n7, n8, n9, n10])
  have hKM : ∀ b o, (K1 w.params).lookup b = some o → b ∉ [43, PK, cK, c1, L] := fun b o e => by
    have := k1_dom e
    have low := F.low
    have up : ∀ a, 94 ≤ a → b ≠ a := fun a ha q => by subst q; exact absurd this.1 (Nat.not_lt.mpr ha)
    simp only [List.mem_cons, List.not_mem_nil, or_false, not_or]
    exact ⟨this.2.1, up _ low.1, up _ low.2.1, up _ low.2.2, up _ lL⟩
  have n4 : 4 ∉ [43, PK, cK, c1, L] := by
    have up : ∀ a, 94 ≤ a → 4 ≠ a := fun a ha q => absurd ha (by rw [← q]; decide)
    simp only [List.mem_cons, List.not_mem_nil, or_false, not_or]
    exact ⟨by decide, up _ F.low.1, up _ F.low.2.1, up _ F.low.2.2, up _ lL⟩
  obtain ⟨sl, e4⟩ := hB.m4
  have hTop : ∀ b ∈ [3, 4], b ∉ [43, PK, cK, c1, L] := fun b hb => by
    rcases List.mem_cons.mp hb with rfl | hb
    · exact hKM 3 _ rfl
    · rw [List.mem_singleton] at hb; subst hb; exact n4
  rw [kc_eq]
  refine wpAny_bind (wpAny_pure ?_)
  refine wpAny_bind (wpAny_standAt ?_)
  refine wpAny_bind (guard_ok (by kernel_rfl!) hB ?_)
  refine wpAny_bind (wpAny_holding (wpAny_bind (bases_ok X hB ?_)))
  refine wpAny_bind (wpAny_standAt (wpAny_holding ?_))
  unfold buildClass
  refine wpAny_bind (gz K1 hK h94 D [] 1 (List.range 6) [] (by simp) (by decide) fun as ha => ?_)
  match as, ha with
  | [B], _ =>
  refine ⟨.ref B, tk, [(43, tab [rawInt 22, rawInt 4, .ref cK]), (PK, plK c1 c2 c3 c4 c5 c6), (cK, cdO (Str.ofString "K") (Str.ofString "cmp_to_key.<locals>.K") 22 0 0 ta0 tb0 tc0 td0 z0 x0 y0 v0 u0 PK), (c1, cdO (Str.ofString "__init__") (Str.ofString "cmp_to_key.<locals>.K.__init__") 26 2 19 ta1 tb1 tc1' td1 z1 x1 y1 v1 u1 p1), (L, frO [] 0), (B, ⟨.type "tuple", none, .seq #[.type "object"] 0, #[]⟩)], by kernel_rfl!, by kernel_rfl!, fun h1 D1 => ?_⟩
  refine wpAny_bind (closed (r := ([.type "object"], false)) (by kernel_rfl!) ?_)
  refine wpAny_bind (closed (r := .type "type") (by kernel_rfl!) ?_)
  refine wpAny_bind (closed (r := true) (by kernel_rfl!) ?_)
  refine ite_t rfl ?_
  refine wpAny_bind (closed (r := .type "type") (by kernel_rfl!) ?_)
  refine wpAny_bind (wpAny_mkText ?_)
  refine ite_f ff ?_
  refine wpAny_bind (wpAny_pure ?_)
  refine wpAny_holding ?_
  refine wpAny_bind (gz K1 hK h94 D1 [] 1 (List.range 7) [] (by simp) (by decide) fun as ha => ?_)
  match as, ha with
  | [pm], _ =>
  refine ⟨some (.ref pm), tk + 2, [(43, tab [rawInt 22, rawInt 4, .ref cK]), (PK, plK c1 c2 c3 c4 c5 c6), (cK, cdO (Str.ofString "K") (Str.ofString "cmp_to_key.<locals>.K") 22 0 0 ta0 tb0 tc0 td0 z0 x0 y0 v0 u0 PK), (c1, cdO (Str.ofString "__init__") (Str.ofString "cmp_to_key.<locals>.K.__init__") 26 2 19 ta1 tb1 tc1' td1 z1 x1 y1 v1 u1 p1), (L, frO [] 0), (B, ⟨.type "tuple", none, .seq #[.type "object"] 0, #[]⟩), (pm, ⟨.type "builtin_function_or_method", none, .fields #[.builtin "type.__prepare__", .type "type"], #[]⟩)], by kernel_rfl!, by kernel_rfl!, fun h2 D2 => ?_⟩
  refine wpAny_bind (gz K1 hK h94 D2 [.own 6] 1 ([7, 5] ++ List.range 5) [] (by simp) (by decide) fun as ha => ?_)
  match as, ha with
  | [N], haN =>
  refine ⟨.ref N, tk + 2, [(N, ⟨.type "dict", none, .dict #[] 0, #[]⟩), (B, ⟨.type "tuple", none, .seq #[.type "object"] 0, #[]⟩), (43, tab [rawInt 22, rawInt 4, .ref cK]), (PK, plK c1 c2 c3 c4 c5 c6), (cK, cdO (Str.ofString "K") (Str.ofString "cmp_to_key.<locals>.K") 22 0 0 ta0 tb0 tc0 td0 z0 x0 y0 v0 u0 PK), (c1, cdO (Str.ofString "__init__") (Str.ofString "cmp_to_key.<locals>.K.__init__") 26 2 19 ta1 tb1 tc1' td1 z1 x1 y1 v1 u1 p1), (L, frO [] 0)], by kernel_rfl!, by kernel_rfl!, fun h3 D3 => ?_⟩
  have eN := D3.at 0 rfl
  have hN : N ≠ 1 := fun q => absurd (haN.2 N (by simp)) (by rw [q]; decide)
  refine wpAny_bind ?_
  unfold notTheModulesDict
  refine ite_f (by simpa [sysModules] using hN) (wpAny_pure ?_)
  refine wpAny_bind (rd [_] (some (.builtin "dict.__getitem__")) [N] (by kernel_rfl!) ⟨eN, trivial⟩ ?_)
  refine ite_f ff ?_
  refine wpAny_holding ?_
  refine ite_kf (by kernel_rfl!) ?_
  refine wpAny_bind (wpAny_pure ?_)
  refine ite_kf (by kernel_rfl!) ?_
  refine wpAny_bind (wpAny_pure ?_)
  refine wpAny_bind (gz K1 hK h94 D3 [.top 47, .own 2] 0 (List.range 7) [47] (fun b hb => by rw [List.mem_singleton] at hb; subst hb; exact hKM 47 _ rfl) (by decide) fun as ha => ?_)
  match as, ha with
  | [], _ =>
  refine ⟨.ref cK, tk + 2, [(N, ⟨.type "dict", none, .dict #[] 0, #[]⟩), (B, ⟨.type "tuple", none, .seq #[.type "object"] 0, #[]⟩), (43, tab [rawInt 22, rawInt 4, .ref cK]), (PK, plK c1 c2 c3 c4 c5 c6), (cK, cdO (Str.ofString "K") (Str.ofString "cmp_to_key.<locals>.K") 22 0 0 ta0 tb0 tc0 td0 z0 x0 y0 v0 u0 PK), (c1, cdO (Str.ofString "__init__") (Str.ofString "cmp_to_key.<locals>.K.__init__") 26 2 19 ta1 tb1 tc1' td1 z1 x1 y1 v1 u1 p1), (L, frO [] 0)], by kernel_rfl!, by kernel_rfl!, fun h4 D4 => ?_⟩
  have X4 : (K1 w.params).In h4 := fun b o e => D4.keep b o (hK b o e) (hKM b o e)
  refine wpAny_bind (rd [_, _] 0 [3, 4] (by kernel_rfl!) ⟨X4 3 _ rfl, D4.keep 4 _ e4 n4, trivial⟩ ?_)
  refine wpAny_bind (gz K1 hK h94 D4 [.top 3] 1 (List.range 7) [3] (fun b hb => by rw [List.mem_singleton] at hb; subst hb; exact hKM 3 _ rfl) (by decide) fun as ha => ?_)
  match as, ha with
  | [fr], _ =>
  refine ⟨fr, tk + 2, [(N, ⟨.type "dict", none, .dict #[] 0, #[]⟩), (B, ⟨.type "tuple", none, .seq #[.type "object"] 0, #[]⟩), (43, tab [rawInt 22, rawInt 4, .ref cK]), (PK, plK c1 c2 c3 c4 c5 c6), (cK, cdO (Str.ofString "K") (Str.ofString "cmp_to_key.<locals>.K") 22 0 0 ta0 tb0 tc0 td0 z0 x0 y0 v0 u0 PK), (c1, cdO (Str.ofString "__init__") (Str.ofString "cmp_to_key.<locals>.K.__init__") 26 2 19 ta1 tb1 tc1' td1 z1 x1 y1 v1 u1 p1), (L, frO [] 0)], by kernel_rfl!, by kernel_rfl!, fun h5 D5 => ?_⟩
  have X5 : (K1 w.params).In h5 := fun b o e => D5.keep b o (hK b o e) (hKM b o e)
  refine wpAny_bind (closed (r := [(Str.ofString "mycmp", c)]) (by kernel_rfl!) ?_)
  refine wpAny_holding ?_
  refine wpAny_bind (wpAny_enterFrame (noLimit_of (X5 2 _ rfl)) (by decide) ?_)
  refine wpAny_bind (gz K1 hK h94 D5 [.own 0, .own 0, .top 3, .own 0, .own 0, .own 0, .own 0, .own 0, .own 0, .own 0, .own 0, .own 0] 0 (List.range 7) [3] (fun b hb => by rw [List.mem_singleton] at hb; subst hb; exact hKM 3 _ rfl) (by decide) fun as ha => ?_)
  match as, ha with
  | [], _ =>
  refine ⟨(), tk + 7, [(N, ⟨.type "dict", none, .dict #[⟨qK w.params 0, .str (Str.ofString "__module__") (uH tk 0), .str (Str.ofString "law_oy0033_01") 247⟩, ⟨qK w.params 1, .str (Str.ofString "__qualname__") (uH tk 1), .str (Str.ofString "cmp_to_key.<locals>.K") (tk + 3)⟩, ⟨qK w.params 2, .str (Str.ofString "__firstlineno__") (uH tk 2), .int 22 (tk + 5)⟩] 3, #[]⟩), (B, ⟨.type "tuple", none, .seq #[.type "object"] 0, #[]⟩), (43, tab [rawInt 22, rawInt 4, .ref cK]), (PK, plK c1 c2 c3 c4 c5 c6), (cK, cdO (Str.ofString "K") (Str.ofString "cmp_to_key.<locals>.K") 22 0 0 ta0 tb0 tc0 td0 z0 x0 y0 v0 u0 PK), (c1, cdO (Str.ofString "__init__") (Str.ofString "cmp_to_key.<locals>.K.__init__") 26 2 19 ta1 tb1 tc1' td1 z1 x1 y1 v1 u1 p1), (L, frO [] 0)], by kernel_rfl!, by kernel_rfl!, fun h6 D6 => ?_⟩
  have hK4 : (K4 sl w.params).In h := fun b o e => by
    by_cases q : b = 4
    · subst q; cases e; exact e4
    · have qb : (b == 4) = false := by simpa using q
      exact hK b o (by simpa [K4, List.lookup_cons, qb] using e)
  refine wpAny_bind (gz (K4 sl) hK4 h94 D6 [.own 0, .own 0, .own 0, .own 0, .own 0, .own 0, .own 4, .own 3, .top 3, .top 4, .top 3, .own 0, .own 0, .own 0, .own 4, .own 3, .top 3, .top 4, .top 3, .own 0, .own 0, .own 0, .own 4, .own 3, .top 3, .top 4, .top 3, .own 0, .own 0, .own 0, .own 4, .own 3, .top 3, .top 4, .top 3, .own 0, .own 0, .own 0, .own 4, .own 3, .top 3, .top 4, .top 3, .own 0, .own 0, .own 0, .own 4, .own 3, .top 3, .top 4, .top 3, .own 0, .own 0, .own 0, .own 0, .own 0, .own 0] 12 [0, 1, 7, 8, 10, 12, 14, 16, 18, 2, 3, 4, 5, 6] [3, 4, 3, 3, 4, 3, 3, 4, 3, 3, 4, 3, 3, 4, 3, 3, 4, 3] (fun b hb => hTop b ((by decide : ∀ b ∈ [3, 4, 3, 3, 4, 3, 3, 4, 3, 3, 4, 3, 3, 4, 3, 3, 4, 3], b ∈ [3, 4]) b hb)) (by decide) fun as ha => ?_)
  match as, ha with
  | x8 :: x9 :: x10 :: x11 :: x12 :: x13 :: x14 :: x15 :: x16 :: x17 :: x18 :: x19 :: [], _ =>
  refine ⟨.next, tk + 18, [(N, ⟨.type "dict", none, .dict #[⟨qK w.params 0, .str (Str.ofString "__module__") (uH tk 0), .str (Str.ofString "cpy313.functools") (tk + 7)⟩, ⟨qK w.params 1, .str (Str.ofString "__qualname__") (uH tk 1), .str (Str.ofString "cmp_to_key.<locals>.K") (tk + 3)⟩, ⟨qK w.params 2, .str (Str.ofString "__firstlineno__") (uH tk 2), .int 22 (tk + 5)⟩, ⟨qK w.params 3, .str (Str.ofString "__slots__") (uH tk 3), .ref x8⟩, ⟨qK w.params 4, .str (Str.ofString "__init__") (uH tk 4), .ref x9⟩, ⟨qK w.params 5, .str (Str.ofString "__lt__") (uH tk 5), .ref x11⟩, ⟨qK w.params 6, .str (Str.ofString "__gt__") (uH tk 6), .ref x13⟩, ⟨qK w.params 7, .str (Str.ofString "__eq__") (uH tk 7), .ref x15⟩, ⟨qK w.params 8, .str (Str.ofString "__le__") (uH tk 8), .ref x17⟩, ⟨qK w.params 9, .str (Str.ofString "__ge__") (uH tk 9), .ref x19⟩, ⟨qK w.params 10, .str (Str.ofString "__hash__") (uH tk 10), .none⟩] 11, #[]⟩), (B, ⟨.type "tuple", none, .seq #[.type "object"] 0, #[]⟩), (x8, ⟨.type "list", none, .seq #[.str (Str.ofString "obj") (tk + 9)] 0, #[]⟩), (x9, ⟨.type "function", none, fnS (dfn 2) (Str.ofString "cmp_to_key.<locals>.K.__init__") [] c1 .none, #[]⟩), (x11, ⟨.type "function", none, fnS (dfn 3) (Str.ofString "cmp_to_key.<locals>.K.__lt__") [(Str.ofString "mycmp", c)] c2 (.ref x10), #[]⟩), (x13, ⟨.type "function", none, fnS (dfn 4) (Str.ofString "cmp_to_key.<locals>.K.__gt__") [(Str.ofString "mycmp", c)] c3 (.ref x12), #[]⟩), (x15, ⟨.type "function", none, fnS (dfn 5) (Str.ofString "cmp_to_key.<locals>.K.__eq__") [(Str.ofString "mycmp", c)] c4 (.ref x14), #[]⟩), (x17, ⟨.type "function", none, fnS (dfn 6) (Str.ofString "cmp_to_key.<locals>.K.__le__") [(Str.ofString "mycmp", c)] c5 (.ref x16), #[]⟩), (x19, ⟨.type "function", none, fnS (dfn 7) (Str.ofString "cmp_to_key.<locals>.K.__ge__") [(Str.ofString "mycmp", c)] c6 (.ref x18), #[]⟩), (43, tab [rawInt 22, rawInt 4, .ref cK]), (PK, plK c1 c2 c3 c4 c5 c6), (cK, cdO (Str.ofString "K") (Str.ofString "cmp_to_key.<locals>.K") 22 0 0 ta0 tb0 tc0 td0 z0 x0 y0 v0 u0 PK), (c1, cdO (Str.ofString "__init__") (Str.ofString "cmp_to_key.<locals>.K.__init__") 26 2 19 ta1 tb1 tc1' td1 z1 x1 y1 v1 u1 p1), (L, frO [] 0)], by kernel_rfl!, by kernel_rfl!, fun h7 D7 => ?_⟩
  refine wpAny_bind (gz K1 hK h94 D7 [.own 0, .own 0, .own 0] 1 [0, 1, 2, 3, 4, 5, 6, 7, 8, 14, 9, 10, 11, 12, 13] [] (by simp) (by decide) fun as ha => ?_)
  match as, ha with
  | [T], _ =>
  refine ⟨(), tk + 20, [(N, ⟨.type "dict", none, .dict #[⟨qK w.params 0, .str (Str.ofString "__module__") (uH tk 0), .str (Str.ofString "cpy313.functools") (tk + 7)⟩, ⟨qK w.params 1, .str (Str.ofString "__qualname__") (uH tk 1), .str (Str.ofString "cmp_to_key.<locals>.K") (tk + 3)⟩, ⟨qK w.params 2, .str (Str.ofString "__firstlineno__") (uH tk 2), .int 22 (tk + 5)⟩, ⟨qK w.params 3, .str (Str.ofString "__slots__") (uH tk 3), .ref x8⟩, ⟨qK w.params 4, .str (Str.ofString "__init__") (uH tk 4), .ref x9⟩, ⟨qK w.params 5, .str (Str.ofString "__lt__") (uH tk 5), .ref x11⟩, ⟨qK w.params 6, .str (Str.ofString "__gt__") (uH tk 6), .ref x13⟩, ⟨qK w.params 7, .str (Str.ofString "__eq__") (uH tk 7), .ref x15⟩, ⟨qK w.params 8, .str (Str.ofString "__le__") (uH tk 8), .ref x17⟩, ⟨qK w.params 9, .str (Str.ofString "__ge__") (uH tk 9), .ref x19⟩, ⟨qK w.params 10, .str (Str.ofString "__hash__") (uH tk 10), .none⟩, ⟨qK w.params 11, .str (Str.ofString "__static_attributes__") (uH tk 11), .ref T⟩] 12, #[]⟩), (B, ⟨.type "tuple", none, .seq #[.type "object"] 0, #[]⟩), (x8, ⟨.type "list", none, .seq #[.str (Str.ofString "obj") (tk + 9)] 0, #[]⟩), (x9, ⟨.type "function", none, fnS (dfn 2) (Str.ofString "cmp_to_key.<locals>.K.__init__") [] c1 .none, #[]⟩), (x11, ⟨.type "function", none, fnS (dfn 3) (Str.ofString "cmp_to_key.<locals>.K.__lt__") [(Str.ofString "mycmp", c)] c2 (.ref x10), #[]⟩), (x13, ⟨.type "function", none, fnS (dfn 4) (Str.ofString "cmp_to_key.<locals>.K.__gt__") [(Str.ofString "mycmp", c)] c3 (.ref x12), #[]⟩), (x15, ⟨.type "function", none, fnS (dfn 5) (Str.ofString "cmp_to_key.<locals>.K.__eq__") [(Str.ofString "mycmp", c)] c4 (.ref x14), #[]⟩), (x17, ⟨.type "function", none, fnS (dfn 6) (Str.ofString "cmp_to_key.<locals>.K.__le__") [(Str.ofString "mycmp", c)] c5 (.ref x16), #[]⟩), (x19, ⟨.type "function", none, fnS (dfn 7) (Str.ofString "cmp_to_key.<locals>.K.__ge__") [(Str.ofString "mycmp", c)] c6 (.ref x18), #[]⟩), (T, ⟨.type "tuple", none, .seq #[.str (Str.ofString "obj") (tk + 18)] 0, #[]⟩), (43, tab [rawInt 22, rawInt 4, .ref cK]), (PK, plK c1 c2 c3 c4 c5 c6), (cK, cdO (Str.ofString "K") (Str.ofString "cmp_to_key.<locals>.K") 22 0 0 ta0 tb0 tc0 td0 z0 x0 y0 v0 u0 PK), (c1, cdO (Str.ofString "__init__") (Str.ofString "cmp_to_key.<locals>.K.__init__") 26 2 19 ta1 tb1 tc1' td1 z1 x1 y1 v1 u1 p1), (L, frO [] 0)], by kernel_rfl!, by kernel_rfl!, fun h8 D8 => ?_⟩
  refine ite_f ff ?_
  have X8 : (K1 w.params).In h8 := fun b o e => D8.keep b o (hK b o e) (hKM b o e)
  have D9 := (D8.pick (idx := List.range 15) (Lp := [(N, ⟨.type "dict", none, .dict #[⟨qK w.params 0, .str (Str.ofString "__module__") (uH tk 0), .str (Str.ofString "cpy313.functools") (tk + 7)⟩, ⟨qK w.params 1, .str (Str.ofString "__qualname__") (uH tk 1), .str (Str.ofString "cmp_to_key.<locals>.K") (tk + 3)⟩, ⟨qK w.params 2, .str (Str.ofString "__firstlineno__") (uH tk 2), .int 22 (tk + 5)⟩, ⟨qK w.params 3, .str (Str.ofString "__slots__") (uH tk 3), .ref x8⟩, ⟨qK w.params 4, .str (Str.ofString "__init__") (uH tk 4), .ref x9⟩, ⟨qK w.params 5, .str (Str.ofString "__lt__") (uH tk 5), .ref x11⟩, ⟨qK w.params 6, .str (Str.ofString "__gt__") (uH tk 6), .ref x13⟩, ⟨qK w.params 7, .str (Str.ofString "__eq__") (uH tk 7), .ref x15⟩, ⟨qK w.params 8, .str (Str.ofString "__le__") (uH tk 8), .ref x17⟩, ⟨qK w.params 9, .str (Str.ofString "__ge__") (uH tk 9), .ref x19⟩, ⟨qK w.params 10, .str (Str.ofString "__hash__") (uH tk 10), .none⟩, ⟨qK w.params 11, .str (Str.ofString "__static_attributes__") (uH tk 11), .ref T⟩] 12, #[]⟩), (B, ⟨.type "tuple", none, .seq #[.type "object"] 0, #[]⟩), (x8, ⟨.type "list", none, .seq #[.str (Str.ofString "obj") (tk + 9)] 0, #[]⟩), (x9, ⟨.type "function", none, fnS (dfn 2) (Str.ofString "cmp_to_key.<locals>.K.__init__") [] c1 .none, #[]⟩), (x11, ⟨.type "function", none, fnS (dfn 3) (Str.ofString "cmp_to_key.<locals>.K.__lt__") [(Str.ofString "mycmp", c)] c2 (.ref x10), #[]⟩), (x13, ⟨.type "function", none, fnS (dfn 4) (Str.ofString "cmp_to_key.<locals>.K.__gt__") [(Str.ofString "mycmp", c)] c3 (.ref x12), #[]⟩), (x15, ⟨.type "function", none, fnS (dfn 5) (Str.ofString "cmp_to_key.<locals>.K.__eq__") [(Str.ofString "mycmp", c)] c4 (.ref x14), #[]⟩), (x17, ⟨.type "function", none, fnS (dfn 6) (Str.ofString "cmp_to_key.<locals>.K.__le__") [(Str.ofString "mycmp", c)] c5 (.ref x16), #[]⟩), (x19, ⟨.type "function", none, fnS (dfn 7) (Str.ofString "cmp_to_key.<locals>.K.__ge__") [(Str.ofString "mycmp", c)] c6 (.ref x18), #[]⟩), (T, ⟨.type "tuple", none, .seq #[.str (Str.ofString "obj") (tk + 18)] 0, #[]⟩), (43, tab [rawInt 22, rawInt 4, .ref cK]), (PK, plK c1 c2 c3 c4 c5 c6), (cK, cdO (Str.ofString "K") (Str.ofString "cmp_to_key.<locals>.K") 22 0 0 ta0 tb0 tc0 td0 z0 x0 y0 v0 u0 PK), (c1, cdO (Str.ofString "__init__") (Str.ofString "cmp_to_key.<locals>.K.__init__") 26 2 19 ta1 tb1 tc1' td1 z1 x1 y1 v1 u1 p1), (L, frO [] 0)]) (by decide) rfl)
  have hL8 : h8.get? L = some (frO [] 0) := D8.at 14 rfl
  refine wpAny_bind (tc1 (M := _) (q := qK w.params) (u := uH tk) (md := tk + 7) (qn := tk + 3) (fl := tk + 5) (tn := tk) (ul := tk + 9) X8 ⟨_, X8 93 _ (k93 _).choose_spec⟩ hN (fun b o e => D9.free (hK b o e) (hKM b o e)) rfl D9.base fun ns C m h9 E9 => ?_)
  refine wpAny_pure ?_
  refine wpAny_bind (closed (r := .ref C) (by kernel_rfl!) ?_)
  refine wpAny_bind (wpAny_standAt ?_)
  have hL9 : h9.get? L = some (frO [] 0) := E9.at 14 rfl
  have D10 : Own h9 [L] h9 [(L, frO [] 0)] := Own.of (L := [(L, frO [] 0)]) (fun p hp => by rw [List.mem_singleton] at hp; subst hp; exact hL9) (by simp)
  have X9 : (K1 w.params).In h9 := fun b o e => E9.keep b o (X8 b o e) (D9.free (hK b o e) (hKM b o e))
  refine wpAny_bind (gz K1 X9 ⟨_, X9 93 _ (k93 _).choose_spec⟩ D10 [.own 0, .own 0] 0 [0] [] (by simp) (by decide) fun as ha => ?_)
  match as, ha with
  | [], _ =>
  refine ⟨(), tk + 25, [(L, frO [⟨hsh w.params (Str.ofString "K"), .str (Str.ofString "K") (tk + 24), .ref C⟩] 1)], by kernel_rfl!, by kernel_rfl!, fun h10 D11 => ?_⟩
  have kp : ∀ b o, h9.get? b = some o → b ≠ L → h10.get? b = some o := fun b o e ne => D11.keep b o e (by simpa using ne)
  have at9 : ∀ i (p : Addr × Obj), (LF N B x8 x9 x11 x13 x15 x17 x19 T 43 PK cK c1 L ns C m (qK w.params) (uH tk) w.params (tk + 7) (tk + 3) (tk + 5) tk (tk + 9) (tk + 20) 12 _ _ _ _ _ _ _ _ _ _ _ _)[i]? = some p → i ≠ 14 → h10.get? p.1 = some p.2 := fun i p hi hn => kp _ _ (E9.own _ (List.mem_of_getElem? hi)) fun q => hn (nd_inj E9.apart (a := p.1) (by rw [List.getElem?_map, hi]; rfl) (j := 14) (by rw [q]; rfl))
  have keep : ∀ b o, h.get? b = some o → b ≠ L → h10.get? b = some o := fun b o e n2 => by
    by_cases q1 : b = 43
    · subst q1; rw [F.t] at e; cases e; exact at9 10 _ rfl (by decide)
    by_cases q2 : b = PK
    · subst q2; rw [F.p] at e; cases e; exact at9 11 _ rfl (by decide)
    by_cases q3 : b = cK
    · subst q3; rw [hcK] at e; cases e; exact at9 12 _ rfl (by decide)
    by_cases q4 : b = c1
    · subst q4; rw [hc1] at e; cases e; exact at9 13 _ rfl (by decide)
    have nm : b ∉ [43, PK, cK, c1, L] := by simp [q1, q2, q3, q4, n2]
    exact kp _ _ (E9.keep b o (D8.keep b o e nm) (D9.free e nm)) n2
  have code : ∀ a nm q l n f, CodeIs h a nm q l n f → CodeIs h10 a nm q l n f := fun a nm q l n f ⟨x1, x2, x3, x4, x5, x6, x7, x8, x9, x10, e⟩ => ⟨x1, x2, x3, x4, x5, x6, x7, x8, x9, x10, keep _ _ e (ne_of_objs e hL (by simp))⟩
  have frs : ∀ a ∈ [C, ns, m, x9, x11], h.get? a = none := by
    intro a ha
    simp only [List.mem_cons, List.not_mem_nil, or_false] at ha
    rcases ha with rfl | rfl | rfl | rfl | rfl
    · exact D8.fresh0 (E9.fresh (List.range 15) rfl (i := 16) rfl (by decide))
    · exact D8.fresh0 (E9.fresh (List.range 15) rfl (i := 15) rfl (by decide))
    · exact D8.fresh0 (E9.fresh (List.range 15) rfl (i := 17) rfl (by decide))
    · exact D8.fresh [10, 11, 12, 13, 14] rfl (i := 3) rfl (by decide)
    · exact D8.fresh [10, 11, 12, 13, 14] rfl (i := 4) rfl (by decide)
  refine wpAny_pure (k C ns m x9 x11 _ _ h10 keep ⟨keep _ _ F.t (ne_of_objs F.t hL (by simp)), keep _ _ F.p (ne_of_objs F.p hL (by simp)), ⟨_, _, _, _, _, _, _, _, _, at9 12 _ rfl (by decide)⟩, F.low, code _ _ _ _ _ _ F.e1, code _ _ _ _ _ _ F.e2, code _ _ _ _ _ _ F.e3, code _ _ _ _ _ _ F.e4, code _ _ _ _ _ _ F.e5, code _ _ _ _ _ _ F.e6⟩
    ⟨⟨_, _, _, at9 16 _ rfl (by decide)⟩, ⟨_, _, _, _, _, _, _, _, _, _, _, _, at9 15 _ rfl (by decide)⟩, ⟨_, at9 17 _ rfl (by decide)⟩, at9 3 _ rfl (by decide), ⟨_, at9 4 _ rfl (by decide)⟩, code _ _ _ _ _ _ F.e1, code _ _ _ _ _ _ F.e2⟩ frs (D11.at 0 rfl))
end Mine

end C5_

section C6_
namespace Mine
theorem loosen {α : Type} {M : Model} {A B : Around} {t : Sem α} {Q : α → Shared → Prop} {E : Value → Shared → Prop} {s : Shared} (h : wpAny M B t Q E s) (h1 : A.handled = B.handled) (h2 : A.depth ≤ B.depth) (h3 : A.units ≤ B.units) (h4 : B.frames = none) (h5 : B.guards = none) : wpAny M A t Q E s :=
  fun Γ p hΓ => h Γ p ⟨hΓ.1.trans h1, Nat.le_trans hΓ.2.1 h2, (by intro l e; rw [h4] at e; cases e), (by intro l e; rw [h5] at e; cases e), Nat.le_trans hΓ.2.2.2.2 h3⟩
theorem CodeIs.rec {h : Heap} {a : Addr} {nm q : Str} {l n f : Int} (x : CodeIs h a nm q l n f) : h.CodeRec (.ref a) q := by
  obtain ⟨t0, t1, t2, t3, z, x, y1, y2, y3, pl, e⟩ := x
  exact ⟨a, _, _, t1, rfl, e, rfl, rfl⟩
/-- the table of the class's codes: not filled yet, or filled -/
def TabK (h : Heap) : Prop := h.get? 43 = some (tab []) ∨ ∃ cK PK c1 c2 c3 c4 c5 c6, FullK h cK PK c1 c2 c3 c4 c5 c6
theorem CodeIs.grow {h h' : Heap} {a : Addr} {nm q : Str} {l n f : Int} (k : ∀ b o, h.get? b = some o → h'.get? b = some o) (x : CodeIs h a nm q l n f) : CodeIs h' a nm q l n f := by
  obtain ⟨t0, t1, t2, t3, z, x, y1, y2, y3, pl, e⟩ := x
  exact ⟨t0, t1, t2, t3, z, x, y1, y2, y3, pl, k _ _ e⟩
theorem TabK.grow {h h' : Heap} (k : ∀ b o, h.get? b = some o → h'.get? b = some o) (x : TabK h) : TabK h' := by
  rcases x with e | ⟨cK, PK, c1, c2, c3, c4, c5, c6, F⟩
  · exact .inl (k _ _ e)
  · obtain ⟨t0, t1, t2, t3, z, x, y1, y2, y3, e⟩ := F.k
    exact .inr ⟨cK, PK, c1, c2, c3, c4, c5, c6, k _ _ F.t, k _ _ F.p, ⟨t0, t1, t2, t3, z, x, y1, y2, y3, k _ _ e⟩, F.low, F.e1.grow k, F.e2.grow k, F.e3.grow k, F.e4.grow k, F.e5.grow k, F.e6.grow k⟩
theorem KClass.grow {h h' : Heap} {C ns m f1 f2 c c1 c2 : Addr} {P : Params} (k : ∀ b o, h.get? b = some o → h'.get? b = some o) (x : KClass h C ns m f1 f2 c c1 c2 P) : KClass h' C ns m f1 f2 c c1 c2 P := by
  obtain ⟨⟨B, tn, qn, e1⟩, ⟨q, u, md, fl, l, f3, f4, f5, f6, T, t1, t2, e2⟩, ⟨t, e3⟩, e4, ⟨ct, e5⟩, e6, e7⟩ := x
  exact ⟨⟨B, tn, qn, k _ _ e1⟩, ⟨q, u, md, fl, l, f3, f4, f5, f6, T, t1, t2, k _ _ e2⟩, ⟨t, k _ _ e3⟩, k _ _ e4, ⟨ct, k _ _ e5⟩, e6.grow k, e7.grow k⟩
abbrev clO (v : Value) : Obj := ⟨.type "cell", none, .cell (some v), #[]⟩
/-- what happens to the codes' table: found filled, or filled with new codes -/
def TabTo (N : List Addr) (G h h' : Heap) (c1 c2 : Addr) : Prop :=
  ((∀ b o, h.get? b = some o → b ∉ N → h'.get? b = some o) ∧ ∃ cK PK c3 c4 c5 c6, FullK G cK PK c1 c2 c3 c4 c5 c6) ∨
  ((∀ b o, h.get? b = some o → b ≠ 43 → b ∉ N → h'.get? b = some o) ∧ ∃ cK PK c3 c4 c5 c6, FullK h' cK PK c1 c2 c3 c4 c5 c6 ∧ ∀ a ∈ [PK, cK, c1, c2, c3, c4, c5, c6], h.get? a = none)
theorem FullK.grow {h h' : Heap} {cK PK c1 c2 c3 c4 c5 c6 : Addr} (k : ∀ b o, h.get? b = some o → h'.get? b = some o) (F : FullK h cK PK c1 c2 c3 c4 c5 c6) : FullK h' cK PK c1 c2 c3 c4 c5 c6 := by
  obtain ⟨t0, t1, t2, t3, z, x, y1, y2, y3, e⟩ := F.k
  exact ⟨k _ _ F.t, k _ _ F.p, ⟨t0, t1, t2, t3, z, x, y1, y2, y3, k _ _ e⟩, F.low, F.e1.grow k, F.e2.grow k, F.e3.grow k, F.e4.grow k, F.e5.grow k, F.e6.grow k⟩
theorem TabTo.kp {N : List Addr} {G h h' : Heap} {c1 c2 : Addr} (x : TabTo N G h h' c1 c2) : ∀ b o, h.get? b = some o → b ≠ 43 → b ∉ N → h'.get? b = some o := by
  rcases x with ⟨k, _⟩ | ⟨k, _⟩
  · exact fun b o e _ n => k b o e n
  · exact k
theorem cls {w : World} {E : Value → Shared → Prop} {G h : Heap} {g : Array GenState} {d : Drawn} {tk : Nat} {os : OsState} {L c : Addr} {Q : Flow → Shared → Prop}
    (hK : (K1 w.params).In h) (hB : Bt h) (hG : ∀ b o, G.get? b = some o → h.get? b = some o) (hT : TabK G) (hL : h.get? L = some (frO [] 0)) (lL : 94 ≤ L)
    (k : ∀ C ns m f1 f2 c1 c2 t tk' h', TabTo [L] G h h' c1 c2 → KClass h' C ns m f1 f2 c c1 c2 w.params → (∀ a ∈ [C, ns, m, f1, f2], h.get? a = none) →
      h'.get? L = some (frO [⟨hsh w.params (Str.ofString "K"), .str (Str.ofString "K") t, .ref C⟩] 1) → Q .next ⟨h', g, d, tk', os⟩) :
    wpAny (model pg w) A0 (exec kc (envC w.params L c)) Q E ⟨h, g, d, tk, os⟩ := by
  rcases hT with h43 | ⟨cK, PK, c1, c2, c3, c4, c5, c6, F⟩
  · exact cls1 hK hB (hG _ _ h43) hL lL fun C ns m f1 f2 PK cK c1 c2 c3 c4 c5 c6 t tk' h' kp F' KC fr l => k C ns m f1 f2 c1 c2 t tk' h' (.inr ⟨fun b o e n1 n2 => kp b o e n1 (by simpa using n2), _, _, _, _, _, _, F', fun a ha => fr a (by simp only [List.mem_cons, List.not_mem_nil, or_false] at ha ⊢; rcases ha with h | h | h | h | h | h | h | h <;> simp [h])⟩) KC
      (fun a ha => fr a (by simp only [List.mem_cons, List.not_mem_nil, or_false] at ha ⊢; rcases ha with h | h | h | h | h <;> simp [h])) l
  · exact cls2 hK hB (F.grow hG) hL lL fun C ns m f1 f2 t tk' h' kp F' KC fr l => k C ns m f1 f2 c1 c2 t tk' h' (.inl ⟨fun b o e n => kp b o e (by simpa using n), _, _, _, _, _, _, F⟩) KC fr l
def retK : Stmt := match ctk with
  | _ :: s :: _ => s
  | _ => .Pass default
theorem ctk_is : ctk = [kc, .Return (some (.Name (Str.ofString "K") (match retK with | .Return (some e) _ => e.pos | _ => default))) (match retK with | .Return _ p => p | _ => default)] := by kernel_rfl!
theorem isFn48 (P : Params) : (K1 P).lookup 48 = some ⟨.type "function", none, .func (fnOf P 48), #[]⟩ := by kernel_rfl!
theorem code48 (P : Params) : (fnOf P 48).code = .ref 47 := by kernel_rfl!
noncomputable def vsOf (P : Params) (a : Addr) : Array Value := match (K1 P).lookup a with
  | some ⟨_, _, .fields vs, _⟩ => vs
  | _ => #[]
theorem is47 (P : Params) : (K1 P).lookup 47 = some ⟨.type "code", none, .fields (vsOf P 47), #[]⟩ := by kernel_rfl!
theorem rec48 {P : Params} {h : Heap} (hK : (K1 P).In h) : h.CodeRec (fnOf P 48).code (fnOf P 48).qualname := ⟨47, _, vsOf P 47, 226, code48 P, hK 47 _ (is47 P), rfl, by kernel_rfl!⟩
theorem bind48 (P : Params) (cmp : Value) : bindArgs (fnOf P 48) ⟨[cmp], []⟩ = pure [(Str.ofString "mycmp", cmp)] := by kernel_rfl!
set_option maxHeartbeats 4000000 in
theorem ck_call {w : World} {E : Value → Shared → Prop} {G h : Heap} {g : Array GenState} {d : Drawn} {tk : Nat} {os : OsState} {cmp : Value} {Q : Value → Shared → Prop}
    (hK : (K1 w.params).In h) (hB : Bt h) (hG : ∀ b o, G.get? b = some o → h.get? b = some o) (hT : TabK G)
    (k : ∀ C ns m f1 f2 c c1 c2 tk' h', TabTo [] G h h' c1 c2 → KClass h' C ns m f1 f2 c c1 c2 w.params → (∀ a ∈ [C, ns, m, f1, f2, c], h.get? a = none) → h'.get? c = some (clO cmp) → Q (.ref C) ⟨h', g, d, tk', os⟩) :
    wpAny (model pg w) ⟨none, 410, none, none, 400⟩ (call (.ref 48) [cmp] []) Q E ⟨h, g, d, tk, os⟩ := by
  have h94 : ∃ o, h.get? 93 = some o := ⟨_, hK 93 _ (k93 _).choose_spec⟩
  refine wpAny_call ?_
  refine codeAny_call_function (fd := fnOf w.params 48) (body := ctk) (by decide) (hK 48 _ (isFn48 _)) rfl (by kernel_rfl!) (by kernel_rfl!) (ctk_eq _) (rec48 hK) ?_
  rw [bind48]
  refine wpAny_pure ?_
  have D : Own h [] h [] := Own.of (L := []) (by simp) (by simp)
  refine gz K1 hK h94 D [.own 1, .own 1] 2 [0, 1] [] (by simp) (by decide) fun as ha => ?_
  match as, ha with
  | [L, c], hh =>
  refine ⟨envC w.params L c, tk, [(L, frO [] 0), (c, clO cmp)], by kernel_rfl!, by kernel_rfl!, fun h1 D1 => ?_⟩
  have X1 : (K1 w.params).In h1 := fun b o e => D1.keep b o (hK b o e) (by simp)
  refine ⟨noLimit_of (X1 2 _ rfl), codeAny_func ?_⟩
  refine loosen (B := A0) ?_ rfl (Nat.le_of_ble_eq_true rfl) (Nat.le_of_ble_eq_true rfl) rfl rfl
  rw [ctk_is]
  have kp1 : ∀ b o, h.get? b = some o → h1.get? b = some o := fun b o e => D1.keep b o e (by simp)
  refine wpAny_execs_cons ?_
  refine cls X1 (hB.grow kp1) (fun b o e => kp1 b o (hG b o e)) hT (D1.at 0 rfl) (hh.2 L (by simp)) fun C ns m f1 f2 c1 c2 t tk' h2 T2 KC fr l => ?_
  dsimp only
  refine wpAny_execs_cons (wpAny_Return_some (rd [_] (.ref C) [L] (by kernel_rfl!) ⟨l, trivial⟩ ?_))
  have nw : h.get? L = none := (D1.cover _ (.head _)).resolve_left (by simp)
  have ec : h1.get? c = some (clO cmp) := D1.at 1 rfl
  have nw1 : ∀ a, h1.get? a = none → h.get? a = none := fun a e => by
    cases e2 : h.get? a with
    | none => rfl
    | some o => rw [kp1 _ _ e2] at e; cases e
  have nL : ∀ b o, h.get? b = some o → b ∉ [L] := fun b o e q => by
    have : b = L := by simpa using q
    subst this; rw [nw] at e; cases e
  refine k C ns m f1 f2 c c1 c2 tk' h2 ?_ KC ?_ (T2.kp c _ ec (fun q => by have := hh.2 c (by simp); rw [q] at this; exact absurd this (by decide)) (fun q => ne_of_objs ec (D1.at 0 rfl) (by simp) (by simpa using q)))
  · rcases T2 with ⟨k2, r⟩ | ⟨k2, cK, PK, c3, c4, c5, c6, F, r⟩
    · exact .inl ⟨fun b o e _ => k2 b o (kp1 b o e) (nL b o e), r⟩
    · exact .inr ⟨fun b o e n _ => k2 b o (kp1 b o e) n (nL b o e), cK, PK, c3, c4, c5, c6, F, fun a ha => nw1 a (r a ha)⟩
  · intro a ha
    have : a ∈ [C, ns, m, f1, f2] ∨ a = c := by simp only [List.mem_cons, List.not_mem_nil, or_false] at ha ⊢; rcases ha with h | h | h | h | h | h <;> simp [h]
    rcases this with ha | rfl
    · exact nw1 a (fr a ha)
    · exact (D1.cover (a, clO cmp) (.tail _ (.head _))).resolve_left (by simp)
end Mine

end C6_

section R1_
namespace Mine
/-! the state of the walk: G what the tables' part reads, H the facts that stay, h the heap -/
abbrev QT := List Value × List Value
abbrev T0 : List Addr := [43, 59, 83, 90]
def res (h : Heap) (p : Addr → Bool) : Heap := ⟨h.objs.mapIdx fun a o => if p a then o else { o with data := .freed }, h.life⟩
theorem res_get (h : Heap) (p : Addr → Bool) (b : Addr) : (res h p).get? b = if p b then h.get? b else none := by
  unfold res Heap.get?
  simp only [Array.getElem?_mapIdx]
  cases e : h.objs[b]? with
  | none => simp
  | some o =>
    simp only [Option.map_some]
    cases hp : p b with
    | true => simp
    | false => obtain ⟨c, d, dt, sl⟩ := o; simp
def farCol : Nat := 18
/-- the table of _law_far's codes -/
def Tab83 (h : Heap) : Prop := h.get? 83 = some (tab []) ∨ ∃ c, h.get? 83 = some (tab [rawInt 81, rawInt farCol, .ref c]) ∧ h.CodeRec (.ref c) (Str.ofString "_law_far.<locals>.<lambda>") ∧ 94 ≤ c
structure Ok (P : Params) (q : QT) (h : Heap) : Prop where
  K : (K1 P).In h
  B : Bt h
  t43 : TabK h
  t59 : h.get? 59 = some (tab q.1)
  t83 : Tab83 h
  t90 : h.get? 90 = some (tab q.2)
abbrev Le (h h' : Heap) : Prop := ∀ b o, h.get? b = some o → h'.get? b = some o
theorem Tab83.grow {h h' : Heap} (k : Le h h') (x : Tab83 h) : Tab83 h' := by
  rcases x with e | ⟨c, e, d, l⟩
  · exact .inl (k _ _ e)
  · exact .inr ⟨c, k _ _ e, d.keeps k, l⟩
theorem Ok.grow {P : Params} {q : QT} {h h' : Heap} (k : Le h h') (x : Ok P q h) : Ok P q h' :=
  ⟨fun b o e => k _ _ (x.K b o e), x.B.grow k, x.t43.grow k, k _ _ x.t59, x.t83.grow k, k _ _ x.t90⟩
theorem Ok.tabs {P : Params} {q : QT} {h : Heap} (x : Ok P q h) {b : Addr} (hb : b ∈ T0) : ∃ l, h.get? b = some (tab l) := by
  simp only [T0, List.mem_cons, List.not_mem_nil, or_false] at hb
  rcases hb with rfl | rfl | rfl | rfl
  · rcases x.t43 with e | ⟨cK, PK, c1, c2, c3, c4, c5, c6, F⟩
    · exact ⟨_, e⟩
    · exact ⟨_, F.t⟩
  · exact ⟨_, x.t59⟩
  · rcases x.t83 with e | ⟨c, e, _⟩
    · exact ⟨_, e⟩
    · exact ⟨_, e⟩
  · exact ⟨_, x.t90⟩
structure Fs (P : Params) (q : QT) (X : List Addr) (G₀ H₀ h₀ G H h : Heap) : Prop where
  ok : Ok P q G
  g : ∀ b o, G.get? b = some o → h.get? b = some o ∧ b ∉ X ∧ (G₀.get? b = some o ∨ h₀.get? b = none ∨ b ∈ T0)
  le : Le H₀ H
  at' : ∀ b o, H.get? b = some o → h.get? b = some o ∧ b ∉ X ∧ b ∉ T0 ∧ (H₀.get? b = some o ∨ h₀.get? b = none ∨ G₀.get? b = some o)
  kp : ∀ b o, b ∉ T0 → h₀.get? b = some o → h.get? b = some o
  xs : ∀ x ∈ X, h₀.get? x = none ∧ x ∉ T0 ∧ ∃ o, h.get? x = some o
  tt : ∀ b ∈ T0, ∃ o, h₀.get? b = some o
abbrev Vw (P : Params) (q : QT) (G H h : Heap) : Prop := Fs P q [] G H h G H h
section
variable {P : Params} {q q' : QT} {X : List Addr} {G₀ H₀ h₀ G H h G' H' h' : Heap}
theorem Fs.vw (F : Fs P q X G₀ H₀ h₀ G H h) : Vw P q G H h :=
  ⟨F.ok, fun b o e => ⟨(F.g b o e).1, by simp, .inl e⟩, fun _ _ e => e, fun b o e => ⟨(F.at' b o e).1, by simp, (F.at' b o e).2.2.1, .inl e⟩, fun _ _ _ e => e, fun _ hx => absurd hx (by simp), fun b hb => let ⟨l, e⟩ := F.ok.tabs hb; ⟨_, (F.g b _ e).1⟩⟩
theorem Fs.okh (F : Fs P q X G₀ H₀ h₀ G H h) : Ok P q h := F.ok.grow fun b o e => (F.g b o e).1
theorem Fs.sub (F : Fs P q X G₀ H₀ h₀ G H h) : Le H h := fun b o e => (F.at' b o e).1
theorem Fs.none (F : Fs P q X G₀ H₀ h₀ G H h) {b : Addr} (e : h.get? b = none) : h₀.get? b = none := by
  cases e0 : h₀.get? b with
  | none => rfl
  | some o =>
    by_cases hb : b ∈ T0
    · obtain ⟨l, e2⟩ := F.okh.tabs hb
      rw [e] at e2; cases e2
    · have := F.kp b o hb e0
      rw [e] at this; cases this
theorem Fs.nT (F : Fs P q X G₀ H₀ h₀ G H h) {b : Addr} {o : Obj} (e : h.get? b = some o) (ho : ∀ l, o ≠ tab l) : b ∉ T0 := fun hb => by
  obtain ⟨l, e2⟩ := F.okh.tabs hb
  rw [e] at e2; exact ho l (Option.some.inj e2)
theorem Fs.nX (F : Fs P q X G₀ H₀ h₀ G H h) {x : Addr} (hx : x ∈ X) : ∃ o, h.get? x = some o := (F.xs x hx).2.2
/-- a step that changes nothing but X and makes things -/
theorem Fs.step (F : Fs P q X G₀ H₀ h₀ G H h) (k : ∀ b o, b ∉ X → h.get? b = some o → h'.get? b = some o) (kx : ∀ x ∈ X, ∃ o, h'.get? x = some o) : Fs P q X G₀ H₀ h₀ G H h' :=
  ⟨F.ok, fun b o e => ⟨k b o (F.g b o e).2.1 (F.g b o e).1, (F.g b o e).2⟩, F.le, fun b o e => ⟨k b o (F.at' b o e).2.1 (F.at' b o e).1, (F.at' b o e).2⟩,
    fun b o nb e => k b o (fun hx => by rw [(F.xs b hx).1] at e; cases e) (F.kp b o nb e), fun x hx => ⟨(F.xs x hx).1, (F.xs x hx).2.1, kx x hx⟩, F.tt⟩
theorem Fs.keep (F : Fs P q X G₀ H₀ h₀ G H h) (k : Le h h') : Fs P q X G₀ H₀ h₀ G H h' := F.step (fun b o _ e => k b o e) fun _ hx => let ⟨o, e⟩ := F.nX hx; ⟨o, k _ _ e⟩
theorem Fs.trans (F : Fs P q X G₀ H₀ h₀ G H h) (F' : Fs P q' [] G H h G' H' h') : Fs P q' X G₀ H₀ h₀ G' H' h' := by
  refine ⟨F'.ok, fun b o e => ?_, fun b o e => F'.le _ _ (F.le _ _ e), fun b o e => ?_, fun b o nb e => F'.kp b o nb (F.kp b o nb e), fun x hx => ⟨(F.xs x hx).1, (F.xs x hx).2.1, ?_⟩, F.tt⟩
  · obtain ⟨e1, _, e2⟩ := F'.g b o e
    refine ⟨e1, ?_, ?_⟩
    · rcases e2 with e2 | e2 | e2
      · exact (F.g b o e2).2.1
      · intro hx; obtain ⟨o', e3⟩ := F.nX hx; rw [e2] at e3; cases e3
      · exact fun hx => (F.xs b hx).2.1 e2
    · rcases e2 with e2 | e2 | e2
      · exact (F.g b o e2).2.2
      · exact .inr (.inl (F.none e2))
      · exact .inr (.inr e2)
  · obtain ⟨e1, _, e3, e2⟩ := F'.at' b o e
    refine ⟨e1, ?_, e3, ?_⟩
    · rcases e2 with e2 | e2 | e2
      · exact (F.at' b o e2).2.1
      · intro hx; obtain ⟨o', e3⟩ := F.nX hx; rw [e2] at e3; cases e3
      · exact (F.g b o e2).2.1
    · rcases e2 with e2 | e2 | e2
      · exact (F.at' b o e2).2.2.2
      · exact .inr (.inl (F.none e2))
      · rcases (F.g b o e2).2.2 with e4 | e4 | e4
        · exact .inr (.inr e4)
        · exact .inr (.inl e4)
        · exact absurd e4 e3
  · obtain ⟨o, e⟩ := F.nX hx
    exact ⟨o, F'.kp _ _ (F.xs x hx).2.1 e⟩
/-- the end of a frame -/
theorem Fs.drop (F : Fs P q X G₀ H₀ h₀ G H h) : Fs P q [] G₀ H₀ h₀ G H h :=
  ⟨F.ok, fun b o e => ⟨(F.g b o e).1, by simp, (F.g b o e).2.2⟩, F.le, fun b o e => ⟨(F.at' b o e).1, by simp, (F.at' b o e).2.2⟩, F.kp, fun _ hx => absurd hx (by simp), F.tt⟩
theorem Fs.addX (F : Fs P q X G₀ H₀ h₀ G H h) (k : Le h h') {x : Addr} {o : Obj} (hx : h.get? x = .none) (ho : h'.get? x = some o) : Fs P q (x :: X) G₀ H₀ h₀ G H h' := by
  have F1 := F.keep k
  have nT : x ∉ T0 := fun hb => by obtain ⟨l, e⟩ := F.okh.tabs hb; rw [hx] at e; cases e
  refine ⟨F.ok, fun b o' e => ⟨(F1.g b o' e).1, ?_, (F1.g b o' e).2.2⟩, F.le, fun b o' e => ⟨(F1.at' b o' e).1, ?_, (F1.at' b o' e).2.2⟩, F1.kp, fun y hy => ?_, F.tt⟩
  · intro hm
    rcases List.mem_cons.mp hm with rfl | hm
    · have := (F.g b o' e).1; rw [hx] at this; cases this
    · exact (F1.g b o' e).2.1 hm
  · intro hm
    rcases List.mem_cons.mp hm with rfl | hm
    · have := (F.at' b o' e).1; rw [hx] at this; cases this
    · exact (F1.at' b o' e).2.1 hm
  · rcases List.mem_cons.mp hy with rfl | hy
    · exact ⟨F.none hx, nT, o, ho⟩
    · exact F1.xs y hy
/-- an object of the frame's own that stays from here on -/
theorem Fs.fix {x : Addr} (F : Fs P q (x :: X) G₀ H₀ h₀ G H h) (nx : x ∉ X) {o : Obj} (ho : h.get? x = some o) : ∃ H', Le H H' ∧ H'.get? x = some o ∧ Fs P q X G₀ H₀ h₀ G H' h := by
  refine ⟨res h fun b => (H.get? b).isSome || b == x, fun b o e => ?_, ?_, ⟨F.ok, fun b o e => ⟨(F.g b o e).1, fun hm => (F.g b o e).2.1 (.tail _ hm), (F.g b o e).2.2⟩, fun b o e => ?_, fun b o e => ?_, F.kp, fun y hy => F.xs y (.tail _ hy), F.tt⟩⟩
  · rw [res_get, e]; exact F.sub b o e
  · rw [res_get]; simp [ho]
  · have e1 := F.le _ _ e
    rw [res_get, e1]; exact F.sub b o e1
  · rw [res_get] at e
    split at e
    · rename_i hp
      rcases (Bool.or_eq_true _ _).mp hp with hp | hp
      · obtain ⟨o', e'⟩ := Option.isSome_iff_exists.mp hp
        have := F.sub _ _ e'
        rw [e] at this; cases this
        exact ⟨e, fun hm => (F.at' b o e').2.1 (.tail _ hm), (F.at' b o e').2.2⟩
      · have : b = x := by simpa using hp
        subst this
        exact ⟨e, nx, (F.xs b (.head _)).2.1, .inr (.inl (F.xs b (.head _)).1)⟩
    · cases e
theorem Fs.new (F : Fs P q X G₀ H₀ h₀ G H h) (k : Le h h') {x : Addr} {o : Obj} (hx : h.get? x = .none) (ho : h'.get? x = some o) : ∃ H', Le H H' ∧ H'.get? x = some o ∧ Fs P q X G₀ H₀ h₀ G H' h' :=
  (F.addX k hx ho).fix (fun hm => by obtain ⟨o', e⟩ := F.nX hm; rw [hx] at e; cases e) ho
theorem Fs.push (F : Fs P q X G₀ H₀ h₀ G H h) {o : Obj} (hf : o.isFreed = false) : ∃ H', Le H H' ∧ H'.get? h.objs.size = some o ∧ Fs P q X G₀ H₀ h₀ G H' (h.push o) :=
  F.new (fun b o' e => Heap.get?_push_of_some _ e) (Heap.get?_none_of_le (Nat.le_refl _)) (Heap.get?_push_size _ hf)
end
theorem Fs.shrink {P : Params} {q : QT} {X X' : List Addr} {G₀ H₀ h₀ G H h : Heap} (F : Fs P q X G₀ H₀ h₀ G H h) (k : ∀ x ∈ X', x ∈ X) : Fs P q X' G₀ H₀ h₀ G H h :=
  ⟨F.ok, fun b o e => ⟨(F.g b o e).1, fun hm => (F.g b o e).2.1 (k _ hm), (F.g b o e).2.2⟩, F.le, fun b o e => ⟨(F.at' b o e).1, fun hm => (F.at' b o e).2.1 (k _ hm), (F.at' b o e).2.2⟩, F.kp, fun x hx => F.xs x (k _ hx), F.tt⟩
/-! frames: m the locals, cm the cells, Z objects that stand by themselves (iterators) -/
structure En (env : Env) (N : List (Str × NameKind)) (L : Addr) (cl : List (Str × Addr)) : Prop where
  kind : env.scope.kind = .function
  kf : ∀ x, env.kindOf x = N.lookup x
  gl : env.globals = 3
  bl : env.builtins = 0
  lc : env.locals = L
  cs : env.cells = cl
structure S (P : Params) (q : QT) (X : List Addr) (Z : List (Addr × Obj)) (N : List (Str × NameKind)) (L : Addr) (cl : List (Str × Addr)) (env : Env) (G₀ H₀ h₀ : Heap) (m cm : Str → Option Value) (G H h : Heap) : Prop where
  en : En env N L cl
  fs : Fs P q X G₀ H₀ h₀ G H h
  ns : h.Ns env.locals m
  lt : env.locals ∉ T0
  cell : ∀ n c, env.cells.lookup n = some c → h.IsCell c (cm n) ∧ c ∉ T0
  apart : ∀ n n' c, env.cells.lookup n = some c → env.cells.lookup n' = some c → n = n'
  fr : ∀ p ∈ Z, h.get? p.1 = some p.2 ∧ p.1 ∉ X ∧ p.1 ∉ T0 ∧ H.get? p.1 = none ∧ G.get? p.1 = none ∧ h₀.get? p.1 = none
section
variable {P : Params} {q q' : QT} {X : List Addr} {Z : List (Addr × Obj)} {N : List (Str × NameKind)} {L : Addr} {cl : List (Str × Addr)} {env : Env} {G₀ H₀ h₀ G H h G' H' h' : Heap} {m cm : Str → Option Value}
theorem IsCell.nL (hn : h.Ns env.locals m) {c : Addr} {v : Option Value} (hc : h.IsCell c v) : c ≠ env.locals := by
  rintro rfl
  obtain ⟨o, es, ep, e, d, _⟩ := hn
  obtain ⟨o', e', d'⟩ := hc
  rw [e] at e'; cases e'; rw [d] at d'; cases d'
theorem S.trans (F : S P q X Z N L cl env G₀ H₀ h₀ m cm G H h) (F' : Fs P q' [] G H h G' H' h') : S P q' X Z N L cl env G₀ H₀ h₀ m cm G' H' h' := by
  refine ⟨F.en, F.fs.trans F', let ⟨o, es, ep, e, r⟩ := F.ns; ⟨o, es, ep, F'.kp _ _ F.lt e, r⟩, F.lt, fun n c hc => let ⟨⟨o, e, d⟩, t⟩ := F.cell n c hc; ⟨⟨o, F'.kp _ _ t e, d⟩, t⟩, F.apart, fun p hp => ?_⟩
  obtain ⟨e, nx, nt, nh, ng, n0⟩ := F.fr p hp
  refine ⟨F'.kp _ _ nt e, nx, nt, ?_, ?_, n0⟩
  · cases e1 : H'.get? p.1 with
    | none => rfl
    | some o =>
      rcases (F'.at' _ _ e1).2.2.2 with e2 | e2 | e2
      · rw [nh] at e2; cases e2
      · rw [e] at e2; cases e2
      · rw [ng] at e2; cases e2
  · cases e1 : G'.get? p.1 with
    | none => rfl
    | some o =>
      rcases (F'.g _ _ e1).2.2 with e2 | e2 | e2
      · rw [ng] at e2; cases e2
      · rw [e] at e2; cases e2
      · exact absurd e2 nt
theorem S.keep (F : S P q X Z N L cl env G₀ H₀ h₀ m cm G H h) (k : Le h h') : S P q X Z N L cl env G₀ H₀ h₀ m cm G H h' :=
  ⟨F.en, F.fs.keep k, F.ns.keeps k, F.lt, fun n c hc => ⟨(F.cell n c hc).1.keeps k, (F.cell n c hc).2⟩, F.apart, fun p hp => ⟨k _ _ (F.fr p hp).1, (F.fr p hp).2⟩⟩
/-- a new object that stays -/
theorem S.new (F : S P q X Z N L cl env G₀ H₀ h₀ m cm G H h) (k : Le h h') {x : Addr} {o : Obj} (hx : h.get? x = .none) (ho : h'.get? x = some o) : ∃ H', Le H H' ∧ H'.get? x = some o ∧ S P q X Z N L cl env G₀ H₀ h₀ m cm G H' h' := by
  obtain ⟨H', k1, e1, F1⟩ := F.fs.vw.new k hx ho
  exact ⟨H', k1, e1, F.trans F1⟩
theorem S.push (F : S P q X Z N L cl env G₀ H₀ h₀ m cm G H h) {o : Obj} (hf : o.isFreed = false) : ∃ H', Le H H' ∧ H'.get? h.objs.size = some o ∧ S P q X Z N L cl env G₀ H₀ h₀ m cm G H' (h.push o) :=
  F.new (fun b o' e => Heap.get?_push_of_some _ e) (Heap.get?_none_of_le (Nat.le_refl _)) (Heap.get?_push_size _ hf)
/-- a new object that stands by itself -/
theorem S.addZ (F : S P q X Z N L cl env G₀ H₀ h₀ m cm G H h) (k : Le h h') {x : Addr} {o : Obj} (hx : h.get? x = .none) (ho : h'.get? x = some o) : S P q X ((x, o) :: Z) N L cl env G₀ H₀ h₀ m cm G H h' := by
  have F1 := F.keep k
  refine ⟨F.en, F1.fs, F1.ns, F1.lt, F1.cell, F1.apart, fun p hp => ?_⟩
  rcases List.mem_cons.mp hp with rfl | hp
  · refine ⟨ho, fun hm => ?_, fun hb => ?_, ?_, ?_, F.fs.none hx⟩
    · obtain ⟨o', e⟩ := F.fs.nX hm; rw [hx] at e; cases e
    · obtain ⟨l, e⟩ := F.fs.okh.tabs hb; rw [hx] at e; cases e
    · cases e : H.get? x with
      | none => rfl
      | some o' => have := F.fs.sub _ _ e; rw [hx] at this; cases this
    · cases e : G.get? x with
      | none => rfl
      | some o' => have := (F.fs.g _ _ e).1; rw [hx] at this; cases this
  · exact F1.fr p hp
theorem S.subZ {Z' : List (Addr × Obj)} (F : S P q X Z N L cl env G₀ H₀ h₀ m cm G H h) (k : ∀ p ∈ Z', p ∈ Z) : S P q X Z' N L cl env G₀ H₀ h₀ m cm G H h := ⟨F.en, F.fs, F.ns, F.lt, F.cell, F.apart, fun p hp => F.fr p (k p hp)⟩
/-- one of these is changed -/
theorem S.setZ {Z' : List (Addr × Obj)} {x : Addr} {o : Obj} (F : S P q X Z N L cl env G₀ H₀ h₀ m cm G H h) (hx : (x, o) ∈ Z) (nl : x ≠ env.locals) (nc : ∀ n c, env.cells.lookup n = some c → c ≠ x) (k : ∀ b y, b ≠ x → h.get? b = some y → h'.get? b = some y)
    (hZ : ∀ p ∈ Z', (p.1 = x ∧ h'.get? x = some p.2) ∨ (p ∈ Z ∧ p.1 ≠ x)) : S P q X Z' N L cl env G₀ H₀ h₀ m cm G H h' := by
  obtain ⟨z1, z2, z3, z4, z5, z6⟩ := F.fr (x, o) hx
  dsimp only at z1 z2 z3 z4 z5 z6
  refine ⟨F.en, ⟨F.fs.ok, fun b y e => ⟨k b y (fun q => by rw [← q, e] at z5; cases z5) (F.fs.g b y e).1, (F.fs.g b y e).2⟩, F.fs.le,
    fun b y e => ⟨k b y (fun q => by rw [← q, e] at z4; cases z4) (F.fs.at' b y e).1, (F.fs.at' b y e).2⟩, fun b y nb e => k b y (fun q => by rw [← q, e] at z6; cases z6) (F.fs.kp b y nb e), fun y hy => ⟨(F.fs.xs y hy).1, (F.fs.xs y hy).2.1, ?_⟩, F.fs.tt⟩,
    let ⟨o2, es, ep, e2, r⟩ := F.ns; ⟨o2, es, ep, k _ _ nl.symm e2, r⟩, F.lt, fun n c hc => ?_, F.apart, fun p hp => ?_⟩
  · obtain ⟨y', e⟩ := F.fs.nX hy
    exact ⟨y', k _ _ (fun q => z2 (q ▸ hy)) e⟩
  · obtain ⟨⟨o2, e2, d2⟩, t⟩ := F.cell n c hc
    exact ⟨⟨o2, k _ _ (nc n c hc) e2, d2⟩, t⟩
  · rcases hZ p hp with ⟨rfl, e⟩ | ⟨hp, ne⟩
    · exact ⟨e, z2, z3, z4, z5, z6⟩
    · exact ⟨k _ _ ne (F.fr p hp).1, (F.fr p hp).2⟩
/-- it stays from here on -/
theorem S.fixZ {Z' : List (Addr × Obj)} {x : Addr} {o : Obj} (F : S P q X Z N L cl env G₀ H₀ h₀ m cm G H h) (hx : (x, o) ∈ Z) (hZ : ∀ p ∈ Z', p ∈ Z ∧ p.1 ≠ x) : ∃ H', Le H H' ∧ H'.get? x = some o ∧ S P q X Z' N L cl env G₀ H₀ h₀ m cm G H' h := by
  obtain ⟨z1, z2, z3, z4, z5, z6⟩ := F.fr (x, o) hx
  dsimp only at z1 z2 z3 z4 z5 z6
  have rg : ∀ b, (res h fun b => (H.get? b).isSome || b == x).get? b = if b = x then some o else H.get? b := fun b => by
    rw [res_get]
    by_cases e : b = x
    · subst e; simp [z1]
    · have eb : (b == x) = false := by simpa using e
      rw [if_neg e, eb, Bool.or_false]
      cases e1 : H.get? b with
      | none => simp
      | some y => simp [F.fs.sub _ _ e1]
  refine ⟨res h fun b => (H.get? b).isSome || b == x, fun b y e => ?_, ?_, ⟨F.en, ⟨F.fs.ok, F.fs.g, fun b y e => ?_, fun b y e => ?_, F.fs.kp, F.fs.xs, F.fs.tt⟩, F.ns, F.lt, F.cell, F.apart, fun p hp => ?_⟩⟩
  · rw [rg, if_neg (fun q => by rw [q, z4] at e; cases e)]; exact e
  · rw [rg, if_pos rfl]
  · have e1 := F.fs.le _ _ e
    rw [rg, if_neg (fun q => by rw [q, z4] at e1; cases e1)]; exact e1
  · rw [rg] at e
    split at e
    · rename_i eb; subst eb; cases e; exact ⟨z1, z2, z3, .inr (.inl z6)⟩
    · exact F.fs.at' b y e
  · obtain ⟨hp, ne⟩ := hZ p hp
    obtain ⟨y1, y2, y3, y4, y5⟩ := F.fr p hp
    exact ⟨y1, y2, y3, by rw [rg, if_neg ne]; exact y4, y5⟩
theorem S.stL (F : S P q X Z N L cl env G₀ H₀ h₀ m cm G H h) (lx : env.locals ∈ X) {m' : Str → Option Value} (hn : h'.Ns env.locals m') (hs : Heap.SameBut env.locals h h') : S P q X Z N L cl env G₀ H₀ h₀ m' cm G H h' := by
  refine ⟨F.en, F.fs.step (fun b o hb e => (hs.2 b (fun q => hb (q ▸ lx))).trans e) fun x hx => ?_, hn, F.lt, fun n c hc => ⟨(F.cell n c hc).1.sameBut hs (IsCell.nL F.ns (F.cell n c hc).1), (F.cell n c hc).2⟩, F.apart, fun p hp => ⟨(hs.2 p.1 (fun q => (F.fr p hp).2.1 (q.symm ▸ lx))).trans (F.fr p hp).1, (F.fr p hp).2⟩⟩
  by_cases e : x = env.locals
  · subst e; obtain ⟨o, _, _, e, _⟩ := hn; exact ⟨o, e⟩
  · obtain ⟨o, e'⟩ := F.fs.nX hx; exact ⟨o, (hs.2 x e).trans e'⟩
theorem S.stC (F : S P q X Z N L cl env G₀ H₀ h₀ m cm G H h) {n : Str} {c : Addr} {v : Value} (hc : env.cells.lookup n = some c) (cx : c ∈ X) (hv : h'.IsCell c (some v)) (hs : Heap.SameBut c h h') :
    S P q X Z N L cl env G₀ H₀ h₀ m (fun y => if y = n then some v else cm y) G H h' := by
  refine ⟨F.en, F.fs.step (fun b o hb e => (hs.2 b (fun q => hb (q ▸ cx))).trans e) fun x hx => ?_, F.ns.sameBut hs (IsCell.nL F.ns (F.cell n c hc).1).symm, F.lt, fun n' c' hc' => ⟨?_, (F.cell n' c' hc').2⟩, F.apart, fun p hp => ⟨(hs.2 p.1 (fun q => (F.fr p hp).2.1 (q.symm ▸ cx))).trans (F.fr p hp).1, (F.fr p hp).2⟩⟩
  · by_cases e : x = c
    · subst e; obtain ⟨o, e, _⟩ := hv; exact ⟨o, e⟩
    · obtain ⟨o, e'⟩ := F.fs.nX hx; exact ⟨o, (hs.2 x e).trans e'⟩
  · by_cases e : c' = c
    · subst e
      have := F.apart n' n c' hc' hc
      subst this
      simpa using hv
    · have nn : n' ≠ n := fun q => by subst q; rw [hc] at hc'; cases hc'; exact e rfl
      simp only [nn, if_false]
      exact (F.cell n' c' hc').1.sameBut hs e
end
def Ar (A : Around) (n : Nat) : Prop := A.handled = none ∧ A.depth ≤ n ∧ A.units ≤ n
theorem Ar.in1 {A : Around} {n k : Nat} (h : Ar A n) (hk : n + 1 ≤ k) : Ar A.in1 k := ⟨h.1, Nat.le_trans h.2.1 (by lia), by have := h.2.2; show A.units + 1 ≤ k; lia⟩
theorem Ar.up {A : Around} {n k : Nat} (h : Ar A n) (hk : n ≤ k) : Ar A k := ⟨h.1, Nat.le_trans h.2.1 hk, Nat.le_trans h.2.2 hk⟩
theorem Ar.deeper {A : Around} {n k : Nat} {env : Env} (h : Ar A n) (hk : n + 3 ≤ k) : Ar (A.deeper env) k := ⟨h.1, by have := h.2.1; show A.depth + 1 ≤ k; lia, by have := h.2.2; show A.units + 3 ≤ k; lia⟩
section
variable {α : Type} {w : World} {A : Around} {E : Value → Shared → Prop} {P : Params} {q : QT} {X : List Addr} {Z : List (Addr × Obj)} {N : List (Str × NameKind)} {L : Addr} {cl : List (Str × Addr)} {env : Env} {G₀ H₀ h₀ G H h : Heap} {m cm : Str → Option Value} {g : Array GenState} {d : Drawn} {tk : Nat} {os : OsState}
theorem ldL {x : Str} {pos : Pos} (v : Value) {Q : Value → Shared → Prop} (F : S P q X Z N L cl env G₀ H₀ h₀ m cm G H h) (k : Q v ⟨h, g, d, tk, os⟩) (hv : m x = some v := by kernel_rfl!) (hl : N.lookup x = some .local := by kernel_rfl!) (hd : (x == ("__debug__" : Str)) = false := by kernel_rfl!) :
    wpAny (model pg w) A (eval (.Name x pos) env) Q E ⟨h, g, d, tk, os⟩ := wpAny_Name (wpAny_loadName_local F.en.kind ((F.en.kf x).trans hl) F.ns hv k) hd
theorem ldC {x : Str} {pos : Pos} (v : Value) (c : Addr) {Q : Value → Shared → Prop} (F : S P q X Z N L cl env G₀ H₀ h₀ m cm G H h) (k : Q v ⟨h, g, d, tk, os⟩) (hc : cl.lookup x = some c := by kernel_rfl!) (hv : cm x = some v := by kernel_rfl!) (hl : N.lookup x = some .cell := by kernel_rfl!) (hd : (x == ("__debug__" : Str)) = false := by kernel_rfl!) :
    wpAny (model pg w) A (eval (.Name x pos) env) Q E ⟨h, g, d, tk, os⟩ := wpAny_Name (wpAny_loadName_cell F.en.kind ((F.en.kf x).trans hl) (F.en.cs.symm ▸ hc) (hv ▸ (F.cell x c (F.en.cs.symm ▸ hc)).1) k) hd
theorem ldF {x : Str} {pos : Pos} (v : Value) (c : Addr) {Q : Value → Shared → Prop} (F : S P q X Z N L cl env G₀ H₀ h₀ m cm G H h) (k : Q v ⟨h, g, d, tk, os⟩) (hc : cl.lookup x = some c := by kernel_rfl!) (hv : cm x = some v := by kernel_rfl!) (hl : N.lookup x = some .free := by kernel_rfl!) (hd : (x == ("__debug__" : Str)) = false := by kernel_rfl!) (hn : (x == ("__classdict__" : Str)) = false := by kernel_rfl!) :
    wpAny (model pg w) A (eval (.Name x pos) env) Q E ⟨h, g, d, tk, os⟩ := wpAny_Name (wpAny_loadName_free F.en.kind ((F.en.kf x).trans hl) (F.en.cs.symm ▸ hc) (hv ▸ (F.cell x c (F.en.cs.symm ▸ hc)).1) k hn) hd
theorem ldG {x : Str} {pos : Pos} (v : Value) {Q : Value → Shared → Prop} (F : S w.params q X Z N L cl env G₀ H₀ h₀ m cm G H h) (k : Q v ⟨h, g, d, tk, os⟩) (e : nsLook x (ob w.params 3) = pure (some v) := by kernel_rfl!) (hx : N.lookup x = some .globalImplicit := by kernel_rfl!) (hd : (x == ("__debug__" : Str)) = false := by kernel_rfl!) :
    wpAny (model pg w) A (eval (.Name x pos) env) Q E ⟨h, g, d, tk, os⟩ := by
  refine Calls.Name_function_global F.en.kind ((F.en.kf x).trans hx) ?_ hd
  unfold loadGlobal nsGet
  rw [F.en.gl]
  refine wpAny_bind (wpAny_bind (wpAny_loadPart (F.fs.okh.K 3 _ (ob3 _)) ?_))
  rw [e]
  exact wpAny_pure (wpAny_pure k)
theorem ldB {x : Str} {pos : Pos} (v : Value) {Q : Value → Shared → Prop} (F : S w.params q X Z N L cl env G₀ H₀ h₀ m cm G H h) (k : Q v ⟨h, g, d, tk, os⟩) (e : nsLook x (ob w.params 3) = pure none := by kernel_rfl!) (e' : bootBuiltins x = some v := by kernel_rfl!) (hx : N.lookup x = some .globalImplicit := by kernel_rfl!) (hd : (x == ("__debug__" : Str)) = false := by kernel_rfl!) (hn : x ≠ "__name__" := by decide +kernel) :
    wpAny (model pg w) A (eval (.Name x pos) env) Q E ⟨h, g, d, tk, os⟩ :=
  bltName (s := ⟨h, g, d, tk, os⟩) F.fs.okh.K F.fs.okh.B F.en.kind ((F.en.kf x).trans hx) F.en.gl F.en.bl hd hn e e' k
theorem stL {x : Str} {v : Value} {Q : Unit → Shared → Prop} (F : S P q X Z N L cl env G₀ H₀ h₀ m cm G H h) (k : ∀ h', S P q X Z N L cl env G₀ H₀ h₀ (fun y => if y = x then some v else m y) cm G H h' → Q () ⟨h', g, d, tk + 1, os⟩)
    (lx : L ∈ X := by exact List.mem_cons_self) (hl : N.lookup x = some .local := by kernel_rfl!) : wpAny (model pg w) A (storeName env x v) Q E ⟨h, g, d, tk, os⟩ :=
  wpAny_storeName_local ((F.en.kf x).trans hl) F.ns (fun h' hn hs => k h' (F.stL (F.en.lc.symm ▸ lx) hn hs)) (by rw [F.en.kind]; rfl)
theorem stC {x : Str} (c : Addr) {v : Value} {Q : Unit → Shared → Prop} (F : S P q X Z N L cl env G₀ H₀ h₀ m cm G H h) (k : ∀ h', S P q X Z N L cl env G₀ H₀ h₀ m (fun y => if y = x then some v else cm y) G H h' → Q () ⟨h', g, d, tk, os⟩)
    (hc : cl.lookup x = some c := by kernel_rfl!) (cx : c ∈ X := by simp) (hl : N.lookup x = some .cell := by kernel_rfl!) : wpAny (model pg w) A (storeName env x v) Q E ⟨h, g, d, tk, os⟩ :=
  wpAny_storeName_cell F.en.kind ((F.en.kf x).trans hl) (F.en.cs.symm ▸ hc) (F.cell x c (F.en.cs.symm ▸ hc)).1 fun h' hv hs => k h' (F.stC (F.en.cs.symm ▸ hc) cx hv hs)
end
/-- what a call of f does -/
def Fun (w : World) (q : QT) (n : Nat) (f : Value) (args : List Value) (G H h : Heap) (R : Heap → Value → Prop) : Prop :=
  ∀ (A : Around) (g : Array GenState) (d : Drawn) (tk : Nat) (os : OsState) (Q : Value → Shared → Prop) (E : Value → Shared → Prop), Ar A n →
    (∀ v G' H' h' tk', Fs w.params q [] G H h G' H' h' → R H' v → Q v ⟨h', g, d, tk', os⟩) → wpAny (model pg w) A (call f args) Q E ⟨h, g, d, tk, os⟩
end Mine

end R1_

section R2_
namespace Mine
theorem Fs.noLimit {P : Params} {q : QT} {X : List Addr} {G₀ H₀ h₀ G H h : Heap} (F : Fs P q X G₀ H₀ h₀ G H h) : h.NoLimit := noLimit_of (F.okh.K 2 _ rfl)
/-- a function of the top, with its code -/
noncomputable def isTop (P : Params) (a : Addr) : Bool := match (fnOf P a).code with
  | .ref c => match (K1 P).lookup c with
    | some o => match o.data with
      | .fields vs => match vs[1]? with
        | some (Value.str q _) => q == (fnOf P a).qualname
        | _ => false
      | _ => false
    | _ => false
  | _ => false
theorem isTop.rec {P : Params} {a : Addr} {h : Heap} (e : isTop P a = true) (X : (K1 P).In h) : h.CodeRec (fnOf P a).code (fnOf P a).qualname := by
  unfold isTop at e
  split at e
  · rename_i c e2
    split at e
    · rename_i o e3
      split at e
      · rename_i vs e4
        split at e
        · rename_i q t e5
          rw [beq_iff_eq] at e
          subst e
          exact ⟨c, o, vs, t, e2, X c _ e3, e4, e5⟩
        · cases e
      · cases e
    · cases e
  · cases e
abbrev cenv (fd : FuncData) (L a : Addr) : Env := callEnvC fd L a
section
variable {w : World} {A : Around} {P : Params} {q : QT} {G H h : Heap} {g : Array GenState} {d : Drawn} {tk : Nat} {os : OsState} {E : Value → Shared → Prop} {Q : Value → Shared → Prop}
theorem enterF (Xc : Addr → List Addr) {n : Nat} {a : Addr} {fd : FuncData} {body : List Stmt} {vals : List Value} {binds : List (Str × Value)} (F : Vw w.params q G H h) (hA : Ar A n) (hn : n ≤ 440)
    (ho : h.get? a = some ⟨.type "function", none, .func fd, #[]⟩) (hcd : h.CodeRec fd.code fd.qualname) (hbody : fd.body = .stmts body) (hbind : bindArgs fd ⟨vals, []⟩ = pure binds) (hclo : fd.closure = [])
    (hkind : ∀ x ∈ binds, fd.scope.names.lookup x.1 = some .local ∨ (fd.scope.names.lookup x.1 = some .cell ∧ ((cellsFrom (h.objs.size + 1) fd.scope.names []).lookup x.1).isSome = true))
    (hX : ∀ L, ∀ y ∈ Xc L, ∃ nm, (cenv fd L a).cells.lookup nm = some y)
    (hco : fd.scope.isCoroutine = false) (hgen : fd.scope.isGenerator = false) (hk : fd.scope.kind = .function)
    (hgl : fd.globals = 3) (hbl : fd.builtins = 0)
    (k : ∀ L h₁ tk₁ E' env A', env = cenv fd L a → S w.params q (L :: Xc L) [] fd.scope.names L (cellsFrom (L + 1) fd.scope.names []) env G H h (bindL (fun x => fd.scope.names.lookup x) binds fun _ => none) (bindC (fun x => fd.scope.names.lookup x) binds fun _ => none) G H h₁ →
      Ar A' (n + 3) → h.objs.size = L → A'.frames = A.frames.map (env :: ·) →
      wpAny (model pg w) A' (execs body env) (fun f s' => Q (match f with | .ret v => v | _ => .none) s') E' ⟨h₁, g, d, tk₁, os⟩) :
    wpAny (model pg w) A (call (.ref a) vals) Q E ⟨h, g, d, tk, os⟩ := by
  refine wpAny_call (codeAny_call_cells (fd := fd) (body := body) (binds := binds) ?_ ho rfl F.noLimit hcd hbody hbind hclo hkind (fun s₁ x => ?_) hco hgen hk)
  · have := hA.2.1; show A.depth < 1000; lia
  · obtain ⟨h₁, tk₁, rfl⟩ := x.toInCall.same
    have hx : ∀ y ∈ h.objs.size :: Xc h.objs.size, h.objs.size ≤ y := by
      intro y hy
      rcases List.mem_cons.mp hy with rfl | hy
      · exact Nat.le_refl _
      · obtain ⟨nm, hc⟩ := hX _ y hy
        exact Nat.le_of_lt (x.above nm y (mem_of_lookup hc))
    have hfresh : ∀ y, h.objs.size ≤ y → h.get? y = none := fun y hy => Heap.get?_none_of_le hy
    have nT : ∀ y, h.objs.size ≤ y → y ∉ T0 := fun y hy hb => by
      obtain ⟨l, e⟩ := F.okh.tabs hb
      rw [hfresh y hy] at e; cases e
    have FS : Fs w.params q (h.objs.size :: Xc h.objs.size) G H h G H h₁ := by
      refine ⟨F.ok, fun b o e => ⟨x.toInCall.keep b o (F.g b o e).1, fun hm => ?_, .inl e⟩, fun _ _ e => e, fun b o e => ⟨x.toInCall.keep b o (F.at' b o e).1, fun hm => ?_, (F.at' b o e).2.2.1, .inl e⟩, fun b o _ e => x.toInCall.keep b o e, fun y hy => ⟨hfresh y (hx y hy), nT y (hx y hy), ?_⟩, F.tt⟩
      · have := (F.g b o e).1; rw [hfresh b (hx b hm)] at this; cases this
      · have := (F.at' b o e).1; rw [hfresh b (hx b hm)] at this; cases this
      · rcases List.mem_cons.mp hy with rfl | hy
        · obtain ⟨o, _, _, e, _⟩ := x.toInCall.ns; exact ⟨o, e⟩
        · obtain ⟨nm, hc⟩ := hX _ y hy
          obtain ⟨o, e, _⟩ := x.cell nm y hc; exact ⟨o, e⟩
    refine wpAny_mono (k h.objs.size h₁ tk₁ _ _ _ rfl ⟨⟨hk, fun _ => rfl, hgl, hbl, rfl, rfl⟩, FS, x.toInCall.ns, nT _ (Nat.le_refl _), fun nm c hc => ⟨x.cell nm c hc, nT c (Nat.le_of_lt (x.above nm c (mem_of_lookup hc)))⟩, fun nm nm' c hc hc' => name_of_addr x.apart (mem_of_lookup hc) (mem_of_lookup hc'), fun p hp => absurd hp (by simp)⟩ ⟨hA.1, by have := hA.2.1; show A.depth + 1 ≤ n + 3; lia, by have := hA.2.2; show A.units + 3 ≤ n + 3; lia⟩ rfl rfl) (fun f s' hf => hf) fun _ _ e => e
theorem enter (Xc : Addr → List Addr) {n : Nat} {a : Addr} {fd : FuncData} {body : List Stmt} {vals : List Value} {binds : List (Str × Value)} (F : Vw w.params q G H h) (hA : Ar A n) (hn : n ≤ 440)
    (ho : h.get? a = some ⟨.type "function", none, .func fd, #[]⟩) (hcd : h.CodeRec fd.code fd.qualname) (hbody : fd.body = .stmts body) (hbind : bindArgs fd ⟨vals, []⟩ = pure binds) (hclo : fd.closure = [])
    (hkind : ∀ x ∈ binds, fd.scope.names.lookup x.1 = some .local ∨ (fd.scope.names.lookup x.1 = some .cell ∧ ((cellsFrom (h.objs.size + 1) fd.scope.names []).lookup x.1).isSome = true))
    (hX : ∀ L, ∀ y ∈ Xc L, ∃ nm, (cenv fd L a).cells.lookup nm = some y)
    (hco : fd.scope.isCoroutine = false) (hgen : fd.scope.isGenerator = false) (hk : fd.scope.kind = .function)
    (hgl : fd.globals = 3) (hbl : fd.builtins = 0)
    (k : ∀ L h₁ tk₁ E' env A', env = cenv fd L a → S w.params q (L :: Xc L) [] fd.scope.names L (cellsFrom (L + 1) fd.scope.names []) env G H h (bindL (fun x => fd.scope.names.lookup x) binds fun _ => none) (bindC (fun x => fd.scope.names.lookup x) binds fun _ => none) G H h₁ →
      Ar A' (n + 3) → h.objs.size = L →
      wpAny (model pg w) A' (execs body env) (fun f s' => Q (match f with | .ret v => v | _ => .none) s') E' ⟨h₁, g, d, tk₁, os⟩) :
    wpAny (model pg w) A (call (.ref a) vals) Q E ⟨h, g, d, tk, os⟩ :=
  enterF Xc F hA hn ho hcd hbody hbind hclo hkind hX hco hgen hk hgl hbl fun L h₁ tk₁ E' env A' e S a hL _ => k L h₁ tk₁ E' env A' e S a hL
end
end Mine

end R2_

section R3_
namespace Mine
def cE (cl : List (Str × Addr)) : Env := newEnv default 0 0 cl "" none .none none 0
theorem closureFor_congr {scope : Scope} {e e' : Env} (h : e.cells = e'.cells) : closureFor scope e = closureFor scope e' := by
  have : cellOf e = cellOf e' := by funext x; unfold cellOf; rw [h]
  simp only [closureFor, this]
section
variable {w : World} {A : Around} {q : QT} {X : List Addr} {Z : List (Addr × Obj)} {N : List (Str × NameKind)} {L : Addr} {cls : List (Str × Addr)} {env : Env} {G₀ H₀ h₀ G H h : Heap} {m cm : Str → Option Value} {g : Array GenState} {d : Drawn} {tk : Nat} {os : OsState} {E : Value → Shared → Prop}
abbrev Pp (w : World) := w.params
/-- an iterator at hand: what it walks -/
def Src (w : World) (A : Around) (I : Addr) (n : Nat) (Pv : Nat → Value → Prop) (H : Heap) (o : Obj) (Z : List (Addr × Obj)) (i₀ : Nat) (h : Heap) : Prop :=
  ∃ fp St, Walks pg w A I fp [I] n Pv St ∧ St i₀ h ∧ (∀ b ∈ fp, b = I ∨ ∃ o, H.get? b = some o) ∧ ((∀ es n, o.data ≠ .dict es n) ∧ ∀ v, o.data ≠ .cell v) ∧ (∀ p ∈ Z, p.1 ≠ I) ∧ (∀ i h, St i h → ∃ o, h.get? I = some o)
/-- the names of a comprehension's block, seen from the frame around it -/
def relN (ns N : List (Str × NameKind)) : List (Str × NameKind) := ns.map fun (n, k) => if (k == .free && N.lookup n == some .cell) then (n, .cell) else (n, k)
theorem En.comp {env : Env} {N : List (Str × NameKind)} {L : Addr} {cls : List (Str × Addr)} (e : En env N L cls) {scope : Scope} (hk : scope.kind = .function) (cl : List (Str × Addr)) (C : Addr) : En (compEnvC scope cl C env) (relN scope.names N) C cl := by
  refine ⟨hk, fun x => ?_, e.gl, e.bl, rfl, rfl⟩
  show (relabel scope env).names.lookup x = _
  congr 1
  unfold relabel relN
  simp only [e.kind, e.kf, beq_self_eq_true, Bool.and_true]
/-- a turn of a comprehension: from the item bound to its end -/
def Turn (w : World) (q : QT) (A : Around) (scope : Scope) (cl : List (Str × Addr)) (N : List (Str × NameKind)) (cls : List (Str × Addr)) (env : Env) (x : Str) (ifs : List Expr) (elt : Expr) (cm' : Str → Option Value) (g : Array GenState) (d : Drawn) (os : OsState) (n : Nat) (Pv : Nat → Value → Prop) (J : Nat → Heap → List Value → Prop) (H₁ : Heap) : Prop :=
  ∀ i v C env' ys G H h m' E' tk, i < n → Pv i v → Le H₁ H → J i H ys → m' x = some v → env' = compEnvC scope cl C env → S w.params q [] [] (relN scope.names N) C cl env' G H h m' cm' G H h → (∀ nm c, cls.lookup nm = some c → h.IsCell c (cm' nm) ∧ c ∉ T0) →
    wpAny (model pg w) A (forIn ifs true fun c r => if r = true then do let ok ← isTrue c env' (eval c env'); pure (ForInStep.yield ok) else pure (ForInStep.yield r)) (fun ok s₃ =>
      if ok = true then wpAny (model pg w) A (eval elt env') (fun y s₄ => ∃ G' H' h' tk', s₄ = ⟨h', g, d, tk', os⟩ ∧ Fs w.params q [] G H h G' H' h' ∧ J (i + 1) H' (ys ++ [y])) E' s₃
      else ∃ G' H' h' tk', s₃ = ⟨h', g, d, tk', os⟩ ∧ Fs w.params q [] G H h G' H' h' ∧ J (i + 1) H' ys) E' ⟨h, g, d, tk, os⟩
theorem Walks.up {A : Around} {I : Addr} {fp wr : List Addr} {n : Nat} {P : Nat → Value → Prop} {St : Nat → Heap → Prop} (W : Walks (model pg w).prog w A I fp wr n P St) : Walks pg w A I fp wr n P St := W
theorem newFnEnv {scope : Scope} {cl : List (Str × Addr)} {qual : Str} {outer : Env} {Q : Env → Shared → Prop} (hc : ∀ x ∈ scope.names, x.2 ≠ .cell) (hk : scope.kind = .function)
    (k : ∀ C h', h.get? C = none → h'.Ns C (fun _ => none) → Le h h' → Q (newEnv scope C outer.globals cl qual none .none (some outer) outer.builtins) ⟨h', g, d, tk, os⟩) :
    wpAny (model pg w) A (newFunctionEnv scope outer.globals cl [] qual none .none (some outer)) Q E ⟨h, g, d, tk, os⟩ := by
  refine wpAny_newFunctionEnv hc (by intro y hy; simp at hy) (fun h₁ hns hsb => ?_) hk
  have e : (fun x => ([] : List (Str × Value)).reverse.lookup x) = fun _ => none := by funext x; rfl
  rw [e] at hns
  exact k _ h₁ (Heap.get?_none_of_le (Nat.le_refl _)) hns fun b o e => hsb.extBut b o (Nat.ne_of_lt (Heap.lt_size e)) (Heap.get?_push_of_some _ e)
theorem comp (F0 : S w.params q X Z N L cls env G₀ H₀ h₀ m cm G H h) {elt iter : Expr} {x : Str} {px : Pos} {ifs : List Expr} {scope : Scope} (cl : List (Str × Addr)) {pos : Pos} {Q : Value → Shared → Prop} (n : Nat) (J : Nat → Heap → List Value → Prop)
    (hA : Ar A 440)
    (hJ : ∀ i H H' ys, Le H H' → J i H ys → J i H' ys)
    (hJn : ∀ i H ys, J i H ys → ys.length ≤ i)
    (h1 : wpAny (model pg w) A (eval iter env) (fun xv s₁ => wpAny (model pg w) A (pyIter xv) (fun it s₂ => ∃ I Pv G H h tk o, it = .ref I ∧ s₂ = ⟨h, g, d, tk, os⟩ ∧ Src w A I n Pv H o Z 0 h ∧
      S w.params q X ((I, o) :: Z) N L cls env G₀ H₀ h₀ m cm G H h ∧ J 0 H [] ∧
      Turn w q A scope cl N cls env x ifs elt cm g d os n Pv J H ∧
      (∀ D G' H' h' tk' ys, S w.params q X Z N L cls env G₀ H₀ h₀ m cm G' H' h' → Le H H' → H'.IsList D ys.toArray → J n H' ys → Q (.ref D) ⟨h', g, d, tk', os⟩)) E s₁) E ⟨h, g, d, tk, os⟩)
    (hcl0 : closureFor scope (cE cls) = pure cl) (hcc : ∀ nm c, cl.lookup nm = some c → cls.lookup nm = some c)
    (hcell : (scope.names.all fun y => y.2 != .cell) = true := by kernel_rfl!) (hkind : scope.kind = .function := by kernel_rfl!)
    (hnames : (scope.names.all fun y => y.2 != .local || scope.names.lookup y.1 == some .local) = true := by kernel_rfl!) (hx : scope.names.lookup x = some .local := by kernel_rfl!)
    (hs : ∀ x, foldedSetIterable iter env x = pure x := by intro _; rfl) (hn : n ≤ 100000 := by lia) :
    wpAny (model pg w) A (eval (.ListComp elt [⟨.Name x px, iter, ifs, 0⟩] scope pos) env) Q E ⟨h, g, d, tk, os⟩ := by
  have hcl : closureFor scope env = pure cl := (closureFor_congr (by rw [F0.en.cs]; rfl)).trans hcl0
  have hcell' : ∀ y ∈ scope.names, y.2 ≠ .cell := fun y hy e => by
    have := List.all_eq_true.mp hcell y hy
    rw [e] at this; simp at this
  have hnames' : ∀ y ∈ scope.names, y.2 = .local → scope.names.lookup y.1 = some .local := fun y hy e => by
    have := List.all_eq_true.mp hnames y hy
    rw [e] at this
    simpa using this
  rw [eval_ListComp]
  refine wpAny_comprehension_free (use := none) rfl hs hcl hkind hnames' (wpAny_mono h1 (fun xv s₁ h₁ => wpAny_mono h₁ (fun it s₂ h₂ => ?_) fun _ _ e => e) fun _ _ e => e)
  obtain ⟨I, Pv, G, H, h, tk, o, rfl, rfl, ⟨fp, St, W, st0, hfp, hod, hZ, hSt⟩, F, j0, turn, kQ⟩ := h₂
  have nIZ := F.fr (I, o) (.head _)
  -- the new list and the frame of the comprehension
  refine wpAny_newObj_type (h := ?_) (data := .seq ([] : List Value).toArray)
  generalize hD : h.objs.size = D
  have hDn : h.get? D = none := hD ▸ Heap.get?_none_of_le (Nat.le_refl _)
  generalize hH1 : h.push { cls := .type "list", dict := none, data := .seq ([] : List Value).toArray } = h1'
  have kp1 : Le h h1' := fun b o e => hH1 ▸ Heap.get?_push_of_some _ e
  have eD : h1'.get? D = some { cls := .type "list", dict := none, data := .seq ([] : List Value).toArray } := by rw [← hH1, ← hD]; exact Heap.get?_push_size _ rfl
  show wpAny (model pg w) A (newFunctionEnv scope env.globals cl [] env.qual none .none (some env)) _ E ⟨h1', g, d, tk, os⟩
  refine newFnEnv hcell' hkind fun C h2 hCn hnsC kp2 => ?_
  have F1 := F.addZ kp1 hDn eD
  have nDI : D ≠ I := fun e => by have := nIZ.1; dsimp only at this; rw [← e, hDn] at this; cases this
  have nDL : D ≠ env.locals := fun e => by obtain ⟨o, _, _, e', _⟩ := F.ns; rw [← e, hDn] at e'; cases e'
  obtain ⟨oC, esC, epC, eC, rC⟩ := hnsC
  have F2 := F1.addZ kp2 hCn eC
  have nCD : C ≠ D := fun e => by rw [e, eD] at hCn; cases hCn
  have nCI : C ≠ I := fun e => by have := kp1 _ _ nIZ.1; dsimp only at this; rw [e, this] at hCn; cases hCn
  have nCL : C ≠ env.locals := fun e => by obtain ⟨o, _, _, e', _⟩ := F1.ns; rw [← e, hCn] at e'; cases e'
  have nIL : I ≠ env.locals := fun e => by
    obtain ⟨o2, _, _, e', d', _⟩ := F.ns
    have e2 := nIZ.1
    dsimp only at e2
    rw [e, e'] at e2; cases e2; exact hod.1 _ _ d'
  have nIc : ∀ nm c, env.cells.lookup nm = some c → c ≠ I := fun nm c hc e => by
    obtain ⟨⟨o2, e', d'⟩, _⟩ := F.cell nm c hc
    have e2 := nIZ.1
    dsimp only at e2
    rw [← e, e'] at e2; cases e2; exact hod.2 _ d'
  have nDc : ∀ nm c, env.cells.lookup nm = some c → c ≠ D := fun nm c hc e => by
    obtain ⟨⟨o2, e', d'⟩, _⟩ := F.cell nm c hc
    rw [e, hDn] at e'; cases e'
  have nCc : ∀ nm c, env.cells.lookup nm = some c → c ≠ C := fun nm c hc e => by
    obtain ⟨⟨o2, e', d'⟩, _⟩ := F1.cell nm c hc
    rw [e, hCn] at e'; cases e'
  have nZD : ∀ p ∈ Z, p.1 ≠ D := fun p hp e => by have := (F.fr p (.tail _ hp)).1; rw [e, hDn] at this; cases this
  have nZC : ∀ p ∈ Z, p.1 ≠ C := fun p hp e => by have := kp1 _ _ (F.fr p (.tail _ hp)).1; rw [e, hCn] at this; cases this
  have hx' : (compEnvC scope cl C env).kindOf x = some .local := lookup_relabel_local hx
  have fpD : ∀ b ∈ fp, b ≠ D := fun b hb e => by
    rcases hfp b hb with rfl | ⟨o', e'⟩
    · exact nDI e.symm
    · have := F.fs.sub _ _ e'; rw [e, hDn] at this; cases this
  have fpC : ∀ b ∈ fp, b ≠ C := fun b hb e => by
    rcases hfp b hb with rfl | ⟨o', e'⟩
    · exact nCI e.symm
    · have := kp1 _ _ (F.fs.sub _ _ e'); rw [e, hCn] at this; cases this
  have hlen : ∀ ys : List Value, ∀ i, ys.length ≤ i → i ≤ n → ys.toArray.size ≤ sizeLine := fun ys i h1 h2 => by rw [sizeLine_eq, List.size_toArray]; lia
  have stF : ∀ i (h h' : Heap), St i h → (∀ b ∈ fp, ∀ o, h.get? b = some o → h'.get? b = some o) → St i h' := fun i h h' => W.frame i h h'
  have loop : codeAny (model pg w) A (.compLoop (.ListComp elt [⟨.Name x px, iter, ifs, 0⟩] scope pos) 0 (.ref I) (.ref D) (compEnvC scope cl C env)) (compPost (model pg w) A E none Q (.ref D) C) ⟨h2, g, d, tk, os⟩ := by
    refine codeAny_compLoop_tests (fun k s' => ∃ h' tk' m' ys i G' H' oI oC oD, s' = ⟨h', g, d, tk', os⟩ ∧ St i h' ∧ i ≤ n ∧ k = n + 1 - i ∧ J i H' ys ∧ Le H H' ∧ h'.Ns C m' ∧ (∃ n', oD.data = .seq ys.toArray n') ∧ oD.cls = .type "list" ∧
      S w.params q X ((C, oC) :: (D, oD) :: (I, oI) :: Z) N L cls env G₀ H₀ h₀ m cm G' H' h') ?_ (n + 1)
      ⟨h2, tk, _, [], 0, G, H, o, oC, _, rfl, stF 0 _ _ st0 (fun b _ o e => kp2 _ _ (kp1 _ _ e)), Nat.zero_le _, rfl, j0, fun _ _ e => e, ⟨oC, esC, epC, eC, rC⟩, ⟨0, rfl⟩, rfl, F2⟩
    rintro k s' ⟨h', tk', m', ys, i, G', H', oI, oC', oD, rfl, st, hi, rfl, hJi, hle, hns, ⟨nD, hdD⟩, hcD, F'⟩
    have zC := F'.fr (C, oC') (by simp)
    dsimp only at zC
    by_cases hlt : i < n
    · refine W.item i _ _ _ hlt st fun v h3 tk3 hv st3 kp3 => ?_
      obtain ⟨oI3, eI3⟩ := hSt _ _ st3
      have kp3' : ∀ b y, b ≠ I → h'.get? b = some y → h3.get? b = some y := fun b y hb e => kp3 b y (by simpa using hb) e
      have F3 := F'.setZ (x := I) (o := oI) (Z' := (C, oC') :: (D, oD) :: (I, oI3) :: Z) (h' := h3) (by simp) nIL nIc kp3' fun p hp => by
        simp only [List.mem_cons] at hp ⊢
        rcases hp with rfl | rfl | rfl | hp
        · exact .inr ⟨.inl rfl, nCI⟩
        · exact .inr ⟨.inr (.inl rfl), nDI⟩
        · exact .inl ⟨rfl, eI3⟩
        · exact .inr ⟨.inr (.inr (.inr hp)), hZ p hp⟩
      have hns3 : h3.Ns C m' := let ⟨a1, a2, a3, a4, a5⟩ := hns; ⟨a1, a2, a3, kp3' _ _ nCI a4, a5⟩
      refine wpAny_assign_Name (wpAny_storeName_local (env := compEnvC scope cl C env) hx' hns3 (fun h4 hns4 hs4 => ?_) (by show ((relabel scope env).kind == .class || _) = false; show (scope.kind == .class || (scope.kind == .module && _)) = false; rw [hkind]; rfl))
      have kp4 : ∀ b y, b ≠ C → h3.get? b = some y → h4.get? b = some y := fun b y hb e => (hs4.2 b hb).trans e
      obtain ⟨oC4, esC4, epC4, eC4, rC4⟩ := id hns4
      have F4 := F3.setZ (x := C) (o := oC') (Z' := (C, oC4) :: (D, oD) :: (I, oI3) :: Z) (h' := h4) (by simp) nCL nCc kp4 fun p hp => by
        simp only [List.mem_cons] at hp ⊢
        rcases hp with rfl | rfl | rfl | hp
        · exact .inl ⟨rfl, eC4⟩
        · exact .inr ⟨.inr (.inl rfl), nCD.symm⟩
        · exact .inr ⟨.inr (.inr (.inl rfl)), nCI.symm⟩
        · exact .inr ⟨.inr (.inr (.inr hp)), nZC p hp⟩
      have st4 : St (i + 1) h4 := stF _ _ _ st3 fun b hb o e => kp4 b o (fpC b hb) e
      have SC : S w.params q [] [] (relN scope.names N) C cl (compEnvC scope cl C env) G' H' h4 (fun y => if y = x then some v else m' y) cm G' H' h4 :=
        ⟨F.en.comp hkind cl C, F4.fs.vw, hns4, zC.2.2.1, fun nm c hc => F4.cell nm c (by rw [F.en.cs]; exact hcc nm c hc), fun nm nm' c hc hc' => F4.apart nm nm' c (by rw [F.en.cs]; exact hcc _ _ hc) (by rw [F.en.cs]; exact hcc _ _ hc'), fun p hp => absurd hp (by simp)⟩
      have fin : ∀ G5 H5 h5 tk5 (ys5 : List Value) oD5, S w.params q X ((C, oC4) :: (D, oD5) :: (I, oI3) :: Z) N L cls env G₀ H₀ h₀ m cm G5 H5 h5 → h5.Ns C (fun y => if y = x then some v else m' y) → St (i + 1) h5 → (∃ n', oD5.data = .seq ys5.toArray n') → oD5.cls = .type "list" → J (i + 1) H5 ys5 → Le H H5 →
          ∃ k', k' < n + 1 - i ∧ ∃ h' tk' m' ys i G' H' oI oC oD, (⟨h5, g, d, tk5, os⟩ : Shared) = ⟨h', g, d, tk', os⟩ ∧ St i h' ∧ i ≤ n ∧ k' = n + 1 - i ∧ J i H' ys ∧ Le H H' ∧ h'.Ns C m' ∧ (∃ n', oD.data = .seq ys.toArray n') ∧ oD.cls = .type "list" ∧
            S w.params q X ((C, oC) :: (D, oD) :: (I, oI) :: Z) N L cls env G₀ H₀ h₀ m cm G' H' h' := fun G5 H5 h5 tk5 ys5 oD5 F5 ns5 st5 d5 c5 j5 l5 =>
        ⟨n + 1 - (i + 1), by lia, h5, tk5, _, ys5, i + 1, G5, H5, oI3, oC4, oD5, rfl, st5, hlt, rfl, j5, l5, ns5, d5, c5, F5⟩
      refine wpAny_mono (turn i v C _ ys G' H' h4 _ _ _ hlt hv hle hJi (by simp) rfl SC fun nm c hc => F4.cell nm c (by rw [F.en.cs]; exact hc)) (fun ok s₃ h₃ => ?_) fun _ _ e => e
      cases ok with
      | false =>
        simp only [Bool.false_eq_true, if_false] at h₃ ⊢
        obtain ⟨G5, H5, h5, tk5, rfl, F5, j5⟩ := h₃
        have F6 := F4.trans F5
        exact fin G5 H5 h5 tk5 ys oD F6 (let ⟨a1, a2, a3, a4, a5⟩ := hns4; ⟨a1, a2, a3, F5.kp _ _ zC.2.2.1 a4, a5⟩) (stF _ _ _ st4 fun b hb o e => F5.kp b o (by
          rcases hfp b hb with rfl | ⟨o', e'⟩
          · exact (F4.fr (b, oI3) (by simp)).2.2.1
          · exact (F.fs.at' _ _ e').2.2.1) e) ⟨nD, hdD⟩ hcD j5 fun b y e => F5.le _ _ (hle _ _ e)
      | true =>
        simp only [if_true] at h₃ ⊢
        refine wpAny_mono h₃ (fun y s₄ h₄ => ?_) fun _ _ e => e
        obtain ⟨G5, H5, h5, tk5, rfl, F5, j5⟩ := h₄
        have F6 := F4.trans F5
        have zD6 := F6.fr (D, oD) (by simp)
        dsimp only at zD6
        have hl5 : h5.IsList D ys.toArray := ⟨oD, zD6.1, hcD, nD, hdD⟩
        refine wpAny_list_append hl5 (fun h6 hl6 hs6 => ?_) (hlen ys i (hJn _ _ _ hJi) (by lia))
        obtain ⟨oD6, eD6, cD6, nD6, dD6⟩ := hl6
        have kp6 : ∀ b y, b ≠ D → h5.get? b = some y → h6.get? b = some y := fun b y hb e => (hs6.2 b hb).trans e
        have F7 := F6.setZ (x := D) (o := oD) (Z' := (C, oC4) :: (D, oD6) :: (I, oI3) :: Z) (h' := h6) (by simp) nDL nDc kp6 fun p hp => by
          simp only [List.mem_cons] at hp ⊢
          rcases hp with rfl | rfl | rfl | hp
          · exact .inr ⟨.inl rfl, nCD⟩
          · exact .inl ⟨rfl, eD6⟩
          · exact .inr ⟨.inr (.inr (.inl rfl)), nDI.symm⟩
          · exact .inr ⟨.inr (.inr (.inr hp)), nZD p hp⟩
        refine fin G5 H5 h6 tk5 (ys ++ [y]) oD6 F7 (let ⟨a1, a2, a3, a4, a5⟩ := hns4; ⟨a1, a2, a3, kp6 _ _ nCD (F5.kp _ _ zC.2.2.1 a4), a5⟩) (stF _ _ _ st4 fun b hb o e => kp6 b o (fpD b hb) (F5.kp b o (by
          rcases hfp b hb with rfl | ⟨o', e'⟩
          · exact (F4.fr (b, oI3) (by simp)).2.2.1
          · exact (F.fs.at' _ _ e').2.2.1) e)) ⟨nD6, by rw [dD6]; simp⟩ cD6 j5 fun b y e => F5.le _ _ (hle _ _ e)
    · have hin : i = n := by lia
      subst hin
      refine W.done _ _ _ st fun h3 tk3 kp3 => ?_
      have kp3' : ∀ b y, b ≠ I → h'.get? b = some y → h3.get? b = some y := fun b y hb e => kp3 b y (by simpa using hb) e
      have F3 := F'.setZ (x := I) (o := oI) (Z' := (C, oC') :: (D, oD) :: Z) (h' := h3) (by simp) nIL nIc kp3' fun p hp => by
        simp only [List.mem_cons] at hp ⊢
        rcases hp with rfl | rfl | hp
        · exact .inr ⟨.inl rfl, nCI⟩
        · exact .inr ⟨.inr (.inl rfl), nDI⟩
        · exact .inr ⟨.inr (.inr (.inr hp)), hZ p hp⟩
      refine ⟨m', let ⟨a1, a2, a3, a4, a5⟩ := hns; ⟨a1, a2, a3, kp3' _ _ nCI a4, a5⟩, fun h4 hs4 => ?_⟩
      have kp4 : ∀ b y, b ≠ C → h3.get? b = some y → h4.get? b = some y := fun b y hb e => (hs4.2 b hb).trans e
      have F4 := F3.setZ (x := C) (o := oC') (Z' := (D, oD) :: Z) (h' := h4) (by simp) nCL nCc kp4 fun p hp => by
        simp only [List.mem_cons] at hp ⊢
        rcases hp with rfl | hp
        · exact .inr ⟨.inr (.inl rfl), nCD.symm⟩
        · exact .inr ⟨.inr (.inr hp), nZC p hp⟩
      obtain ⟨H5, l5, e5, F5⟩ := F4.fixZ (x := D) (o := oD) (Z' := Z) (by simp) fun p hp => ⟨.tail _ hp, nZD p hp⟩
      exact kQ D G' H5 h4 tk3 ys F5 (fun b y e => l5 _ _ (hle _ _ e)) ⟨oD, e5, hcD, nD, hdD⟩ (hJ _ _ _ _ l5 hJi)
  exact codeAny_compStart_list (elt := elt) loop (W.self 0 _ _ _ (stF 0 _ _ st0 (fun b _ o e => kp2 _ _ (kp1 _ _ e))) loop)
end
end Mine

end R3_

section R4_
namespace Mine
section
variable {w : World} {A : Around} {X : List Addr} {Z : List (Addr × Obj)} {N : List (Str × NameKind)} {L : Addr} {cls : List (Str × Addr)} {env : Env} {G₀ H₀ h₀ H h : Heap} {g : Array GenState} {d : Drawn} {tk : Nat} {os : OsState} {E : Value → Shared → Prop}
/-- what a for loop keeps: the turn's number, the tables, the locals, the cells, the facts -/
abbrev Inv := Nat → QT → (Str → Option Value) → (Str → Option Value) → Heap → Prop
theorem forR {tgt iter : Expr} {body : List Stmt} {pos : Pos} {Q : Flow → Shared → Prop} (n i₀ : Nat) (J : Inv)
    (h1 : wpAny (model pg w) A (eval iter env) (fun xv s₁ => wpAny (model pg w) A (pyIter xv) (fun it s₂ => ∃ I Pv q m cm G H h tk o, it = .ref I ∧ s₂ = ⟨h, g, d, tk, os⟩ ∧ Src w A I n Pv H o Z i₀ h ∧ i₀ ≤ n ∧
      S w.params q X ((I, o) :: Z) N L cls env G₀ H₀ h₀ m cm G H h ∧ J i₀ q m cm H ∧
      (∀ i v q m cm G H' h tk o E', i < n → Pv i v → Le H H' → J i q m cm H' → S w.params q X ((I, o) :: Z) N L cls env G₀ H₀ h₀ m cm G H' h →
        wpAny (model pg w) A (assign tgt env v) (fun _ s₂ => wpAny (model pg w) A (execs body env) (fun f s₃ => (f = .next ∨ f = .cont) ∧ ∃ q' m' cm' G'' H'' h' tk', s₃ = ⟨h', g, d, tk', os⟩ ∧ S w.params q' X ((I, o) :: Z) N L cls env G₀ H₀ h₀ m' cm' G'' H'' h' ∧ Le H' H'' ∧ J (i + 1) q' m' cm' H'') E' s₂) E' ⟨h, g, d, tk, os⟩) ∧
      (∀ q m cm G' H' h' tk', S w.params q X Z N L cls env G₀ H₀ h₀ m cm G' H' h' → Le H H' → J n q m cm H' → Q .next ⟨h', g, d, tk', os⟩)) E s₁) E ⟨h, g, d, tk, os⟩)
    (hs : ∀ x, foldedSetIterable iter env x = pure x := by intro _; rfl) (ht : ∀ it v, letOwnedTupleGo tgt it v = pure () := by intro _ _; rfl) :
    wpAny (model pg w) A (exec (.For tgt iter body [] pos) env) Q E ⟨h, g, d, tk, os⟩ := by
  refine wpAny_For (wpAny_mono h1 (fun xv s₁ h₁ => wpAny_mono h₁ (fun it s₂ h₂ => ?_) fun _ _ e => e) fun _ _ e => e) hs
  obtain ⟨I, Pv, q, m, cm, G, H, h, tk, o, rfl, rfl, ⟨fp, St, W, st0, hfp, hod, hZ, hSt⟩, hi0, F, j0, turn, kQ⟩ := h₂
  have nIZ := F.fr (I, o) (.head _)
  have nIL : I ≠ env.locals := fun e => by
    obtain ⟨o2, _, _, e', d', _⟩ := F.ns
    have e2 := nIZ.1
    dsimp only at e2
    rw [e, e'] at e2; cases e2; exact hod.1 _ _ d'
  have nIc : ∀ nm c, env.cells.lookup nm = some c → c ≠ I := fun nm c hc e => by
    obtain ⟨⟨o2, e', d'⟩, _⟩ := F.cell nm c hc
    have e2 := nIZ.1
    dsimp only at e2
    rw [← e, e'] at e2; cases e2; exact hod.2 _ d'
  -- what a turn leaves of the walked list: it is an old object, or the iterator itself
  refine codeAny_forLoop (target := tgt) (body := body) (fun k s' => ∃ h' tk' q' m' cm' i G' H' oI, s' = ⟨h', g, d, tk', os⟩ ∧ St i h' ∧ i ≤ n ∧ k = n + 1 - i ∧ J i q' m' cm' H' ∧ Le H H' ∧
      S w.params q' X ((I, oI) :: Z) N L cls env G₀ H₀ h₀ m' cm' G' H' h') ?_ (n + 1 - i₀)
      ⟨h, tk, q, m, cm, i₀, G, H, o, rfl, st0, hi0, rfl, j0, fun _ _ e => e, F⟩ (ht _)
  rintro k s' ⟨h', tk', q', m', cm', i, G', H', oI, rfl, st, hi, rfl, hJi, hle, F'⟩
  by_cases hlt : i < n
  · refine W.item i _ _ _ hlt st fun v h3 tk3 hv st3 kp3 => ?_
    obtain ⟨oI3, eI3⟩ := hSt _ _ st3
    have kp3' : ∀ b y, b ≠ I → h'.get? b = some y → h3.get? b = some y := fun b y hb e => kp3 b y (by simpa using hb) e
    have F3 := F'.setZ (x := I) (o := oI) (Z' := (I, oI3) :: Z) (h' := h3) (by simp) nIL nIc kp3' fun p hp => by
      simp only [List.mem_cons] at hp ⊢
      rcases hp with rfl | hp
      · exact .inl ⟨rfl, eI3⟩
      · exact .inr ⟨.inr hp, hZ p hp⟩
    have eqI : ∀ b ∈ fp, (b = I ∨ ∃ o, H.get? b = some o) := hfp
    refine wpAny_mono (turn i v q' m' cm' G' H' h3 tk3 oI3 _ hlt hv hle hJi F3) (fun _ s₂ h₂ => wpAny_mono h₂ (fun f s₃ h₃ => ?_) fun _ _ e => e) fun _ _ e => e
    obtain ⟨hf, q5, m5, cm5, G5, H5, h5, tk5, rfl, F5, l5, j5⟩ := h₃
    have st5 : St (i + 1) h5 := W.frame _ _ _ st3 fun b hb o e => by
      rcases hfp b hb with rfl | ⟨o', e'⟩
      · have e1 := (F5.fr (b, oI3) (by simp)).1
        dsimp only at e1
        rw [eI3] at e; cases e; exact e1
      · have e2 := F3.fs.sub _ _ (hle _ _ e')
        rw [e2] at e; cases e
        exact F5.fs.sub _ _ (l5 _ _ (hle _ _ e'))
    have fin : ∃ k', k' < n + 1 - i ∧ ∃ h' tk' q' m' cm' i G' H' oI, (⟨h5, g, d, tk5, os⟩ : Shared) = ⟨h', g, d, tk', os⟩ ∧ St i h' ∧ i ≤ n ∧ k' = n + 1 - i ∧ J i q' m' cm' H' ∧ Le H H' ∧
        S w.params q' X ((I, oI) :: Z) N L cls env G₀ H₀ h₀ m' cm' G' H' h' := ⟨n + 1 - (i + 1), by lia, h5, tk5, q5, m5, cm5, i + 1, G5, H5, oI3, rfl, st5, hlt, rfl, j5, fun b y e => l5 _ _ (hle _ _ e), F5⟩
    rcases hf with rfl | rfl
    · exact fin
    · exact fin
  · have hin : i = n := by lia
    subst hin
    refine W.done _ _ _ st fun h3 tk3 kp3 => ?_
    have kp3' : ∀ b y, b ≠ I → h'.get? b = some y → h3.get? b = some y := fun b y hb e => kp3 b y (by simpa using hb) e
    have F3 := F'.setZ (x := I) (o := oI) (Z' := Z) (h' := h3) (by simp) nIL nIc kp3' fun p hp => .inr ⟨.tail _ hp, hZ p hp⟩
    exact wpAny_execs_nil (kQ q' m' cm' G' H' h3 tk3 F3 hle hJi)
end
end Mine

end R4_

section R5_
namespace Mine
abbrev lsO (vs : List Value) : Obj := { cls := .type "list", data := .seq vs.toArray }
theorem lmono {H h : Heap} {a : Addr} {v : Array Value} (k : Le H h) (x : H.IsList a v) : h.IsList a v := let ⟨o, e, r⟩ := x; ⟨o, k _ _ e, r⟩
theorem isL {H : Heap} {a : Addr} {vs : List Value} (e : H.get? a = some (lsO vs)) : H.IsList a vs.toArray := ⟨_, e, rfl, 0, rfl⟩
section
variable {w : World} {A : Around} {q : QT} {X : List Addr} {Z : List (Addr × Obj)} {N : List (Str × NameKind)} {L : Addr} {cls : List (Str × Addr)} {env : Env} {G₀ H₀ h₀ G H h : Heap} {m cm : Str → Option Value} {g : Array GenState} {d : Drawn} {tk : Nat} {os : OsState} {E : Value → Shared → Prop}
theorem S.sub (F : S w.params q X Z N L cls env G₀ H₀ h₀ m cm G H h) : Le H h := F.fs.sub
theorem S.nZ (F : S w.params q X Z N L cls env G₀ H₀ h₀ m cm G H h) {x : Addr} (hx : h.get? x = none) : ∀ p ∈ Z, p.1 ≠ x := fun p hp e => by have := (F.fr p hp).1; rw [e, hx] at this; cases this
/-- a list is walked -/
theorem srcL {ax : Addr} {vs : List Value} {Q : Value → Shared → Prop} (F : S w.params q X Z N L cls env G₀ H₀ h₀ m cm G H h) (hA : A.handled = none) (hl : H.IsList ax vs.toArray)
    (k : ∀ I o h', S w.params q X ((I, o) :: Z) N L cls env G₀ H₀ h₀ m cm G H h' → Src w A I vs.length (fun i v => vs[i]? = some v) H o Z 0 h' → Q (.ref I) ⟨h', g, d, tk, os⟩) :
    wpAny (model pg w) A (pyIter (.ref ax)) Q E ⟨h, g, d, tk, os⟩ := by
  have hl' : h.IsList ax vs.toArray := let ⟨o, e, r⟩ := hl; ⟨o, F.sub _ _ e, r⟩
  refine wpAny_pyIter_list hl' ?_
  have hn : h.get? h.objs.size = none := Heap.get?_none_of_le (Nat.le_refl _)
  have ne : ax ≠ h.objs.size := fun e => by obtain ⟨o, e', _⟩ := hl'; rw [e, hn] at e'; cases e'
  refine k _ _ _ (F.addZ (fun b o e => Heap.get?_push_of_some _ e) hn (Heap.get?_push_size _ rfl)) ⟨[h.objs.size, ax], fun i h' => h'.IsListIter h.objs.size ax i ∧ h'.IsList ax vs.toArray, ?_, ⟨⟨_, Heap.get?_push_size _ rfl, rfl, rfl⟩, hl'.push _⟩, fun b hb => ?_, ⟨fun es n e => (by cases e), fun v e => (by cases e)⟩, F.nZ hn, fun i h st => let ⟨o, e, _⟩ := st.1; ⟨o, e⟩⟩
  · have := Walks.list (prog := pg) (w := w) hA h.objs.size ax ne vs.toArray
    simpa using this
  · simp only [List.mem_cons, List.not_mem_nil, or_false] at hb
    rcases hb with rfl | rfl
    · exact .inl rfl
    · obtain ⟨o, e, _⟩ := hl; exact .inr ⟨o, e⟩
/-- range(n) is walked -/
theorem srcR {n : Nat} {t : Tok} {Q : Value → Shared → Prop} (F : S w.params q X Z N L cls env G₀ H₀ h₀ m cm G H h) (hA : A.handled = none) (hn : n ≤ 100000)
    (k : ∀ I o h' tk', S w.params q X ((I, o) :: Z) N L cls env G₀ H₀ h₀ m cm G H h' → Src w A I n (fun i v => ∃ t, v = .int i t) H o Z 0 h' → Q (.ref I) ⟨h', g, d, tk', os⟩) :
    wpAny (model pg w) A (call (.type "range") [.int n t]) (fun r s₁ => wpAny (model pg w) A (pyIter r) Q E s₁) E ⟨h, g, d, tk, os⟩ := by
  refine call_range_1 ?_
  have F1 := F.keep (h' := h.push { cls := .type "range", data := .fields #[.int 0 tk, .int n t, .int 1 (tk + 1)] }) fun b o e => Heap.get?_push_of_some _ e
  have hr : IsRange (h.push { cls := .type "range", data := .fields #[.int 0 tk, .int n t, .int 1 (tk + 1)] }) h.objs.size 0 n 1 tk t (tk + 1) := Heap.get?_push_size _ rfl
  have hsz : Builtin.Range.rangeSize 0 (n : Int) 1 = n := by rw [rangeSize_one]; split <;> lia
  refine wpAny_pyIter_range hr (by
    show Builtin.Range.small 0 (n : Int) 1 = true
    unfold Builtin.Range.small
    rw [hsz]
    have f : ∀ x : Int, 0 ≤ x → x ≤ 100001 → Builtin.Range.rangeFitsLong x = true := fun x h1 h2 => by unfold Builtin.Range.rangeFitsLong; simp; lia
    simp [f 0 (by lia) (by lia), f 1 (by lia) (by lia), f (n : Int) (by lia) (by lia)]) ?_
  rw [hsz]
  dsimp only
  generalize hH : h.push { cls := .type "range", data := .fields #[.int 0 tk, .int n t, .int 1 (tk + 1)] } = h1 at *
  have hn' : h1.get? h1.objs.size = none := Heap.get?_none_of_le (Nat.le_refl _)
  refine k _ _ _ _ (F1.addZ (fun b o e => Heap.get?_push_of_some _ e) hn' (Heap.get?_push_size _ rfl)) ⟨[h1.objs.size], fun i h' => IsRangeIter h' h1.objs.size (0 + (i : Nat) * 1) ((n : Int) - (i : Nat)) 1, ?_, ?_, fun b hb => .inl (by simpa using hb), ⟨fun es n e => (by cases e), fun v e => (by cases e)⟩, F1.nZ hn', fun i h st => ⟨_, st⟩⟩
  · have := Walks.range (prog := pg) (w := w) hA h1.objs.size 0 1 n
    simpa using this
  · have : (h1.push { cls := .type "range_iterator", data := .fields #[rawInt 0, rawInt (n : Int), rawInt 1] }).get? h1.objs.size = _ := Heap.get?_push_size _ rfl
    simpa [IsRangeIter, rawInt] using this
theorem addL {a b : Addr} {vs us : List Value} {Q : Value → Shared → Prop} (F : S w.params q X Z N L cls env G₀ H₀ h₀ m cm G H h) (ha : H.IsList a vs.toArray) (hb : H.IsList b us.toArray) (hz : vs.length + us.length ≤ 100000)
    (k : ∀ r H' h', S w.params q X Z N L cls env G₀ H₀ h₀ m cm G H' h' → Le H H' → H'.get? r = some (lsO (vs ++ us)) → Q (.ref r) ⟨h', g, d, tk, os⟩) :
    wpAny (model pg w) A (binaryOp .Add (.ref a) (.ref b)) Q E ⟨h, g, d, tk, os⟩ := by
  obtain ⟨⟨c1, d1, dt1, sl1⟩, ho, hc, n1, hd⟩ := id (lmono F.sub ha)
  obtain ⟨⟨c2, d2, dt2, sl2⟩, ho2, hc2, n2, hd2⟩ := id (lmono F.sub hb)
  simp only at hc hd hc2 hd2
  subst hc hd hc2 hd2
  refine concat_meets ⟨_, ho, rfl⟩ ⟨_, ho2, rfl⟩ noFill_list_add seq_list_add PySem.F.slot_list_add PySem.F.entry_list_add (PySem.F.args_list_add_2 _ _) (list_addW a b vs.toArray us.toArray n1 n2 d1 d2 sl1 sl2 (by rw [sizeLine_eq]; simp; lia)) ⟨ho, ho2, ?_⟩
  rw [show vs.toArray ++ us.toArray = (vs ++ us).toArray from by simp]
  obtain ⟨H', l, e, F'⟩ := F.push (o := lsO (vs ++ us)) rfl
  exact k _ _ _ F' l e
theorem newL {vs : List Value} {Q : Value → Shared → Prop} (F : S w.params q X Z N L cls env G₀ H₀ h₀ m cm G H h) (k : ∀ r H' h', S w.params q X Z N L cls env G₀ H₀ h₀ m cm G H' h' → Le H H' → H'.get? r = some (lsO vs) → Q (.ref r) ⟨h', g, d, tk, os⟩) :
    Q (.ref h.objs.size) ⟨h.push (lsO vs), g, d, tk, os⟩ := by
  obtain ⟨H', l, e, F'⟩ := F.push (o := lsO vs) rfl
  exact k _ _ _ F' l e
theorem slU {value up : Expr} {sp : Pos} {a : Addr} {vs : List Value} {b : Nat} {u : Tok} {Q : Value → Shared → Prop} (F : S w.params q X Z N L cls env G₀ H₀ h₀ m cm G H h) (ha : H.IsList a vs.toArray) (hb : b ≤ vs.length) (hz : vs.length ≤ 100000)
    (k : ∀ r H' h', S w.params q X Z N L cls env G₀ H₀ h₀ m cm G H' h' → Le H H' → H'.get? r = some (lsO (vs.take b)) → Q (.ref r) ⟨h', g, d, tk, os⟩)
    (hs : ∀ sl, subscripted (.Slice none (some up) none sp) false (.ref a) (.ref sl) = operate [.ref sl, .ref a] (getItem (.ref a) (.ref sl)) := by intro _; with_unfolding_all rfl) (ht : ∀ r, letTemporaryGo value (.ref a) r = pure () := by intro _; with_unfolding_all rfl) :
    wpAny (model pg w) A (subscriptTail value (.Slice none (some up) none sp) (.ref a) (.ref h.objs.size)) Q E ⟨h.push { cls := .type "slice", data := .fields #[.none, .int b u, .none] }, g, d, tk, os⟩ := by
  have F1 := F.keep (h' := h.push { cls := .type "slice", data := .fields #[.none, .int b u, .none] }) fun b o e => Heap.get?_push_of_some _ e
  have hl := lmono F1.sub ha
  refine subscriptTail_ops hl.typeIs list_getitem_lookup (wpAny_getItem_list_slice hl (Heap.IsSliceOf.new ..) .none (.int b u) .none (by simp) ?_ (by rw [sizeLine_eq]; simp; lia)) (hs _) ht
  rw [slicePick_upto _ _ (by simpa using hb)]
  obtain ⟨H', l, e, F'⟩ := F1.push (o := lsO (vs.take b)) rfl
  simpa using k _ _ _ F' l e
theorem slF {value lo : Expr} {sp : Pos} {a : Addr} {vs : List Value} {b : Nat} {u : Tok} {Q : Value → Shared → Prop} (F : S w.params q X Z N L cls env G₀ H₀ h₀ m cm G H h) (ha : H.IsList a vs.toArray) (hb : b ≤ vs.length) (hz : vs.length ≤ 100000)
    (k : ∀ r H' h', S w.params q X Z N L cls env G₀ H₀ h₀ m cm G H' h' → Le H H' → H'.get? r = some (lsO (vs.drop b)) → Q (.ref r) ⟨h', g, d, tk, os⟩)
    (hs : ∀ sl, subscripted (.Slice (some lo) none none sp) false (.ref a) (.ref sl) = operate [.ref sl, .ref a] (getItem (.ref a) (.ref sl)) := by intro _; with_unfolding_all rfl) (ht : ∀ r, letTemporaryGo value (.ref a) r = pure () := by intro _; with_unfolding_all rfl) :
    wpAny (model pg w) A (subscriptTail value (.Slice (some lo) none none sp) (.ref a) (.ref h.objs.size)) Q E ⟨h.push { cls := .type "slice", data := .fields #[.int b u, .none, .none] }, g, d, tk, os⟩ := by
  have F1 := F.keep (h' := h.push { cls := .type "slice", data := .fields #[.int b u, .none, .none] }) fun b o e => Heap.get?_push_of_some _ e
  have hl := lmono F1.sub ha
  refine subscriptTail_ops hl.typeIs list_getitem_lookup (wpAny_getItem_list_slice hl (Heap.IsSliceOf.new ..) (.int b u) .none .none (by simp) ?_ (by rw [sizeLine_eq]; simp; lia)) (hs _) ht
  rw [slicePick_from _ _ (by simpa using hb)]
  obtain ⟨H', l, e, F'⟩ := F1.push (o := lsO (vs.drop b)) rfl
  simpa using k _ _ _ F' l e
theorem lenL {a : Addr} {vs : List Value} {Q : Value → Shared → Prop} (F : S w.params q X Z N L cls env G₀ H₀ h₀ m cm G H h) (ha : H.IsList a vs.toArray) (hz : vs.length ≤ 100000)
    (k : ∀ t tk', Q (.int (vs.length : Nat) t) ⟨h, g, d, tk', os⟩) : wpAny (model pg w) A (call (.builtin "len") [.ref a]) Q E ⟨h, g, d, tk, os⟩ := by
  refine len_list (lmono F.sub ha) (by simp; lia) ?_
  have := k (tk + 1) (tk + 1 + 1)
  simpa using this
theorem itemL {value slice : Expr} {a : Addr} {vs : List Value} {i : Int} {u : Tok} (v : Value) {Q : Value → Shared → Prop} (F : S w.params q X Z N L cls env G₀ H₀ h₀ m cm G H h) (ha : H.IsList a vs.toArray) (h0 : 0 ≤ i) (hz : vs.length ≤ 100000) (hv : vs[i.toNat]? = some v)
    (k : Q v ⟨h, g, d, tk, os⟩) (hs : subscripted slice false (.ref a) (.int i u) = operate [.ref a, .int i u] (getItem (.ref a) (.int i u)) := by with_unfolding_all rfl) (ht : ∀ r, letTemporaryGo value (.ref a) r = pure () := by intro _; with_unfolding_all rfl) :
    wpAny (model pg w) A (subscriptTail value slice (.ref a) (.int i u)) Q E ⟨h, g, d, tk, os⟩ := by
  have : i.toNat < vs.length := by
    obtain ⟨h1, _⟩ := List.getElem?_eq_some_iff.mp hv; exact h1
  exact item_listL (lmono F.sub ha) h0 (by lia) hv k hs ht
end
end Mine

end R5_

section R6_
namespace Mine
section
variable {w : World} {A : Around} {q : QT} {G H h : Heap} {g : Array GenState} {d : Drawn} {tk : Nat} {os : OsState} {E : Value → Shared → Prop}
/-- the frame of a function without cells of its own -/
theorem frame0 {fd : FuncData} {binds : List (Str × Value)} {a : Addr} {R : Env → Shared → Prop} (F : Vw w.params q G H h) (cm : Str → Option Value)
    (hcl : ∀ n c, fd.closure.lookup n = some c → h.IsCell c (cm n) ∧ c ∉ T0) (hap : ∀ n n' c, fd.closure.lookup n = some c → fd.closure.lookup n' = some c → n = n')
    (hc : (fd.scope.names.all fun y => y.2 != .cell) = true) (hl : (binds.all fun y => fd.scope.names.lookup y.1 == some .local) = true) (hk : fd.scope.kind = .function) (hgl : fd.globals = 3) (hbl : fd.builtins = 0)
    (k : ∀ L h₁ tk₁ env, env = newEnv fd.scope L fd.globals fd.closure (fd.qualname ++ ".<locals>.") (some a) fd.code none fd.builtins → h.objs.size = L → S w.params q [L] [] fd.scope.names L fd.closure env G H h (fun x => binds.reverse.lookup x) cm G H h₁ → R env ⟨h₁, g, d, tk₁, os⟩) :
    wpAny (model pg w) A (newFunctionEnv fd.scope fd.globals fd.closure binds (fd.qualname ++ ".<locals>.") (some a) fd.code none fd.builtins) R E ⟨h, g, d, tk, os⟩ := by
  refine wpAny_newFunctionEnv (fun x hx e => ?_) (fun x hx => ?_) (fun h₁ hns hsb => ?_) hk
  · have := List.all_eq_true.mp hc x hx; rw [e] at this; simp at this
  · have := List.all_eq_true.mp hl x hx; simpa using this
  · have kp : Le h h₁ := fun b o e => hsb.extBut b o (Nat.ne_of_lt (Heap.lt_size e)) (Heap.get?_push_of_some _ e)
    have hf : h.get? h.objs.size = none := Heap.get?_none_of_le (Nat.le_refl _)
    obtain ⟨oL, es, ep, eL, r⟩ := id hns
    have FS := F.addX kp hf eL
    exact k _ h₁ _ _ rfl rfl ⟨⟨hk, fun _ => rfl, hgl, hbl, rfl, rfl⟩, FS, hns, (FS.xs _ (.head _)).2.1, fun n c e => ⟨(hcl n c e).1.keeps kp, (hcl n c e).2⟩, hap, fun p hp => absurd hp (by simp)⟩
theorem enterC {Q : Value → Shared → Prop} {n : Nat} {a : Addr} {fd : FuncData} {body : List Stmt} {vals : List Value} {binds : List (Str × Value)} (cm : Str → Option Value) (F : Vw w.params q G H h) (hA : Ar A n) (hn : n ≤ 440)
    (ho : h.get? a = some ⟨.type "function", none, .func fd, #[]⟩) (hcd : h.CodeRec fd.code fd.qualname) (hbody : fd.body = .stmts body) (hbind : bindArgs fd ⟨vals, []⟩ = pure binds)
    (hcl : ∀ n c, fd.closure.lookup n = some c → h.IsCell c (cm n) ∧ c ∉ T0) (hap : ∀ n n' c, fd.closure.lookup n = some c → fd.closure.lookup n' = some c → n = n')
    (hc : (fd.scope.names.all fun y => y.2 != .cell) = true) (hl : (binds.all fun y => fd.scope.names.lookup y.1 == some .local) = true)
    (hco : fd.scope.isCoroutine = false) (hgen : fd.scope.isGenerator = false) (hk : fd.scope.kind = .function) (hgl : fd.globals = 3) (hbl : fd.builtins = 0)
    (k : ∀ L h₁ tk₁ E' env A', env = newEnv fd.scope L fd.globals fd.closure (fd.qualname ++ ".<locals>.") (some a) fd.code none fd.builtins → S w.params q [L] [] fd.scope.names L fd.closure env G H h (fun x => binds.reverse.lookup x) cm G H h₁ → Ar A' (n + 3) → h.objs.size = L →
      wpAny (model pg w) A' (execs body env) (fun f s' => Q (match f with | .ret v => v | _ => .none) s') E' ⟨h₁, g, d, tk₁, os⟩) :
    wpAny (model pg w) A (call (.ref a) vals) Q E ⟨h, g, d, tk, os⟩ := by
  refine wpAny_call (codeAny_call_function (fd := fd) (body := body) (by have := hA.2.1; show A.depth < 1000; lia) ho rfl hco hgen hbody hcd ?_)
  rw [hbind]
  refine wpAny_pure (frame0 F cm hcl hap hc hl hk hgl hbl fun L h₁ tk₁ env henv hL S0 => ⟨S0.fs.noLimit, codeAny_func ?_⟩)
  refine wpAny_mono (k L h₁ tk₁ _ env _ henv S0 ⟨hA.1, by have := hA.2.1; show A.depth + 1 ≤ n + 3; lia, by have := hA.2.2; show A.units + 3 ≤ n + 3; lia⟩ hL) (fun f s' hf => hf) fun _ _ e => e
theorem enterE {Q : Value → Shared → Prop} {n : Nat} {a : Addr} {fd : FuncData} {body : Expr} {vals : List Value} {binds : List (Str × Value)} (cm : Str → Option Value) (F : Vw w.params q G H h) (hA : Ar A n) (hn : n ≤ 440)
    (ho : h.get? a = some ⟨.type "function", none, .func fd, #[]⟩) (hcd : h.CodeRec fd.code fd.qualname) (hbody : fd.body = .expr body) (hbind : bindArgs fd ⟨vals, []⟩ = pure binds)
    (hcl : ∀ n c, fd.closure.lookup n = some c → h.IsCell c (cm n) ∧ c ∉ T0) (hap : ∀ n n' c, fd.closure.lookup n = some c → fd.closure.lookup n' = some c → n = n')
    (hc : (fd.scope.names.all fun y => y.2 != .cell) = true) (hl : (binds.all fun y => fd.scope.names.lookup y.1 == some .local) = true)
    (hco : fd.scope.isCoroutine = false) (hgen : fd.scope.isGenerator = false) (hk : fd.scope.kind = .function) (hgl : fd.globals = 3) (hbl : fd.builtins = 0)
    (k : ∀ L h₁ tk₁ E' env A', env = newEnv fd.scope L fd.globals fd.closure (fd.qualname ++ ".<locals>.") (some a) fd.code none fd.builtins → S w.params q [L] [] fd.scope.names L fd.closure env G H h (fun x => binds.reverse.lookup x) cm G H h₁ → Ar A' (n + 3) → h.objs.size = L →
      wpAny (model pg w) A' (eval body env) Q E' ⟨h₁, g, d, tk₁, os⟩) :
    wpAny (model pg w) A (call (.ref a) vals) Q E ⟨h, g, d, tk, os⟩ := by
  refine wpAny_call (kla_callFunE (fd := fd) (body := body) (by have := hA.2.1; show A.depth < 1000; lia) ho rfl hco hgen hbody hcd ?_)
  rw [hbind]
  refine wpAny_pure (frame0 F cm hcl hap hc hl hk hgl hbl fun L h₁ tk₁ env henv hL S0 => ⟨S0.fs.noLimit, kla_codeExpr ?_⟩)
  refine wpAny_mono (k L h₁ tk₁ _ env _ henv S0 ⟨hA.1, by have := hA.2.1; show A.depth + 1 ≤ n + 3; lia, by have := hA.2.2; show A.units + 3 ≤ n + 3; lia⟩ hL) (fun f s' hf => hf) fun _ _ e => e
end
/-- the same of a call that leaves the tables as they are -/
def FunQ (w : World) (q : QT) (n : Nat) (f : Value) (args : List Value) (G H h : Heap) (R : Heap → Value → Prop) : Prop :=
  ∀ (A : Around) (g : Array GenState) (d : Drawn) (tk : Nat) (os : OsState) (Q : Value → Shared → Prop) (E : Value → Shared → Prop), Ar A n →
    (∀ v H' h' tk', Fs w.params q [] G H h G H' h' → R H' v → Q v ⟨h', g, d, tk', os⟩) → wpAny (model pg w) A (call f args) Q E ⟨h, g, d, tk, os⟩
theorem Fs.all {P : Params} {q q' : QT} {X : List Addr} {G₀ H₀ h₀ G H h H' h' : Heap} (F : Fs P q X G₀ H₀ h₀ G H h) (F' : Fs P q' [] G H h G H' h') : Le h h' := fun b o e => by
  by_cases hb : b ∈ T0
  · obtain ⟨l, e1⟩ := F.ok.tabs hb
    have e2 := (F.g _ _ e1).1
    rw [e] at e2; cases e2
    exact (F'.g _ _ e1).1
  · exact F'.kp b o hb e
/-! the law's marks -/
def retL (b : List Stmt) : List PySem.Expr := match b with
  | [.Return (some (.List es _)) _] => es
  | _ => []
def lamM (i : Nat) : PySem.Expr := (retL (pBody 9)).getD i default
/-- the function that a lambda makes -/
def fdL (e : PySem.Expr) (q : Str) (clo : List (Str × Addr)) (code : Addr) (ct : Value) (pm : Value) : FuncData := match e with
  | .Lambda args body scope .. => { name := Str.ofString "<lambda>", qualname := q, params := args, body := .expr body, scope, globals := 3, closure := clo, defaults := .none, kwdefaults := .none, doc := .none, pyModule := pm, annotations := none, code := .ref code, closureTuple := ct, builtins := 0 }
  | _ => default
def lamBody : PySem.Expr → PySem.Expr
  | .Lambda _ b .. => b
  | e => e
def absF (y : Int) : Int := if y < 0 then -y else y
/-- a mark, by what it tells of an int -/
def Mark (w : World) (H : Heap) (f : Addr) (μ : Int → Int) : Prop :=
  (∃ fd, H.get? f = some ⟨.type "function", none, .func fd, #[]⟩) ∧ ∀ (q : QT) (G H' h : Heap), Le H H' → Vw w.params q G H' h → ∀ x t, FunQ w q 430 (.ref f) [.int x t] G H' h (fun _ v => ∃ t', v = .int (μ x) t')
theorem Mark.up {w : World} {H H' : Heap} {f : Addr} {μ : Int → Int} (k : Le H H') (x : Mark w H f μ) : Mark w H' f μ :=
  ⟨let ⟨fd, e⟩ := x.1; ⟨fd, k _ _ e⟩, fun q G H2 h l => x.2 q G H2 h fun b o e => l _ _ (k _ _ e)⟩
set_option maxHeartbeats 1000000 in
theorem mark1 {w : World} {H : Heap} {f c : Addr} {ct pm : Value} (e : H.get? f = some ⟨.type "function", none, .func (fdL (lamM 1) (Str.ofString "_law_marks.<locals>.<lambda>") [] c ct pm), #[]⟩) (hc : H.CodeRec (.ref c) (Str.ofString "_law_marks.<locals>.<lambda>")) : Mark w H f (fun x => x.fmod 5) := by
  refine ⟨⟨_, e⟩, fun q G H' h l F x t => ?_⟩
  intro A g d tk os Q E hA k
  refine enterE (fun _ => none) (body := lamBody (lamM 1)) (binds := [(Str.ofString "x", .int x t)]) F hA (by decide) (F.sub _ _ (l _ _ e)) ((hc.keeps l).keeps F.sub) (by kernel_rfl!) (by kernel_rfl!) (fun n c h => by cases h) (fun n n' c h => by cases h) (by kernel_rfl!) (by kernel_rfl!) (by kernel_rfl!) (by kernel_rfl!) (by kernel_rfl!) (by kernel_rfl!) (by kernel_rfl!) ?_
  intro L h₁ tk₁ E' env A' henv S0 hA' hL; clear henv
  refine wpAny_BinOp (ldL (.int x t) S0 (wpAny_Constant_int (mod_int' (by decide) ?_)))
  exact k _ _ _ _ S0.fs.drop ⟨_, rfl⟩
set_option maxHeartbeats 1000000 in
theorem mark2 {w : World} {H : Heap} {f c : Addr} {ct pm : Value} (e : H.get? f = some ⟨.type "function", none, .func (fdL (lamM 2) (Str.ofString "_law_marks.<locals>.<lambda>") [] c ct pm), #[]⟩) (hc : H.CodeRec (.ref c) (Str.ofString "_law_marks.<locals>.<lambda>")) : Mark w H f (fun x => 0 - x) := by
  refine ⟨⟨_, e⟩, fun q G H' h l F x t => ?_⟩
  intro A g d tk os Q E hA k
  refine enterE (fun _ => none) (body := lamBody (lamM 2)) (binds := [(Str.ofString "x", .int x t)]) F hA (by decide) (F.sub _ _ (l _ _ e)) ((hc.keeps l).keeps F.sub) (by kernel_rfl!) (by kernel_rfl!) (fun n c h => by cases h) (fun n n' c h => by cases h) (by kernel_rfl!) (by kernel_rfl!) (by kernel_rfl!) (by kernel_rfl!) (by kernel_rfl!) (by kernel_rfl!) (by kernel_rfl!) ?_
  intro L h₁ tk₁ E' env A' henv S0 hA' hL; clear henv
  refine wpAny_BinOp (wpAny_Constant_int (ldL (.int x t) S0 (sub_int ?_)))
  exact k _ _ _ _ S0.fs.drop ⟨_, rfl⟩
set_option maxHeartbeats 1000000 in
theorem mark0 {w : World} {H : Heap} {f c cl : Addr} {ct pm : Value} {tot : Int} {tt : Tok} (e : H.get? f = some ⟨.type "function", none, .func (fdL (lamM 0) (Str.ofString "_law_marks.<locals>.<lambda>") [(Str.ofString "total", cl)] c ct pm), #[]⟩) (hc : H.CodeRec (.ref c) (Str.ofString "_law_marks.<locals>.<lambda>"))
    (hcl : H.IsCell cl (some (.int tot tt))) : Mark w H f (fun x => absF (x - tot.fmod 10)) := by
  refine ⟨⟨_, e⟩, fun q G H' h l F x t => ?_⟩
  intro A g d tk os Q E hA k
  have hce := (hcl.keeps l)
  have hnt : cl ∉ T0 := let ⟨o, e', _⟩ := hce; (F.at' _ _ e').2.2.1
  refine enterE (fun _ => some (.int tot tt)) (body := lamBody (lamM 0)) (binds := [(Str.ofString "x", .int x t)]) F hA (by decide) (F.sub _ _ (l _ _ e)) ((hc.keeps l).keeps F.sub) (by kernel_rfl!) (by kernel_rfl!) (fun n c h => ?_) (fun n n' c h h' => ?_) (by kernel_rfl!) (by kernel_rfl!) (by kernel_rfl!) (by kernel_rfl!) (by kernel_rfl!) (by kernel_rfl!) (by kernel_rfl!) ?_
  · have := mem_of_lookup h
    rw [show (fdL (lamM 0) (Str.ofString "_law_marks.<locals>.<lambda>") [(Str.ofString "total", cl)] _ ct pm).closure = [(Str.ofString "total", cl)] from rfl, List.mem_singleton] at this
    cases this
    exact ⟨hce.keeps F.sub, hnt⟩
  · have h1 := mem_of_lookup h
    have h2 := mem_of_lookup h'
    rw [show (fdL (lamM 0) (Str.ofString "_law_marks.<locals>.<lambda>") [(Str.ofString "total", cl)] _ ct pm).closure = [(Str.ofString "total", cl)] from rfl, List.mem_singleton] at h1 h2
    cases h1; cases h2; rfl
  intro L h₁ tk₁ E' env A' henv S0 hA' hL; clear henv
  refine Call_Name1 (ldB (.builtin "abs") S0 (callWith_builtin1 (args_cons (wpAny_BinOp (ldL (.int x t) S0 (wpAny_BinOp (ldF (.int tot tt) cl S0 (wpAny_Constant_int (mod_int' (by decide) (sub_int (args_nil ?_)))))))))))
  refine call_abs_int fun u tk' => ?_
  exact k _ _ _ _ S0.fs.drop ⟨_, rfl⟩
end Mine

end R6_

section M1_
namespace Mine
/-- what is kept by every call -/
def Gm (Γ : Heap → Prop) : Prop := ∀ h h' : Heap, (∀ b o, b ∉ T0 → h.get? b = some o → h'.get? b = some o) → Γ h → Γ h'
/-- what sorted(D) gives -/
def Srt (w : World) (q : QT) (Γ : Heap → Prop) (H : Heap) (D : Addr) (R : List Value → Prop) : Prop :=
  ∀ (X : List Addr) (Z : List (Addr × Obj)) (N : List (Str × NameKind)) (L : Addr) (cl : List (Str × Addr)) (env : Env) (G₀ H₀ h₀ : Heap) (m cm : Str → Option Value) (G H' h : Heap) (A : Around) (g : Array GenState) (d : Drawn) (tk : Nat) (os : OsState) (Q : Value → Shared → Prop) (E : Value → Shared → Prop),
    S w.params q X Z N L cl env G₀ H₀ h₀ m cm G H' h → L ∈ X → h₀.objs.size ≤ L → Γ h₀ → Le H H' → Ar A 410 →
    (∀ vs r tk' H'' h', R vs → S w.params q X Z N L cl env G₀ H₀ h₀ m cm G H'' h' → Le H' H'' → H''.IsList r vs.toArray → Q (.ref r) ⟨h', g, d, tk', os⟩) →
    wpAny (model pg w) A (call (.builtin "sorted") [.ref D]) Q E ⟨h, g, d, tk, os⟩
theorem fn34 (P : Params) : (K1 P).lookup 34 = some ⟨.type "function", none, .func (fnOf P 34), #[]⟩ := by kernel_rfl!
theorem top34 (P : Params) : isTop P 34 = true := by kernel_rfl!
theorem fn41 (P : Params) : (K1 P).lookup 41 = some ⟨.type "function", none, .func (fnOf P 41), #[]⟩ := by kernel_rfl!
theorem top41 (P : Params) : isTop P 41 = true := by kernel_rfl!
set_option maxHeartbeats 1000000 in
theorem ml_call {w : World} {q : QT} {G H h : Heap} {D : Addr} {R : List Value → Prop} {n : Nat} {Γ : Heap → Prop} (F : Vw w.params q G H h) (g0 : Γ h) (hs : Srt w q Γ H D R) (hn : ∀ vs, R vs → vs.length = n) (h1 : 1 ≤ n) (hz : n ≤ 1000) :
    Fun w q 400 (.ref 34) [.ref D] G H h (fun _ v => ∃ vs, R vs ∧ vs[(n - 1) / 2]? = some v) := by
  intro A g d tk os Q E hA k
  refine enter (fun _ => []) (binds := [(Str.ofString "data", .ref D)]) (body := pBody 2) F hA (by decide) (F.okh.K 34 _ (fn34 _)) (isTop.rec (top34 _) F.okh.K) (by kernel_rfl!) (by kernel_rfl!) (by kernel_rfl!) ?_ ?_ (by kernel_rfl!) (by kernel_rfl!) (by kernel_rfl!) (by kernel_rfl!) (by kernel_rfl!) ?_
  · intro x hx; rw [List.mem_singleton] at hx; subst hx; exact .inl (by kernel_rfl!)
  · intro L y hy; simp at hy
  intro L h₁ tk₁ E' env A' henv S0 hA' hL; clear henv
  refine wpAny_execs_cons (wpAny_Assign_Name (Call_Name1 (ldB (.builtin "sorted") S0 (callWith_builtin1 (args_cons (ldL (.ref D) S0 (args_nil ?_)))))))
  refine hs _ _ _ _ _ _ _ _ _ _ _ _ _ _ _ _ _ _ _ _ _ S0 List.mem_cons_self (Nat.le_of_eq hL) g0 (fun _ _ e => e) (hA'.up (by decide)) fun vs r tk2 H2 h2 hR S2 l2 e2 => ?_
  obtain rfl := hn vs hR
  refine stL S2 fun h3 S3 => ?_
  refine wpAny_execs_cons (wpAny_Assign_Name (Call_Name1 (ldB (.builtin "len") S3 (callWith_builtin1 (args_cons (ldL (.ref r) S3 (args_nil ?_)))))))
  refine lenL S3 e2 (by lia) fun t tk4 => ?_
  refine stL S3 fun h5 S5 => ?_
  refine wpAny_execs_cons (wpAny_If ?_)
  refine wpAny_isTrue_Compare1 (ldL (.int (vs.length : Nat) t) S5 (wpAny_Constant_int (eq_int (wpAny_truthy_bool ?_))))
  have n0 : ((vs.length : Int) == 0) = false := by simpa using (by lia : vs.length ≠ 0)
  rw [n0]
  refine wpAny_execs_nil ?_
  refine wpAny_execs_cons (wpAny_If ?_)
  refine wpAny_isTrue_Compare1 (wpAny_BinOp (ldL (.int (vs.length : Nat) t) S5 (wpAny_Constant_int (mod_int' (by decide) (wpAny_Constant_int (eq_int (wpAny_truthy_bool ?_)))))))
  have em : (vs.length : Int).fmod 2 = ((vs.length % 2 : Nat) : Int) := by rw [Int.fmod_eq_emod_of_nonneg _ (by decide)]; lia
  have ed : (vs.length : Int).fdiv 2 = ((vs.length / 2 : Nat) : Int) := by rw [Int.fdiv_eq_ediv_of_nonneg _ (by decide)]; lia
  obtain ⟨v, hv⟩ : ∃ v, vs[(vs.length - 1) / 2]? = some v := ⟨vs[(vs.length - 1) / 2]'(by lia), List.getElem?_eq_getElem _⟩
  rw [em]
  cases hb : ((vs.length % 2 : Nat) : Int) == 1 with
  | true =>
    have : vs.length % 2 = 1 := by have := beq_iff_eq.mp hb; lia
    refine wpAny_execs_cons (wpAny_Return_some (Subscript_ (ldL (.ref r) S5 (wpAny_BinOp (ldL (.int (vs.length : Nat) t) S5 (wpAny_Constant_int (floordiv_int (by decide) ?_)))))))
    rw [ed]
    refine itemL v S5 e2 (by lia) (by lia) (by rw [Int.toNat_natCast, ← hv]; congr 1; lia) ?_
    exact k v _ _ _ _ S5.fs.drop ⟨vs, hR, hv⟩
  | false =>
    have : vs.length % 2 ≠ 1 := fun e => by rw [e] at hb; cases hb
    refine wpAny_execs_cons (wpAny_Return_some (Subscript_ (ldL (.ref r) S5 (wpAny_BinOp (wpAny_BinOp (ldL (.int (vs.length : Nat) t) S5 (wpAny_Constant_int (floordiv_int (by decide) ?_))))))))
    rw [ed]
    refine wpAny_Constant_int (sub_int ?_)
    refine itemL v S5 e2 (by lia) (by lia) (by rw [← hv]; congr 1; lia) ?_
    exact k v _ _ _ _ S5.fs.drop ⟨vs, hR, hv⟩
set_option maxHeartbeats 1000000 in
theorem mh_call {w : World} {q : QT} {G H h : Heap} {D : Addr} {R : List Value → Prop} {n : Nat} {Γ : Heap → Prop} (F : Vw w.params q G H h) (g0 : Γ h) (hs : Srt w q Γ H D R) (hn : ∀ vs, R vs → vs.length = n) (h1 : 1 ≤ n) (hz : n ≤ 1000) :
    Fun w q 400 (.ref 41) [.ref D] G H h (fun _ v => ∃ vs, R vs ∧ vs[n / 2]? = some v) := by
  intro A g d tk os Q E hA k
  refine enter (fun _ => []) (binds := [(Str.ofString "data", .ref D)]) (body := pBody 3) F hA (by decide) (F.okh.K 41 _ (fn41 _)) (isTop.rec (top41 _) F.okh.K) (by kernel_rfl!) (by kernel_rfl!) (by kernel_rfl!) ?_ ?_ (by kernel_rfl!) (by kernel_rfl!) (by kernel_rfl!) (by kernel_rfl!) (by kernel_rfl!) ?_
  · intro x hx; rw [List.mem_singleton] at hx; subst hx; exact .inl (by kernel_rfl!)
  · intro L y hy; simp at hy
  intro L h₁ tk₁ E' env A' henv S0 hA' hL; clear henv
  refine wpAny_execs_cons (wpAny_Assign_Name (Call_Name1 (ldB (.builtin "sorted") S0 (callWith_builtin1 (args_cons (ldL (.ref D) S0 (args_nil ?_)))))))
  refine hs _ _ _ _ _ _ _ _ _ _ _ _ _ _ _ _ _ _ _ _ _ S0 List.mem_cons_self (Nat.le_of_eq hL) g0 (fun _ _ e => e) (hA'.up (by decide)) fun vs r tk2 H2 h2 hR S2 l2 e2 => ?_
  obtain rfl := hn vs hR
  refine stL S2 fun h3 S3 => ?_
  refine wpAny_execs_cons (wpAny_Assign_Name (Call_Name1 (ldB (.builtin "len") S3 (callWith_builtin1 (args_cons (ldL (.ref r) S3 (args_nil ?_)))))))
  refine lenL S3 e2 (by lia) fun t tk4 => ?_
  refine stL S3 fun h5 S5 => ?_
  refine wpAny_execs_cons (wpAny_If ?_)
  refine wpAny_isTrue_Compare1 (ldL (.int (vs.length : Nat) t) S5 (wpAny_Constant_int (eq_int (wpAny_truthy_bool ?_))))
  have n0 : ((vs.length : Int) == 0) = false := by simpa using (by lia : vs.length ≠ 0)
  rw [n0]
  refine wpAny_execs_nil ?_
  have ed : (vs.length : Int).fdiv 2 = ((vs.length / 2 : Nat) : Int) := by rw [Int.fdiv_eq_ediv_of_nonneg _ (by decide)]; lia
  obtain ⟨v, hv⟩ : ∃ v, vs[vs.length / 2]? = some v := ⟨vs[vs.length / 2]'(by lia), List.getElem?_eq_getElem _⟩
  refine wpAny_execs_cons (wpAny_Return_some (Subscript_ (ldL (.ref r) S5 (wpAny_BinOp (ldL (.int (vs.length : Nat) t) S5 (wpAny_Constant_int (floordiv_int (by decide) ?_)))))))
  rw [ed]
  refine itemL v S5 e2 (by lia) (by lia) (by rw [Int.toNat_natCast, ← hv]) ?_
  exact k v _ _ _ _ S5.fs.drop ⟨vs, hR, hv⟩
end Mine

end M1_

section R7_
namespace Mine
def lawB : List Stmt := pBody 14
def lamC : PySem.Expr := match lawB with
  | _ :: _ :: .For _ _ (.Assign _ e _ :: _) .. :: _ => e
  | _ => default
/-- a list of one int -/
def Thing (H : Heap) (a : Addr) (x : Int) : Prop := ∃ t, H.IsList a [Value.int x t].toArray
theorem Thing.up {H H' : Heap} {a : Addr} {x : Int} (k : Le H H') (h : Thing H a x) : Thing H' a x := let ⟨t, e⟩ := h; ⟨t, lmono k e⟩
/-- a comparison of things, by a mark -/
def Cmp (w : World) (Γ : Heap → Prop) (H : Heap) (f : Addr) (μ : Int → Int) : Prop :=
  (∃ fd, H.get? f = some ⟨.type "function", none, .func fd, #[]⟩) ∧ ∀ (q : QT) (G H' h : Heap), Le H H' → Vw w.params q G H' h → Γ h → ∀ a b x y, Thing H' a x → Thing H' b y → FunQ w q 426 (.ref f) [.ref a, .ref b] G H' h (fun _ v => ∃ t', v = .int (μ x - μ y) t')
theorem Cmp.up {w : World} {Γ : Heap → Prop} {H H' : Heap} {f : Addr} {μ : Int → Int} (k : Le H H') (x : Cmp w Γ H f μ) : Cmp w Γ H' f μ :=
  ⟨let ⟨fd, e⟩ := x.1; ⟨fd, k _ _ e⟩, fun q G H2 h l => x.2 q G H2 h fun b o e => l _ _ (k _ _ e)⟩
/-- a call of a function that is at hand -/
theorem callF {w : World} {A : Around} {E : Value → Shared → Prop} {q : QT} {X : List Addr} {Z : List (Addr × Obj)} {N : List (Str × NameKind)} {L : Addr} {cl : List (Str × Addr)} {env : Env} {G₀ H₀ h₀ G H h : Heap} {m cm : Str → Option Value} {g : Array GenState} {d : Drawn} {tk : Nat} {os : OsState}
    {f : Value} {vals : List Value} {n : Nat} {R : Heap → Value → Prop} {Q : Value → Shared → Prop} (F : S w.params q X Z N L cl env G₀ H₀ h₀ m cm G H h) (hA : Ar A n) (hf : Fun w q n f vals G H h R)
    (k : ∀ v G' H' h' tk', S w.params q X Z N L cl env G₀ H₀ h₀ m cm G' H' h' → Le H H' → R H' v → Q v ⟨h', g, d, tk', os⟩) : wpAny (model pg w) A (call f vals) Q E ⟨h, g, d, tk, os⟩ :=
  hf A g d tk os Q E hA fun v G' H' h' tk' F' r => k v G' H' h' tk' (F.trans F') F'.le r
theorem callQ {w : World} {A : Around} {E : Value → Shared → Prop} {q : QT} {X : List Addr} {Z : List (Addr × Obj)} {N : List (Str × NameKind)} {L : Addr} {cl : List (Str × Addr)} {env : Env} {G₀ H₀ h₀ G H h : Heap} {m cm : Str → Option Value} {g : Array GenState} {d : Drawn} {tk : Nat} {os : OsState}
    {f : Value} {vals : List Value} {n : Nat} {R : Heap → Value → Prop} {Q : Value → Shared → Prop} (F : S w.params q X Z N L cl env G₀ H₀ h₀ m cm G H h) (hA : Ar A n) (hf : FunQ w q n f vals G H h R)
    (k : ∀ v H' h' tk', S w.params q X Z N L cl env G₀ H₀ h₀ m cm G H' h' → Le H H' → R H' v → Q v ⟨h', g, d, tk', os⟩) : wpAny (model pg w) A (call f vals) Q E ⟨h, g, d, tk, os⟩ :=
  hf A g d tk os Q E hA fun v H' h' tk' F' r => k v H' h' tk' (F.trans F') F'.le r
set_option maxHeartbeats 1000000 in
theorem cmp_of {w : World} {H : Heap} {k kc cm f : Addr} {kt pm : Value} {μ : Int → Int} {Γ : Heap → Prop} (e : H.get? k = some ⟨.type "function", none, .func (fdL lamC (Str.ofString "law.<locals>.<lambda>") [(Str.ofString "mark", cm)] kc kt pm), #[]⟩) (hc : H.CodeRec (.ref kc) (Str.ofString "law.<locals>.<lambda>"))
    (hm : Mark w H f μ) (hΓ : ∀ h, Γ h → h.IsCell cm (some (.ref f)) ∧ cm ∉ T0) : Cmp w Γ H k μ := by
  refine ⟨⟨_, e⟩, fun q G H' h l F hg a b x y ⟨ta, ha⟩ ⟨tb, hb⟩ => ?_⟩
  intro A g d tk os Q E hA kk
  have hm' := hm.up l
  obtain ⟨fd, hfd⟩ := hm'.1
  refine enterE (fun _ => some (.ref f)) (body := lamBody lamC) (binds := [(Str.ofString "one", .ref a), (Str.ofString "two", .ref b)]) F hA (by decide) (F.sub _ _ (l _ _ e)) ((hc.keeps l).keeps F.sub) (by kernel_rfl!) (by kernel_rfl!) (fun n c hh => ?_) (fun n n' c hh hh' => ?_) (by kernel_rfl!) (by kernel_rfl!) (by kernel_rfl!) (by kernel_rfl!) (by kernel_rfl!) (by kernel_rfl!) (by kernel_rfl!) ?_
  · have := mem_of_lookup hh
    rw [show (fdL lamC (Str.ofString "law.<locals>.<lambda>") [(Str.ofString "mark", cm)] kc kt pm).closure = [(Str.ofString "mark", cm)] from by kernel_rfl!, List.mem_singleton] at this
    cases this
    exact hΓ h hg
  · have h1 := mem_of_lookup hh
    have h2 := mem_of_lookup hh'
    rw [show (fdL lamC (Str.ofString "law.<locals>.<lambda>") [(Str.ofString "mark", cm)] kc kt pm).closure = [(Str.ofString "mark", cm)] from by kernel_rfl!, List.mem_singleton] at h1 h2
    cases h1; cases h2; rfl
  intro L h₁ tk₁ E' env A' henv S0 hA' hL; clear henv
  refine wpAny_BinOp (Call_Name1 (ldF (.ref f) cm S0 (callWith_def (o := ⟨.type "function", none, .func fd, #[]⟩) rfl (args_cons (Subscript_ (ldL (.ref a) S0 (wpAny_Constant_int (itemL (.int x ta) S0 ha (by decide) (by simp) rfl (args_nil ⟨S0.sub _ _ hfd, ?_⟩)))))))))
  refine callQ S0 (hA'.up (by decide)) (hm'.2 q G H' h₁ (fun _ _ e => e) S0.fs.vw x ta) fun v H2 h2 tk2 S2 l2 ⟨t2, ev⟩ => ?_
  subst ev
  refine Call_Name1 (ldF (.ref f) cm S2 (callWith_def (o := ⟨.type "function", none, .func fd, #[]⟩) rfl (args_cons (Subscript_ (ldL (.ref b) S2 (wpAny_Constant_int (itemL (.int y tb) S2 (lmono l2 hb) (by decide) (by simp) rfl (args_nil ⟨S2.sub _ _ (l2 _ _ hfd), ?_⟩))))))))
  refine callQ S2 (hA'.up (by decide)) ((hm'.up l2).2 q G H2 h2 (fun _ _ e => e) S2.fs.vw y tb) fun v H3 h3 tk3 S3 l3 ⟨t3, ev⟩ => ?_
  subst ev
  refine sub_int ?_
  exact kk _ _ _ _ S3.fs.drop ⟨_, rfl⟩
end Mine

end R7_

section R8_
namespace Mine
theorem inFrag {K : Frag} {h : Heap} (e : ∀ p ∈ K, h.get? p.1 = some p.2) : K.In h := by
  intro a o hl
  induction K with
  | nil => cases hl
  | cons p r ih =>
    obtain ⟨b, x⟩ := p
    rw [List.lookup_cons] at hl
    by_cases q : a = b
    · subst q
      rw [beq_self_eq_true] at hl; cases hl
      exact e _ (.head _)
    · have qb : (a == b) = false := by simpa using q
      rw [qb] at hl
      exact ih (fun p hp => e p (.tail _ hp)) hl
abbrev fO (d : Data) : Obj := ⟨.type "function", none, d, #[]⟩
abbrev mdO (C : Addr) (t : Tok) : Obj := ⟨.type "member_descriptor", none, .fields #[.str (Str.ofString "obj") t, .ref C, .builtin "proto.slot", .builtin "proto.slot#set", rawInt 0], #[]⟩
abbrev clsO (ns C B : Addr) (tn qn : Tok) : Obj := cO ns [.ref C, .type "object"] false [Str.ofString "obj"] #[some (.ref B), none, some (.str (Str.ofString "K") tn), some (.str (Str.ofString "cmp_to_key.<locals>.K") qn), some (.builtin "object.__new__"), some (.bool false)]
abbrev nsO (q : Nat → Int) (u : Nat → Tok) (md fl t1 t2 : Tok) (l f1 f2 f3 f4 f5 f6 T m : Addr) (P : Params) : Obj :=
  dO (esD q u (.str (Str.ofString "cpy313.functools") md) (.int 22 fl) l f1 f2 f3 f4 f5 f6 T ++ [⟨hsh P (Str.ofString "obj"), .str (Str.ofString "obj") t1, .ref m⟩, ⟨hsh P (Str.ofString "__doc__"), .str (Str.ofString "__doc__") t2, .none⟩]) 3
/-- the class, looked up in a fragment -/
structure KF (K : Frag) (C ns m f1 f2 : Addr) (P : Params) : Prop where
  c : ∃ B tn qn, K.lookup C = some (clsO ns C B tn qn)
  n : ∃ q u md fl t1 t2 l f3 f4 f5 f6 T, K.lookup ns = some (nsO q u md fl t1 t2 l f1 f2 f3 f4 f5 f6 T m P)
  m : ∃ t, K.lookup m = some (mdO C t)
  f1 : ∃ d, K.lookup f1 = some (fO d)
  f2 : ∃ d, K.lookup f2 = some (fO d)
theorem lk_cons {K : Frag} {a b : Addr} {o o' : Obj} (h : a ≠ b) (e : K.lookup a = some o) : List.lookup a ((b, o') :: K) = some o := by
  have qb : (a == b) = false := by simpa using h
  rw [List.lookup_cons, qb]; exact e
theorem lk_head {K : Frag} {a : Addr} {o : Obj} : List.lookup a ((a, o) :: K) = some o := by rw [List.lookup_cons, beq_self_eq_true]
theorem cls_ne {a b : Obj} (h : a.cls ≠ b.cls) : a ≠ b := fun e => h (by rw [e])
def fnName (o : Obj) : Str := match o.data with
  | .func fd => fd.name
  | _ => default
theorem kf_of {P : Params} {h : Heap} {C ns m f1 f2 c c1 c2 : Addr} (X : KClass h C ns m f1 f2 c c1 c2 P) : ∃ K : Frag, K.In h ∧ KF K C ns m f1 f2 P := by
  obtain ⟨⟨B, tn, qn, e1⟩, ⟨q, u, md, fl, l, f3, f4, f5, f6, T, t1, t2, e2⟩, ⟨t, e3⟩, e4, ⟨ct, e5⟩, e6, e7⟩ := X
  have nf : f2 ≠ f1 := ne_of_objs e5 e4 (fun e => by
    have e' := congrArg fnName e
    have h1 : fnName (fO (fnS (dfn 3) (Str.ofString "cmp_to_key.<locals>.K.__lt__") [(Str.ofString "mycmp", c)] c2 (.ref ct))) = Str.ofString "__lt__" := by kernel_rfl!
    have h2 : fnName (fO (fnS (dfn 2) (Str.ofString "cmp_to_key.<locals>.K.__init__") [] c1 .none)) = Str.ofString "__init__" := by kernel_rfl!
    rw [h1, h2] at e'
    exact absurd e' (by decide +kernel))
  refine ⟨[(C, clsO ns C B tn qn), (ns, nsO q u md fl t1 t2 l f1 f2 f3 f4 f5 f6 T m P), (m, mdO C t), (f1, fO (fnS (dfn 2) (Str.ofString "cmp_to_key.<locals>.K.__init__") [] c1 .none)), (f2, fO (fnS (dfn 3) (Str.ofString "cmp_to_key.<locals>.K.__lt__") [(Str.ofString "mycmp", c)] c2 (.ref ct)))], inFrag (fun p hp => ?_), ⟨⟨B, tn, qn, lk_head⟩, ⟨q, u, md, fl, t1, t2, l, f3, f4, f5, f6, T, lk_cons (ne_of_objs e2 e1 (cls_ne (by simp))) lk_head⟩, ⟨t, lk_cons (ne_of_objs e3 e1 (cls_ne (by simp))) (lk_cons (ne_of_objs e3 e2 (cls_ne (by simp))) lk_head)⟩,
    ⟨_, lk_cons (ne_of_objs e4 e1 (cls_ne (by simp))) (lk_cons (ne_of_objs e4 e2 (cls_ne (by simp))) (lk_cons (ne_of_objs e4 e3 (cls_ne (by simp))) lk_head))⟩,
    ⟨_, lk_cons (ne_of_objs e5 e1 (cls_ne (by simp))) (lk_cons (ne_of_objs e5 e2 (cls_ne (by simp))) (lk_cons (ne_of_objs e5 e3 (cls_ne (by simp))) (lk_cons nf lk_head)))⟩⟩⟩
  simp only [List.mem_cons, List.not_mem_nil, or_false] at hp
  rcases hp with rfl | rfl | rfl | rfl | rfl <;> assumption
section
variable {K : Frag} {C ns m f1 f2 : Addr} {P : Params}
theorem KF.find (X : KF K C ns m f1 f2 P) {name : Str} {r : Option Value} (e : ∀ q u md fl t1 t2 l f3 f4 f5 f6 T, (match lookIn name (nsO q u md fl t1 t2 l f1 f2 f3 f4 f5 f6 T m P) with
    | some (some v) => some (some v) | some none => alongIn [] name [.type "object"] | none => none) = some r) : findIn K (.ref C) name = some r := by
  obtain ⟨⟨B, tn, qn, e1⟩, ⟨q, u, md, fl, t1, t2, l, f3, f4, f5, f6, T, e2⟩, _⟩ := X
  rw [← e q u md fl t1 t2 l f3 f4 f5 f6 T]
  unfold findIn
  dsimp only
  rw [e1]
  dsimp only
  unfold alongIn ownIn
  dsimp only
  rw [e1]
  dsimp only
  unfold nsIn lookIn
  rw [e2]
  dsimp only
  generalize (esD q u (.str (Str.ofString "cpy313.functools") md) (.int 22 fl) l f1 f2 f3 f4 f5 f6 T ++ [⟨hsh P (Str.ofString "obj"), .str (Str.ofString "obj") t1, .ref m⟩, ⟨hsh P (Str.ofString "__doc__"), .str (Str.ofString "__doc__") t2, .none⟩]) = es
  cases List.find? (fun x => x.key.isStr name) es with
  | some x => rfl
  | none => cases hb : List.any es (fun x => x.refKey) with
    | true => simp only [hb, if_true]
    | false => simp only [hb, Bool.false_eq_true, if_false]; rfl
theorem KF.ga (X : KF K C ns m f1 f2 P) : findIn K (.ref C) "__getattribute__" = some (some (.builtin "object.__getattribute__")) := X.find fun q u md fl t1 t2 l f3 f4 f5 f6 T => by kernel_rfl!
theorem KF.gt (X : KF K C ns m f1 f2 P) : findIn K (.ref C) "__getattr__" = some none := X.find fun q u md fl t1 t2 l f3 f4 f5 f6 T => by kernel_rfl!
theorem KF.sa (X : KF K C ns m f1 f2 P) : findIn K (.ref C) "__setattr__" = some (some (.builtin "object.__setattr__")) := X.find fun q u md fl t1 t2 l f3 f4 f5 f6 T => by kernel_rfl!
theorem KF.ob (X : KF K C ns m f1 f2 P) : findIn K (.ref C) (Str.ofString "obj") = some (some (.ref m)) := X.find fun q u md fl t1 t2 l f3 f4 f5 f6 T => by kernel_rfl!
theorem KF.lt (X : KF K C ns m f1 f2 P) : findIn K (.ref C) "__lt__" = some (some (.ref f2)) := X.find fun q u md fl t1 t2 l f3 f4 f5 f6 T => by kernel_rfl!
theorem KF.ini (X : KF K C ns m f1 f2 P) : findIn K (.ref C) "__init__" = some (some (.ref f1)) := X.find fun q u md fl t1 t2 l f3 f4 f5 f6 T => by kernel_rfl!
theorem KF.clsI (X : KF K C ns m f1 f2 P) : ∃ cd : ClassData, clsIn K C = some cd ∧ cd.mro = [.ref C, .type "object"] ∧ cd.hasDict = false ∧ cd.slotNames = [Str.ofString "obj"] := by
  obtain ⟨B, tn, qn, e1⟩ := X.c
  refine ⟨_, by unfold clsIn; rw [e1], rfl, rfl, rfl⟩
theorem KF.tyM (X : KF K C ns m f1 f2 P) : typeIn K (.ref m) = some (.type "member_descriptor") := by
  obtain ⟨t, e⟩ := X.m
  show (K.lookup m).map _ = _
  rw [e]; rfl
theorem KF.tk (X : KF K C ns m f1 f2 P) : takesIn K (.ref m) = some true := by
  unfold takesIn specialIn
  rw [X.tyM]
  kernel_rfl!
theorem KF.get (X : KF K C ns m f1 f2 P) (od : Option Obj) : findObj K C od (Str.ofString "obj") = some (.bind (.builtin "member_descriptor.__get__") (.ref m)) := by
  obtain ⟨cd, hc, _⟩ := X.clsI
  unfold findObj
  rw [hc, X.ob]
  dsimp only [Option.bind_some]
  have e : specialIn K (.ref m) "__get__" = some (some (.builtin "member_descriptor.__get__")) := by
    unfold specialIn
    rw [X.tyM]
    kernel_rfl!
  rw [e]
  dsimp only [Option.bind_some]
  rw [X.tk]
  rfl
theorem KF.slot (X : KF K C ns m f1 f2 P) : slotIn K m C = some 0 := by
  obtain ⟨cd, hc, h1, h2, h3⟩ := X.clsI
  obtain ⟨t, e⟩ := X.m
  have hr : recIn K m "member_descriptor" = some [.str (Str.ofString "obj") t, .ref C, .builtin "proto.slot", .builtin "proto.slot#set", rawInt 0] := by
    unfold recIn; rw [e]; rfl
  unfold slotIn
  rw [hr, hc]
  dsimp only [rawInt]
  rw [h1, h3]
  simp
end
end Mine

end R8_

section SO_
namespace Mine
/-! the sort that the model runs, as a tree of questions: with answers by a key it gives the stable order -/
def Ran {α : Type} (ans : Nat → Nat → Bool) (n : Nat) (post : α → Prop) : KasT α → Prop
  | .ret a => post a
  | .ask i j k => i < n ∧ j < n ∧ Ran ans n post (k (ans i j))
theorem Ran.bind {α β : Type} {ans : Nat → Nat → Bool} {n : Nat} {post : β → Prop} {f : α → KasT β} : ∀ (t : KasT α), Ran ans n (fun a => Ran ans n post (f a)) t → Ran ans n post (t.bind f)
  | .ret a, h => h
  | .ask i j k, h => ⟨h.1, h.2.1, Ran.bind (k (ans i j)) h.2.2⟩
theorem Ran.mono {α : Type} {ans : Nat → Nat → Bool} {n : Nat} {p p' : α → Prop} (hp : ∀ a, p a → p' a) : ∀ (t : KasT α), Ran ans n p t → Ran ans n p' t
  | .ret a, h => hp a h
  | .ask i j k, h => ⟨h.1, h.2.1, Ran.mono hp (k (ans i j)) h.2.2⟩
def lex (key : Nat → Int) (a b : Nat) : Prop := key a < key b ∨ (key a = key b ∧ a < b)
theorem lex.trans {key : Nat → Int} {a b c : Nat} (h : lex key a b) (h' : lex key b c) : lex key a c := by unfold lex at *; lia
section
variable {key : Nat → Int} {n : Nat}
def an (key : Nat → Int) (i j : Nat) : Bool := decide (key i < key j)
/-- a run so far: the first m are in order, the others stand where they stood -/
structure Run (key : Nat → Int) (n : Nat) (p : Array Nat) (m : Nat) : Prop where
  size : p.size = n
  perm : p.toList.Perm (List.range n)
  tail : ∀ i, m ≤ i → i < n → p.getD i 0 = i
  low : ∀ i, i < m → p.getD i 0 < m
  ord : ∀ a b, a < b → b < m → lex key (p.getD a 0) (p.getD b 0)
theorem gD {p : Array Nat} {i : Nat} {v : Nat} (h : p[i]? = some v) : p.getD i 0 = v := by simp [Array.getD_eq_getD_getElem?, h]
theorem gS {p : Array Nat} {i : Nat} (h : i < p.size) : p[i]? = some (p.getD i 0) := by simp [Array.getD, h]
theorem asc_ran {p : Array Nat} : ∀ (f k : Nat), 1 ≤ k → k + f ≤ n → Run key n p k →
    Ran (an key) n (fun m => k ≤ m ∧ m ≤ n ∧ Run key n p m ∧ (m < k + f → m < n ∧ key (p.getD m 0) < key (p.getD (m - 1) 0))) (kas_asc p f k)
  | 0, k, h1, h2, R => ⟨Nat.le_refl _, by lia, R, fun h => by lia⟩
  | f + 1, k, h1, h2, R => by
    have ek := R.tail k (Nat.le_refl _) (by lia)
    have lk := R.low (k - 1) (by lia)
    refine ⟨by lia, by lia, ?_⟩
    cases hc : an key (p.getD k 0) (p.getD (k - 1) 0) with
    | true =>
      simp only [if_true]
      exact ⟨Nat.le_refl _, by lia, R, fun _ => ⟨by lia, of_decide_eq_true hc⟩⟩
    | false =>
      simp only [Bool.false_eq_true, if_false]
      have hle : ¬ key (p.getD k 0) < key (p.getD (k - 1) 0) := of_decide_eq_false hc
      have l1 : lex key (p.getD (k - 1) 0) (p.getD k 0) := by unfold lex; lia
      refine Ran.mono (fun m hm => ⟨by lia, hm.2.1, hm.2.2.1, fun h => hm.2.2.2 (by lia)⟩) _ (asc_ran f (k + 1) (by lia) (by lia) ⟨R.size, R.perm, fun i h h' => R.tail i (by lia) h', fun i h => ?_, fun a b h h' => ?_⟩)
      · by_cases e : i = k
        · subst e; lia
        · have := R.low i (by lia); lia
      · by_cases e : b = k
        · subst e
          by_cases e' : a = b - 1
          · subst e'; exact l1
          · exact (R.ord a (b - 1) (by lia) (by lia)).trans l1
        · exact R.ord a b h (by lia)
/-- a falling run, its last block (of like keys) still as it stood -/
structure Fall (key : Nat → Int) (n : Nat) (p : Array Nat) (k q : Nat) : Prop where
  size : p.size = n
  perm : p.toList.Perm (List.range n)
  tail : ∀ i, k ≤ i → i < n → p.getD i 0 = i
  low : ∀ i, i < k → p.getD i 0 < k
  qk : q + 1 ≤ k
  o1 : ∀ a b, a < b → b < k - (q + 1) → lex key (p.getD b 0) (p.getD a 0)
  o2 : ∀ a b, a < k - (q + 1) → k - (q + 1) ≤ b → b < k → key (p.getD b 0) < key (p.getD a 0)
  o3 : ∀ a b, k - (q + 1) ≤ a → a < b → b < k → key (p.getD a 0) = key (p.getD b 0) ∧ p.getD a 0 < p.getD b 0
theorem rev_size (p : Array Nat) (i j : Nat) : (kas_rev p i j).size = p.size := mirror_size _ _ _ _
theorem rev_perm {p : Array Nat} {i j : Nat} {l : List Nat} (h : p.toList.Perm l) : (kas_rev p i j).toList.Perm l := (Array.perm_iff_toList_perm.mp (mirror_perm _ _ _ _)).trans h
theorem rev_get {p : Array Nat} {i j : Nat} (hj : j ≤ p.size) (k : Nat) (hk : k < p.size) : (kas_rev p i j).getD k 0 = if i ≤ k ∧ k < j then p.getD (i + j - 1 - k) 0 else p.getD k 0 := by
  have e := getElem?_mirror (xs := p) (i := i) (j := j) hj ((j - i) / 2) (by lia) k
  have e' : (kas_rev p i j)[k]? = _ := e
  by_cases h : i ≤ k ∧ k < j
  · rw [if_pos h]
    by_cases h2 : (i ≤ k ∧ k < i + (j - i) / 2) ∨ (j - (j - i) / 2 ≤ k ∧ k < j)
    · rw [if_pos h2, gS (p := p) (i := i + j - 1 - k) (by lia)] at e'
      exact gD e'
    · rw [if_neg h2, gS (p := p) hk] at e'
      have : i + j - 1 - k = k := by lia
      rw [this]; exact gD e'
  · rw [if_neg h]
    rw [if_neg (by lia), gS (p := p) hk] at e'
    exact gD e'
/-- the last block turned: the whole falls -/
theorem Fall.turn {p : Array Nat} {k q : Nat} (F : Fall key n p k q) (hk : k ≤ n) : let p' := if q > 0 then kas_rev p (k - (q + 1)) k else p
    p'.size = n ∧ p'.toList.Perm (List.range n) ∧ (∀ i, k ≤ i → i < n → p'.getD i 0 = i) ∧ (∀ i, i < k → p'.getD i 0 < k) ∧ (∀ a b, a < b → b < k → lex key (p'.getD b 0) (p'.getD a 0)) ∧ (∀ a, a < k → key (p.getD (k - 1) 0) ≤ key (p'.getD a 0)) := by
  have hs := F.size
  have qk := F.qk
  have hle : ∀ a, a < k → key (p.getD (k - 1) 0) ≤ key (p.getD a 0) := fun a ha => by
    by_cases h : a < k - (q + 1)
    · have := F.o2 a (k - 1) h (by lia) (by lia); lia
    · by_cases e : a = k - 1
      · subst e; exact Int.le_refl _
      · have := (F.o3 a (k - 1) (by lia) (by lia) (by lia)).1; lia
  by_cases hq : q > 0
  · simp only [hq, if_true]
    have g : ∀ i, i < n → (kas_rev p (k - (q + 1)) k).getD i 0 = if k - (q + 1) ≤ i ∧ i < k then p.getD (k - (q + 1) + k - 1 - i) 0 else p.getD i 0 := fun i hi => rev_get (by lia) i (by lia)
    refine ⟨(rev_size ..).trans hs, rev_perm F.perm, fun i h h' => ?_, fun i h => ?_, fun a b h h' => ?_, fun a ha => ?_⟩
    · rw [g i h', if_neg (by lia)]; exact F.tail i h h'
    · rw [g i (by lia)]
      split
      · exact F.low _ (by lia)
      · exact F.low _ h
    · rw [g a (by lia), g b (by lia)]
      by_cases hb : b < k - (q + 1)
      · rw [if_neg (by lia), if_neg (by lia)]; exact F.o1 a b h hb
      · rw [if_pos (show k - (q + 1) ≤ b ∧ b < k by lia)]
        by_cases ha : a < k - (q + 1)
        · rw [if_neg (by lia)]; exact .inl (F.o2 a _ ha (by lia) (by lia))
        · rw [if_pos (by lia)]
          have := F.o3 (k - (q + 1) + k - 1 - b) (k - (q + 1) + k - 1 - a) (by lia) (by lia) (by lia)
          exact .inr this
    · rw [g a (by lia)]
      split
      · exact hle _ (by lia)
      · exact hle _ ha
  · simp only [hq, if_false]
    refine ⟨hs, F.perm, F.tail, F.low, fun a b h h' => ?_, hle⟩
    by_cases hb : b < k - (q + 1)
    · exact F.o1 a b h hb
    · exact .inl (F.o2 a b (by lia) (by lia) h')
theorem desc_ran : ∀ (f : Nat) (p : Array Nat) (k q : Nat), k + f ≤ n → Fall key n p k q → Ran (an key) n (fun r => Fall key n r.1 r.2.1 r.2.2 ∧ k ≤ r.2.1 ∧ r.2.1 ≤ n) (kas_desc f p k q)
  | 0, p, k, q, h, F => ⟨F, Nat.le_refl _, by show k ≤ n; lia⟩
  | f + 1, p, k, q, h, F => by
    have qk := F.qk
    have ek := F.tail k (Nat.le_refl _) (by lia)
    have lk := F.low (k - 1) (by lia)
    have T := F.turn (by lia)
    refine ⟨by lia, by lia, ?_⟩
    cases hc : an key (p.getD k 0) (p.getD (k - 1) 0) with
    | true =>
      simp only [if_true]
      have hlt : key (p.getD k 0) < key (p.getD (k - 1) 0) := of_decide_eq_true hc
      have next : ∀ p', p' = (if q > 0 then kas_rev p (k - (q + 1)) k else p) → Ran (an key) n (fun r => Fall key n r.1 r.2.1 r.2.2 ∧ k ≤ r.2.1 ∧ r.2.1 ≤ n) (kas_desc f p' (k + 1) 0) := by
        rintro p' rfl
        obtain ⟨t1, t2, t3, t4, t5, t6⟩ := T
        refine Ran.mono (fun r hr => ⟨hr.1, by lia, hr.2.2⟩) _ (desc_ran f _ (k + 1) 0 (by lia) ⟨t1, t2, fun i h h' => t3 i (by lia) h', fun i h => ?_, by lia, fun a b h h' => t5 a b h (by lia), fun a b h h' h'' => ?_, fun a b h h' h'' => by lia⟩)
        · by_cases e : i = k
          · subst e; rw [t3 i (Nat.le_refl _) (by lia)]; lia
          · have := t4 i (by lia); lia
        · obtain rfl : b = k := by lia
          have := t6 a (by lia)
          rw [t3 b (Nat.le_refl _) (by lia)]
          rw [ek] at hlt
          lia
      by_cases hq : q > 0
      · rw [if_pos hq]; exact next _ (by rw [if_pos hq])
      · rw [if_neg hq]; exact next _ (by rw [if_neg hq])
    | false =>
      simp only [Bool.false_eq_true, if_false]
      have h1 : ¬ key (p.getD k 0) < key (p.getD (k - 1) 0) := of_decide_eq_false hc
      refine ⟨by lia, by lia, ?_⟩
      cases hd : an key (p.getD (k - 1) 0) (p.getD k 0) with
      | true =>
        simp only [if_true]
        exact ⟨F, Nat.le_refl _, by show k ≤ n; lia⟩
      | false =>
        simp only [Bool.false_eq_true, if_false]
        have h2 : ¬ key (p.getD (k - 1) 0) < key (p.getD k 0) := of_decide_eq_false hd
        refine Ran.mono (fun r hr => ⟨hr.1, by lia, hr.2.2⟩) _ (desc_ran f p (k + 1) (q + 1) (by lia) ⟨F.size, F.perm, fun i h h' => F.tail i (by lia) h', fun i h => ?_, by lia, fun a b h h' => F.o1 a b h (by lia), fun a b h h' h'' => ?_, fun a b h h' h'' => ?_⟩)
        · by_cases e : i = k
          · subst e; lia
          · have := F.low i (by lia); lia
        · by_cases e : b = k
          · subst e
            have := F.o2 a (b - 1) (by lia) (by lia) (by lia)
            lia
          · exact F.o2 a b (by lia) (by lia) (by lia)
        · by_cases e : b = k
          · subst e
            have l1 := F.low a (by lia)
            by_cases e' : a = b - 1
            · subst e'; exact ⟨by lia, by lia⟩
            · have := F.o3 a (b - 1) (by lia) (by lia) (by lia)
              exact ⟨by lia, by lia⟩
          · exact F.o3 a b (by lia) h' (by lia)
/-- a falling row turned over -/
theorem tail3_ran {p : Array Nat} {k : Nat} (h1 : 1 ≤ k) (hk : k ≤ n) (s : p.size = n) (pm : p.toList.Perm (List.range n)) (t : ∀ i, k ≤ i → i < n → p.getD i 0 = i) (l : ∀ i, i < k → p.getD i 0 < k) (o : ∀ a b, a < b → b < k → lex key (p.getD b 0) (p.getD a 0)) :
    Ran (an key) n (fun r => 1 ≤ r.1 ∧ r.1 ≤ n ∧ Run key n r.2 r.1) (kas_tail3 k n p) := by
  unfold kas_tail3
  have g : ∀ i, i < n → (kas_rev p 0 k).getD i 0 = if 0 ≤ i ∧ i < k then p.getD (0 + k - 1 - i) 0 else p.getD i 0 := fun i hi => rev_get (by lia) i (by lia)
  refine Ran.bind _ (Ran.mono (fun m hm => ⟨by lia, hm.2.1, hm.2.2.1⟩) _ (asc_ran (n - k) k h1 (by lia) ⟨(rev_size ..).trans s, rev_perm pm, fun i h h' => ?_, fun i h => ?_, fun a b h h' => ?_⟩))
  · rw [g i h', if_neg (by lia)]; exact t i h h'
  · rw [g i (by lia), if_pos (by lia)]; exact l _ (by lia)
  · rw [g a (by lia), g b (by lia), if_pos (by lia), if_pos (by lia)]
    exact o _ _ (by lia) (by lia)
theorem descPart_ran {p : Array Nat} {m : Nat} (h1 : 1 ≤ m) (hm : m < n) (s : p.size = n) (pm : p.toList.Perm (List.range n)) (t : ∀ i, m ≤ i → i < n → p.getD i 0 = i) (l : ∀ i, i < m → p.getD i 0 < m) (o : ∀ a b, a < b → b < m → lex key (p.getD b 0) (p.getD a 0))
    (hlt : ∀ a, a < m → key m < key (p.getD a 0)) : Ran (an key) n (fun r => 1 ≤ r.1 ∧ r.1 ≤ n ∧ Run key n r.2 r.1) (kas_descPart m n p) := by
  unfold kas_descPart
  have em := t m (Nat.le_refl _) hm
  refine Ran.bind _ (Ran.mono (fun r hr => ?_) _ (desc_ran (n - (m + 1)) p (m + 1) 0 (by lia) ⟨s, pm, fun i h h' => t i (by lia) h', fun i h => ?_, by lia, fun a b h h' => o a b h (by lia), fun a b h h' h'' => ?_, fun a b h h' h'' => by lia⟩))
  · obtain ⟨F, h2, h3⟩ := hr
    obtain ⟨t1, t2, t3, t4, t5, _⟩ := F.turn h3
    by_cases hq : r.2.2 > 0
    · rw [if_pos hq]
      rw [if_pos hq] at t1 t2 t3 t4 t5
      exact tail3_ran (by lia) h3 t1 t2 t3 t4 t5
    · rw [if_neg hq]
      rw [if_neg hq] at t1 t2 t3 t4 t5
      exact tail3_ran (by lia) h3 t1 t2 t3 t4 t5
  · by_cases e : i = m
    · subst e; lia
    · have := l i (by lia); lia
  · obtain rfl : b = m := by lia
    rw [em]; exact hlt a (by lia)
theorem count_ran (h1 : 1 ≤ n) : Ran (an key) n (fun r => 1 ≤ r.1 ∧ r.1 ≤ n ∧ Run key n r.2 r.1) (kas_count n (List.toArray (List.range n))) := by
  unfold kas_count
  have g0 : ∀ i, i < n → (List.toArray (List.range n)).getD i 0 = i := fun i hi => gD (by simp [hi])
  have R0 : Run key n (List.toArray (List.range n)) 1 := ⟨by simp, by simp, fun i h h' => g0 i h', fun i h => by rw [g0 i (by lia)]; exact h, fun a b h h' => by lia⟩
  refine Ran.bind _ (Ran.mono (fun m hm => ?_) _ (asc_ran (n - 1) 1 (Nat.le_refl _) (by lia) R0))
  obtain ⟨h2, h3, R, h4⟩ := hm
  by_cases e : (m == n) = true
  · rw [if_pos e]
    exact ⟨h2, h3, R⟩
  · rw [if_neg e]
    have hmn : m < n := by have : m ≠ n := fun q => e (by simpa using q); lia
    obtain ⟨_, h5⟩ := h4 (by lia)
    rw [g0 m hmn] at h5
    by_cases e2 : m > 1
    · rw [if_pos e2]
      have l0 := R.low 0 (by lia)
      have l1 := R.low (m - 1) (by lia)
      refine ⟨by lia, by lia, ?_⟩
      cases hc : an key ((List.toArray (List.range n)).getD 0 0) ((List.toArray (List.range n)).getD (m - 1) 0) with
      | true => simp only [if_true]; exact ⟨h2, h3, R⟩
      | false =>
        simp only [Bool.false_eq_true, if_false]
        have hge : ¬ key ((List.toArray (List.range n)).getD 0 0) < key ((List.toArray (List.range n)).getD (m - 1) 0) := of_decide_eq_false hc
        rw [g0 0 (by lia), g0 (m - 1) (by lia)] at hge
        rw [g0 (m - 1) (by lia)] at h5
        have kle : ∀ a b, a ≤ b → b < m → key a ≤ key b := fun a b h h' => by
          by_cases e : a = b
          · subst e; exact Int.le_refl _
          · have := R.ord a b (by lia) h'
            rw [g0 a (by lia), g0 b (by lia)] at this
            unfold lex at this; lia
        have kall : ∀ a, a < m → key a = key (m - 1) := fun a ha => by
          have := kle a (m - 1) (by lia) (by lia)
          have := kle 0 a (by lia) ha
          lia
        have hs : (List.toArray (List.range n)).size = n := by simp
        have g : ∀ i, i < n → (kas_rev (List.toArray (List.range n)) 0 m).getD i 0 = if i < m then m - 1 - i else i := fun i hi => by
          rw [rev_get (by lia) i (by lia)]
          by_cases h : i < m
          · rw [if_pos (by lia), if_pos h, g0 _ (by lia)]; lia
          · rw [if_neg (by lia), if_neg h, g0 i hi]
        refine descPart_ran h2 hmn ((rev_size ..).trans hs) (rev_perm (by simp)) (fun i h h' => ?_) (fun i h => ?_) (fun a b h h' => ?_) fun a ha => ?_
        · rw [g i h', if_neg (by lia)]
        · rw [g i (by lia), if_pos h]; lia
        · rw [g a (by lia), g b (by lia), if_pos (by lia), if_pos (by lia)]
          refine .inr ⟨?_, by lia⟩
          rw [kall (m - 1 - b) (by lia), kall (m - 1 - a) (by lia)]
        · rw [g a (by lia), if_pos (by lia), kall (m - 1 - a) (by lia)]; exact h5
    · rw [if_neg e2]
      obtain rfl : m = 1 := by lia
      rw [g0 (1 - 1) (by lia)] at h5
      refine descPart_ran h2 hmn (by simp) (by simp) (fun i h h' => g0 i h') (fun i h => by rw [g0 i (by lia)]; exact h) (fun a b h h' => by lia) fun a ha => ?_
      obtain rfl : a = 0 := by lia
      rw [g0 0 (by lia)]; exact h5
theorem place_ran {p : Array Nat} {k : Nat} (R : Run key n p k) (hk : k < n) : ∀ (f l r : Nat), l ≤ r → r ≤ k → r - l ≤ f → (∀ i, i < l → key (p.getD i 0) ≤ key k) → (∀ i, r ≤ i → i < k → key k < key (p.getD i 0)) →
    Ran (an key) n (fun l => l ≤ k ∧ (∀ i, i < l → key (p.getD i 0) ≤ key k) ∧ (∀ i, l ≤ i → i < k → key k < key (p.getD i 0))) (kas_place p k f l r)
  | 0, l, r, h1, h2, h3, a, b => ⟨by lia, a, fun i h h' => b i (by lia) h'⟩
  | f + 1, l, r, h1, h2, h3, a, b => by
    unfold kas_place
    by_cases e : l ≥ r
    · rw [if_pos e]; exact ⟨by lia, a, fun i h h' => b i (by lia) h'⟩
    · rw [if_neg e]
      have ek := R.tail k (Nat.le_refl _) hk
      have lm := R.low ((l + r) / 2) (by lia)
      have mono : ∀ i j, i ≤ j → j < k → key (p.getD i 0) ≤ key (p.getD j 0) := fun i j h h' => by
        by_cases e : i = j
        · subst e; exact Int.le_refl _
        · have := R.ord i j (by lia) h'; unfold lex at this; lia
      refine ⟨by lia, by lia, ?_⟩
      cases hc : an key (p.getD k 0) (p.getD ((l + r) / 2) 0) with
      | true =>
        simp only [if_true]
        have hlt : key (p.getD k 0) < key (p.getD ((l + r) / 2) 0) := of_decide_eq_true hc
        rw [ek] at hlt
        exact place_ran R hk f l ((l + r) / 2) (by lia) (by lia) (by lia) a fun i h h' => by have := mono ((l + r) / 2) i h h'; lia
      | false =>
        simp only [Bool.false_eq_true, if_false]
        have hge : ¬ key (p.getD k 0) < key (p.getD ((l + r) / 2) 0) := of_decide_eq_false hc
        rw [ek] at hge
        exact place_ran R hk f ((l + r) / 2 + 1) r (by lia) (by lia) (by lia) (fun i h => by have := mono i ((l + r) / 2) (by lia) (by lia); lia) b
theorem bin_ran : ∀ (f : Nat) (p : Array Nat) (k : Nat), k + f = n → Run key n p k → Ran (an key) n (fun p => Run key n p n) (kas_bin f p k)
  | 0, p, k, h, R => by
    have : k = n := by lia
    subst this; exact R
  | f + 1, p, k, h, R => by
    refine Ran.bind _ (Ran.mono (fun l hl => ?_) _ (place_ran R (by lia) k 0 k (by lia) (Nat.le_refl _) (by lia) (fun i h => by lia) fun i h h' => by lia))
    obtain ⟨h1, h2, h3⟩ := hl
    have hs := R.size
    have ek := R.tail k (Nat.le_refl _) (by lia)
    have g : ∀ i, i < n → (bubble p k (k - l)).getD i 0 = if i = l then k else if l < i ∧ i ≤ k then p.getD (i - 1) 0 else p.getD i 0 := fun i hi => by
      have e := getElem?_bubble (xs := p) (src := k) (by lia) (k - l) (by lia) i
      have ekl : k - (k - l) = l := by lia
      rw [ekl] at e
      by_cases e1 : i = l
      · rw [if_pos e1, gS (p := p) (i := k) (by lia), ek] at e
        rw [if_pos e1]; exact gD e
      · rw [if_neg e1] at e ⊢
        by_cases e2 : l < i ∧ i ≤ k
        · rw [if_pos e2, gS (p := p) (i := i - 1) (by lia)] at e
          rw [if_pos e2]; exact gD e
        · rw [if_neg e2, gS (p := p) (i := i) (by lia)] at e
          rw [if_neg e2]; exact gD e
    refine bin_ran f _ (k + 1) (by lia) ⟨(bubble_size ..).trans hs, (Array.perm_iff_toList_perm.mp (bubble_perm _ _ _)).trans R.perm, fun i h h' => ?_, fun i h => ?_, fun a b h h' => ?_⟩
    · rw [g i h', if_neg (by lia), if_neg (by lia)]; exact R.tail i (by lia) h'
    · rw [g i (by lia)]
      split
      · lia
      · split
        · have := R.low (i - 1) (by lia); lia
        · have := R.low i (by lia); lia
    · rw [g a (by lia), g b (by lia)]
      by_cases eb : b = l
      · rw [if_pos eb, if_neg (by lia), if_neg (by lia)]
        have := h2 a (by lia)
        have := R.low a (by lia)
        unfold lex; lia
      · rw [if_neg eb]
        by_cases eb2 : l < b ∧ b ≤ k
        · rw [if_pos eb2]
          by_cases ea : a = l
          · rw [if_pos ea]
            exact .inl (h3 (b - 1) (by lia) (by lia))
          · rw [if_neg ea]
            by_cases ea2 : l < a ∧ a ≤ k
            · rw [if_pos ea2]; exact R.ord _ _ (by lia) (by lia)
            · rw [if_neg ea2]; exact R.ord _ _ (by lia) (by lia)
        · rw [if_neg eb2, if_neg (by lia), if_neg (by lia)]
          exact R.ord _ _ h (by lia)
/-- the stable order of n things by a key -/
def SO (key : Nat → Int) (n : Nat) (l : List Nat) : Prop := l.Perm (List.range n) ∧ l.Pairwise (lex key)
theorem Run.so {p : Array Nat} (R : Run key n p n) : SO key n p.toList := by
  refine ⟨R.perm, List.pairwise_iff_getElem.mpr fun i j hi hj h => ?_⟩
  have hs := R.size
  have z1 : i < p.size := by simpa using hi
  have z2 : j < p.size := by simpa using hj
  have := R.ord i j h (by lia)
  have e1 : p.getD i 0 = p[i] := by simp [Array.getD, z1]
  have e2 : p.getD j 0 = p[j] := by simp [Array.getD, z2]
  rw [e1, e2] at this
  simpa using this
theorem sort_ran (h1 : 1 ≤ n) : Ran (an key) n (fun p => SO key n p.toList) (kas_sort n) := by
  unfold kas_sort
  refine Ran.bind _ (Ran.mono (fun r hr => ?_) _ (count_ran h1))
  obtain ⟨h2, h3, R⟩ := hr
  by_cases e : r.1 < n
  · rw [if_pos e]
    have em : max r.1 1 = r.1 := by lia
    rw [em]
    exact Ran.mono (fun p hp => hp.so) _ (bin_ran (n - r.1) r.2 r.1 (by lia) R)
  · rw [if_neg e]
    have : r.1 = n := by lia
    rw [this] at R
    exact R.so
end
theorem lex_irr {key : Nat → Int} {a : Nat} : ¬ lex key a a := by unfold lex; lia
theorem lex_asymm {key : Nat → Int} {a b : Nat} (h : lex key a b) : ¬ lex key b a := by unfold lex at *; lia
/-- there is only one -/
theorem so_uniq_aux {key : Nat → Int} : ∀ {a b : List Nat}, a.Perm b → a.Pairwise (lex key) → b.Pairwise (lex key) → a = b
  | [], _, p, _, _ => p.nil_eq
  | x :: r, b, p, ha, hb => by
    cases b with
    | nil => exact absurd p.length_eq (by simp)
    | cons y t =>
      have hx : x ∈ y :: t := p.mem_iff.mp (.head _)
      have hy : y ∈ x :: r := p.mem_iff.mpr (.head _)
      have e : x = y := by
        rcases List.mem_cons.mp hx with h | h
        · exact h
        · rcases List.mem_cons.mp hy with h' | h'
          · exact h'.symm
          · exact absurd ((List.pairwise_cons.mp ha).1 y h') (lex_asymm ((List.pairwise_cons.mp hb).1 x h))
      subst e
      rw [so_uniq_aux (List.Perm.cons_inv p) (List.pairwise_cons.mp ha).2 (List.pairwise_cons.mp hb).2]
theorem SO.uniq {key : Nat → Int} {n : Nat} {a b : List Nat} (ha : SO key n a) (hb : SO key n b) : a = b := so_uniq_aux (ha.1.trans hb.1.symm) ha.2 hb.2
end Mine

end SO_

section R9_
namespace Mine
abbrev inO (C dct : Addr) (v : Value) : Obj := ⟨.ref C, some dct, .plain, #[some v]⟩
theorem Frag.keepIn {K : Frag} {H h : Heap} (X : K.In H) (k : Le H h) : K.In h := fun b o e => k _ _ (X b o e)
/-- an own object of the class, holding a -/
def Inst (H : Heap) (C x a : Addr) : Prop := ∃ dct, H.get? x = some (inO C dct (.ref a)) ∧ H.get? dct = some emptyDict
theorem Inst.up {H H' : Heap} {C x a : Addr} (k : Le H H') (e : Inst H C x a) : Inst H' C x a := let ⟨d, e1, e2⟩ := e; ⟨d, k _ _ e1, k _ _ e2⟩
theorem Inst.at {H : Heap} {C x a : Addr} (e : Inst H C x a) : ∃ ox od, InstAt H x ox C od ∧ ox.slots = #[some (.ref a)] := by
  obtain ⟨d, e1, e2⟩ := e
  exact ⟨_, some emptyDict, ⟨e1, rfl, rfl, e2⟩, rfl⟩
theorem attr_obj {w : World} {A : Around} {E : Value → Shared → Prop} {Q : Value → Shared → Prop} {K : Frag} {C ns m f1 f2 x a : Addr} {P : Params} {h : Heap} {g : Array GenState} {d : Drawn} {tk : Nat} {os : OsState} {b : Bool} (X : K.In h) (Y : KF K C ns m f1 f2 P) (I : Inst h C x a)
    (k : Q (.ref a) ⟨h, g, d, tk + 1, os⟩) : wpAny (model pg w) A (getAttr (.ref x) (Str.ofString "obj") b) Q E ⟨h, g, d, tk, os⟩ := by
  obtain ⟨ox, od, I', hs⟩ := I.at
  refine get_bind (prog := pg) (s := ⟨h, g, d, tk, os⟩) X I' Y.ga (Y.get od) Y.gt ?_
  refine wpAny_call (slot_get (s := ⟨h, g, d, tk + 1, os⟩) X I' Y.slot (v := .ref a) (by rw [hs]; rfl) ?_)
  show wpAny (model pg w) A (handedOut (.ref a)) Q E ⟨h, g, d, tk + 1, os⟩
  rw [handedOut_of rfl]
  exact wpAny_pure k
def fdS (s : Stmt) (q : Str) (clo : List (Str × Addr)) (code : Addr) (ct : Value) : FuncData := match fnS s q clo code ct with
  | .func fd => fd
  | _ => default
def bodyS : Stmt → List Stmt
  | .FunctionDef _ _ b .. => b
  | _ => []
theorem fd3 (c c2 : Addr) (ct : Value) : fnS (dfn 3) (Str.ofString "cmp_to_key.<locals>.K.__lt__") [(Str.ofString "mycmp", c)] c2 ct = .func (fdS (dfn 3) (Str.ofString "cmp_to_key.<locals>.K.__lt__") [(Str.ofString "mycmp", c)] c2 ct) := by kernel_rfl!
theorem fd2 (c1 : Addr) : fnS (dfn 2) (Str.ofString "cmp_to_key.<locals>.K.__init__") [] c1 .none = .func (fdS (dfn 2) (Str.ofString "cmp_to_key.<locals>.K.__init__") [] c1 .none) := by kernel_rfl!
set_option maxHeartbeats 1000000 in
theorem lt_call {w : World} {q : QT} {Γ : Heap → Prop} (hΓ : Gm Γ) {G H h : Heap} {C ns m f1 f2 c c1 c2 k : Addr} {μ : Int → Int} (F : Vw w.params q G H h) (hg : Γ h) (X : KClass H C ns m f1 f2 c c1 c2 w.params) (hc : H.IsCell c (some (.ref k))) (hk : Cmp w Γ H k μ)
    {x y a b : Addr} {u v : Int} (hx : Inst H C x a) (hy : Inst H C y b) (ha : Thing H a u) (hb : Thing H b v) : FunQ w q 422 (.ref f2) [.ref x, .ref y] G H h (fun _ r => r = .bool (decide (μ u - μ v < 0))) := by
  intro A g d tk os Q E hA kk
  obtain ⟨K, XK, Y⟩ := kf_of X
  obtain ⟨ct, ef⟩ := X.ltf
  have hnt : c ∉ T0 := let ⟨o, e', _⟩ := hc; (F.at' _ _ e').2.2.1
  have clo : (fdS (dfn 3) (Str.ofString "cmp_to_key.<locals>.K.__lt__") [(Str.ofString "mycmp", c)] c2 (.ref ct)).closure = [(Str.ofString "mycmp", c)] := by kernel_rfl!
  obtain ⟨fd, hfd⟩ := hk.1
  rw [fd3] at ef
  refine enterC (fun _ => some (.ref k)) (body := bodyS (dfn 3)) (binds := [(Str.ofString "self", .ref x), (Str.ofString "other", .ref y)]) F hA (by decide) (F.sub _ _ ef) (X.cd2.rec.keeps F.sub) (by kernel_rfl!) (by kernel_rfl!) (fun n c hh => ?_) (fun n n' c hh hh' => ?_) (by kernel_rfl!) (by kernel_rfl!) (by kernel_rfl!) (by kernel_rfl!) (by kernel_rfl!) (by kernel_rfl!) (by kernel_rfl!) ?_
  · have := mem_of_lookup hh
    rw [clo, List.mem_singleton] at this
    cases this
    exact ⟨hc.keeps F.sub, hnt⟩
  · have h1 := mem_of_lookup hh
    have h2 := mem_of_lookup hh'
    rw [clo, List.mem_singleton] at h1 h2
    cases h1; cases h2; rfl
  intro L h₁ tk₁ E' env A' henv S0 hA' hL; clear henv
  rw [clo] at S0
  have g0 : Γ h₁ := hΓ _ _ S0.fs.kp hg
  refine wpAny_execs_cons ?_
  refine wpAny_Return_some ?_
  refine wpAny_Compare1 ?_
  refine Call_ ?_
  refine ldF (.ref k) c S0 ?_
  refine callWith_def (o := ⟨.type "function", none, .func fd, #[]⟩) rfl ?_
  refine args_cons ?_
  refine Attribute_name ?_
  refine ldL (.ref x) S0 ?_
  refine attr_obj (Frag.keepIn XK S0.sub) Y (hx.up S0.sub) ?_
  refine args_cons (Attribute_name (ldL (.ref y) S0 ?_))
  refine attr_obj (Frag.keepIn XK S0.sub) Y (hy.up S0.sub) ?_
  refine args_nil ⟨S0.sub _ _ hfd, ?_⟩
  refine callQ S0 (hA'.up (by decide)) (hk.2 q G H h₁ (fun _ _ e => e) S0.fs.vw g0 a b u v ha hb) fun r H2 h2 tk2 S2 l2 ⟨t2, er⟩ => ?_
  subst er
  refine wpAny_Constant_int (lt_int ?_)
  exact kk _ _ _ _ S2.fs.drop rfl
/-- one question of the sort -/
theorem ask_lt {w : World} {A : Around} {q : QT} {Γ : Heap → Prop} (hΓ : Gm Γ) {G H h : Heap} {C ns m f1 f2 c c1 c2 k : Addr} {μ : Int → Int} {g : Array GenState} {d : Drawn} {tk : Nat} {os : OsState} {E : Value → Shared → Prop} {Q : Bool → Shared → Prop} (F : Vw w.params q G H h) (hA : Ar A 420) (hg : Γ h) (X : KClass H C ns m f1 f2 c c1 c2 w.params) (hc : H.IsCell c (some (.ref k))) (hk : Cmp w Γ H k μ)
    {x y a b : Addr} {u v : Int} (hx : Inst H C x a) (hy : Inst H C y b) (ha : Thing H a u) (hb : Thing H b v)
    (kk : ∀ H' h' tk', Fs w.params q [] G H h G H' h' → Q (decide (μ u < μ v)) ⟨h', g, d, tk', os⟩) : wpAny (model pg w) A (keyLt' oneType' (.ref x) (.ref y)) Q E ⟨h, g, d, tk, os⟩ := by
  obtain ⟨K, XK, Y⟩ := kf_of X
  obtain ⟨ox, od, I, _⟩ := (hx.up F.sub).at
  obtain ⟨df, ef⟩ := Y.f2
  rw [keyLt'_oneType, oneLt'_eq]
  simp only [if_true]
  refine wpAny_bind (wpAny_cRoomFor (by have := hA.2.2; show A.units < 9900; lia) ?_)
  refine wpAny_bind (ifBound_K (K := K) (s := ⟨h, g, d, tk, os⟩) (Frag.keepIn XK F.sub) I Y.lt (by unfold isFn typeIn; dsimp only; rw [ef]; rfl) ?_)
  refine lt_call hΓ F hg X hc hk hx hy ha hb A g d tk os _ _ (hA.up (by decide)) fun r H' h' tk' F' er => ?_
  subst er
  refine wpAny_truthy_bool ?_
  have e : decide (μ u - μ v < 0) = decide (μ u < μ v) := decide_eq_decide.mpr (by lia)
  rw [e]
  exact kk H' h' tk' F'
end Mine

end R9_

section R10_
namespace Mine
theorem Ran.wp {α : Type} {ans : Nat → Nat → Bool} {n : Nat} {cmp : Nat → Nat → (Bool → Shared → Prop) → Shared → Prop} {I : Shared → Prop} {post : α → Prop} {Q : α → Shared → Prop} (hc : ∀ i j C s, i < n → j < n → I s → (∀ s', I s' → C (ans i j) s') → cmp i j C s) (hq : ∀ a s, post a → I s → Q a s) :
    ∀ (t : KasT α) (s : Shared), Ran ans n post t → I s → t.kasWp cmp Q s
  | .ret a, s, h, hi => hq a s h hi
  | .ask i j k, s, h, hi => hc i j _ s h.1 h.2.1 hi fun s' hi' => Ran.wp hc hq (k (ans i j)) s' h.2.2 hi'
/-- the objects below L, and those above -/
def low (h : Heap) (L : Addr) : Heap := ⟨(h.objs.toList.take L).toArray, h.life⟩
theorem low_get (h : Heap) (L b : Addr) : (low h L).get? b = if b < L then h.get? b else none := by
  unfold low Heap.get?
  simp only [List.getElem?_toArray, List.getElem?_take]
  by_cases hb : b < L
  · simp [hb]
  · simp [hb]
theorem low_size (h : Heap) (L : Addr) : (low h L).objs.size ≤ L := by
  unfold low; simp; lia
def high (h : Heap) (L : Addr) : List (Addr × Obj) := (List.range h.objs.size).filterMap fun a => if L < a then (h.get? a).map fun o => (a, o) else none
theorem mem_high {h : Heap} {L : Addr} {p : Addr × Obj} : p ∈ high h L ↔ L < p.1 ∧ h.get? p.1 = some p.2 := by
  obtain ⟨a, o⟩ := p
  unfold high
  rw [List.mem_filterMap]
  constructor
  · rintro ⟨b, _, e⟩
    split at e
    · rename_i hb
      obtain ⟨o', e1, e2⟩ := Option.map_eq_some_iff.mp e
      cases e2
      exact ⟨hb, e1⟩
    · cases e
  · rintro ⟨h1, h2⟩
    refine ⟨a, List.mem_range.mpr (Heap.lt_size h2), ?_⟩
    dsimp only at h1 h2
    rw [if_pos h1, h2]; rfl
/-- what is kept while a list is sorted: everything but L's own object -/
structure Kept (h : Heap) (L : Addr) (m : Str → Option Value) (h' : Heap) : Prop where
  ns : h'.Ns L m
  kp : ∀ b o, b ≠ L → h.get? b = some o → h'.get? b = some o
theorem Kept.of {h h' : Heap} {L : Addr} {m : Str → Option Value} {news : List (Addr × Obj)} (F : Fr (low h L) L h' m) (N : News (low h L) L h' news) (hn : ∀ p ∈ high h L, p ∈ news) : Kept h L m h' := by
  refine ⟨F.ns, fun b o hb e => ?_⟩
  by_cases lt : b < L
  · exact F.keep b o (by rw [low_get, if_pos lt]; exact e)
  · exact (N (b, o) (hn _ (mem_high.mpr ⟨Nat.lt_of_le_of_ne (Nat.le_of_not_lt lt) (Ne.symm hb), e⟩))).1
theorem Kept.fr {h h' : Heap} {L : Addr} {m : Str → Option Value} (K : Kept h L m h') : Fr (low h L) L h' m :=
  ⟨K.ns, fun b o e => (by
    rw [low_get] at e
    split at e
    · rename_i lt; exact K.kp b o (Nat.ne_of_lt lt) e
    · cases e), low_size h L⟩
theorem Kept.news {h h' : Heap} {L : Addr} {m : Str → Option Value} (K : Kept h L m h') : News (low h L) L h' (high h L) := fun p hp => by
  obtain ⟨h1, h2⟩ := mem_high.mp hp
  exact ⟨K.kp _ _ (Nat.ne_of_gt h1) h2, Nat.ne_of_gt h1, by rw [low_get, if_neg (Nat.not_lt.mpr (Nat.le_of_lt h1))]⟩
section
variable {w : World} {A : Around} {q : QT} {X : List Addr} {Z : List (Addr × Obj)} {N : List (Str × NameKind)} {L : Addr} {cl : List (Str × Addr)} {env : Env} {G₀ H₀ h₀ G H h h' : Heap} {m cm : Str → Option Value} {g : Array GenState} {d : Drawn} {tk : Nat} {os : OsState} {E : Value → Shared → Prop}
theorem Kept.toS {m' : Str → Option Value} (F : S w.params q X Z N L cl env G₀ H₀ h₀ m cm G H h) (lx : L ∈ X) (K : Kept h L m' h') : S w.params q X Z N L cl env G₀ H₀ h₀ m' cm G H h' := by
  have el := F.en.lc
  refine ⟨F.en, F.fs.step (fun b o hb e => K.kp b o (fun q => hb (q ▸ lx)) e) fun x hx => ?_, el.symm ▸ K.ns, F.lt, fun n c hc => ?_, F.apart, fun p hp => ?_⟩
  · by_cases e : x = L
    · subst e; obtain ⟨o, _, _, e, _⟩ := K.ns; exact ⟨o, e⟩
    · obtain ⟨o, e'⟩ := F.fs.nX hx; exact ⟨o, K.kp x o e e'⟩
  · obtain ⟨⟨o, e, dd⟩, t⟩ := F.cell n c hc
    exact ⟨⟨o, K.kp c o (el ▸ IsCell.nL F.ns ⟨o, e, dd⟩) e, dd⟩, t⟩
  · exact ⟨K.kp _ _ (fun q => (F.fr p hp).2.1 (q ▸ lx)) (F.fr p hp).1, (F.fr p hp).2⟩
/-- a thing made while L's own object may have been moved -/
theorem S.made {m' : Str → Option Value} (F : S w.params q X Z N L cl env G₀ H₀ h₀ m' cm G H h) (F1 : S w.params q X Z N L cl env G₀ H₀ h₀ m cm G H h') {x : Addr} {o : Obj} (hx : h.get? x = none) (ho : h'.get? x = some o) :
    ∃ H', Le H H' ∧ H'.get? x = some o ∧ S w.params q X Z N L cl env G₀ H₀ h₀ m cm G H' h' := by
  have F2 : S w.params q X ((x, o) :: Z) N L cl env G₀ H₀ h₀ m cm G H h' := by
    refine ⟨F1.en, F1.fs, F1.ns, F1.lt, F1.cell, F1.apart, fun p hp => ?_⟩
    rcases List.mem_cons.mp hp with rfl | hp
    · refine ⟨ho, fun hm => ?_, fun hb => ?_, ?_, ?_, F.fs.none hx⟩
      · obtain ⟨o', e⟩ := F.fs.nX hm; rw [hx] at e; cases e
      · obtain ⟨l, e⟩ := F.fs.okh.tabs hb; rw [hx] at e; cases e
      · cases e : H.get? x with
        | none => rfl
        | some o' => have := F.fs.sub _ _ e; rw [hx] at this; cases this
      · cases e : G.get? x with
        | none => rfl
        | some o' => have := (F.fs.g _ _ e).1; rw [hx] at this; cases this
    · exact F1.fr p hp
  exact F2.fixZ (x := x) (o := o) (by simp) fun p hp => ⟨.tail _ hp, F.nZ hx p hp⟩
end
def kkey (μ : Int → Int) (ks : List (Addr × Addr × Int)) (i : Nat) : Int := μ ((ks[i]?.map (·.2.2)).getD 0)
set_option maxHeartbeats 1000000 in
/-- sorted(keys), for two and more -/
theorem sortK {w : World} {q : QT} {Γ : Heap → Prop} (hΓ : Gm Γ) {H : Heap} {C ns mm f1 f2 c c1 c2 k D : Addr} {μ : Int → Int} (X : KClass H C ns mm f1 f2 c c1 c2 w.params) (hc : H.IsCell c (some (.ref k))) (hk : Cmp w Γ H k μ)
    (ks : List (Addr × Addr × Int)) (hI : ∀ p ∈ ks, Inst H C p.1 p.2.1 ∧ Thing H p.2.1 p.2.2) (hD : H.IsList D (ks.map fun p => Value.ref p.1).toArray) (h2 : 2 ≤ ks.length) (h64 : ks.length < 64) (p : List Nat) (hp : SO (kkey μ ks) ks.length p) :
    Srt w q Γ H D (fun vs => vs = p.map fun i => (ks.map fun p => Value.ref p.1).getD i .none) := by
  intro X' Z N L cl env G₀ H₀ h₀ m cm G H' h A g d tk os Q E F lx hsz g0 l hA kk
  have el := F.en.lc
  have len : (ks.map fun p => Value.ref p.1).length = ks.length := List.length_map ..
  have K0 : Kept h L m h := ⟨el ▸ F.ns, fun _ _ _ e => e⟩
  have toF : ∀ {h'}, Kept h L m h' → S w.params q X' Z N L cl env G₀ H₀ h₀ m cm G H' h' := fun K => K.toS F lx
  have at' : ∀ i, i < ks.length → ∃ p, ks[i]? = some p ∧ p ∈ ks ∧ (ks.map fun p => Value.ref p.1).getD i .none = .ref p.1 ∧ kkey μ ks i = μ p.2.2 := fun i hi => by
    refine ⟨ks[i], by simp [hi], by simp, by simp [hi], by simp [kkey, hi]⟩
  refine kas_sorted (prog := pg) (T := .ref C) K0.fr K0.news (vs := ks.map fun p => Value.ref p.1) (lmono F.sub (lmono l hD)) (by lia) (by lia) (fun h' F' N' v hv => ?_) (by simp) fun D' e1 h' F' N' hlt => ?_
  · obtain ⟨p, hp, rfl⟩ := List.mem_map.mp hv
    obtain ⟨ox, od, I, _⟩ := (((hI p hp).1.up l).up (toF (Kept.of F' N' fun _ hp => hp)).sub).at
    exact I.type
  · have hD'n : h.get? D' = none := by
      cases e : h.get? D' with
      | none => rfl
      | some o =>
        obtain ⟨z1, z2, z3⟩ := N' (D', seqObj "list" #[] e1) (.head _)
        dsimp only at z1 z2 z3
        by_cases lt : D' < L
        · rw [low_get, if_pos lt, e] at z3; cases z3
        · exact absurd (hlt (D', o) (mem_high.mpr ⟨Nat.lt_of_le_of_ne (Nat.le_of_not_lt lt) (Ne.symm z2), e⟩)) (Nat.lt_irrefl _)
    rw [len]
    refine Ran.wp (ans := an (kkey μ ks)) (n := ks.length) (I := fun s => ∃ h'' tk'', s = ⟨h'', g, d, tk'', os⟩ ∧ Kept h L m h'' ∧ h''.get? D' = some (seqObj "list" #[] e1)) ?_ ?_ (kas_sort ks.length) _ (sort_ran (by lia)) ⟨h', _, rfl, Kept.of F' N' (fun p hp => .tail _ hp), (N' _ (.head _)).1⟩
    · rintro i j C' s hi hj ⟨h'', tk'', rfl, K, eD⟩ hC
      obtain ⟨pi, ei1, ei2, ei3, ei4⟩ := at' i hi
      obtain ⟨pj, ej1, ej2, ej3, ej4⟩ := at' j hj
      unfold kas_ask
      rw [ei3, ej3]
      have SS := toF K
      have up : ∀ {p}, p ∈ ks → Inst H' C p.1 p.2.1 ∧ Thing H' p.2.1 p.2.2 := fun hp => ⟨(hI _ hp).1.up l, (hI _ hp).2.up l⟩
      refine ask_lt hΓ SS.fs.vw ((hA.in1 (by decide : 410 + 1 ≤ 411)).in1 (by decide)) (hΓ _ _ SS.fs.kp g0) (X.grow l) (let ⟨o, e, r⟩ := hc; ⟨o, l _ _ e, r⟩) (hk.up l) (up ei2).1 (up ej2).1 (up ei2).2 (up ej2).2 fun H3 h3 tk3 F3 => ?_
      have le3 := SS.fs.all F3
      have := hC ⟨h3, g, d, tk3, os⟩ ⟨h3, tk3, rfl, ⟨K.ns.keeps le3, fun b o hb e => le3 _ _ (K.kp b o hb e)⟩, le3 _ _ eD⟩
      unfold an at this
      rw [ei4, ej4] at this
      exact this
    · rintro p' s hp' ⟨h'', tk'', rfl, K, eD⟩
      have ep : p'.toList = p := hp'.uniq hp
      have N2 : News (low h L) L h'' ((D', seqObj "list" #[] e1) :: high h L) := fun q hq => by
        rcases List.mem_cons.mp hq with rfl | hq
        · exact ⟨eD, (N' _ (.head _)).2.1, (N' _ (.head _)).2.2⟩
        · exact K.news q hq
      refine KasFin.intro K.fr N2 (UpdF.head fun q hq e => by have := hlt q hq; rw [e] at this; exact Nat.lt_irrefl _ this) fun h3 c F3 N3 => ?_
      have K3 := Kept.of F3 N3 (fun p hp => .tail _ hp)
      have e3 := (N3 _ (.head _)).1
      obtain ⟨H4, l4, e4, S4⟩ := F.made (toF K3) hD'n e3
      rw [ep] at e4
      exact kk _ D' _ H4 h3 rfl S4 l4 ⟨_, e4, rfl, _, rfl⟩
theorem sortI {w : World} {q : QT} {Γ : Heap → Prop} {H : Heap} {D : Addr} {vs : List Value} {ns : List Int} (hD : H.IsList D vs.toArray) (hI : IntsAre vs ns) (h64 : vs.length < 64) :
    Srt w q Γ H D (fun vs' => ∃ ns', IntsAre vs' ns' ∧ ns'.Perm ns ∧ ns'.Pairwise (· ≤ ·)) := by
  intro X' Z N L cl env G₀ H₀ h₀ m cm G H' h A g d tk os Q E F lx hsz g0 l hA kk
  have el := F.en.lc
  have K0 : Kept h L m h := ⟨el ▸ F.ns, fun _ _ _ e => e⟩
  refine sorted_N (prog := pg) K0.fr K0.news (lmono F.sub (lmono l hD)) hI h64 fun h' vs' ns' e F' N' a1 a2 a3 => ?_
  have K3 := Kept.of F' N' (fun p hp => .tail _ hp)
  obtain ⟨H4, l4, e4, S4⟩ := F.made (K3.toS F lx) (Heap.get?_none_of_le (Nat.le_succ _)) (N' _ (.head _)).1
  exact kk vs' _ _ H4 h' ⟨ns', a1, a2, a3⟩ S4 l4 ⟨_, e4, rfl, _, rfl⟩
theorem sort1 {w : World} {q : QT} {Γ : Heap → Prop} {H : Heap} {D : Addr} {v : Value} (hD : H.IsList D [v].toArray) : Srt w q Γ H D (fun vs => vs = [v]) := by
  intro X' Z N L cl env G₀ H₀ h₀ m cm G H' h A g d tk os Q E F lx hsz g0 l hA kk
  refine Calls.call_function_entry kind_sorted plain_sorted entry_sorted (args_sorted1 _) ?_
  unfold Builtin.«sorted»
  refine wpAny_bind (m := checkCount "sorted" 1 1 _) (wpAny_pure ?_)
  refine wpAny_bind (collect_list (lmono F.sub (lmono l hD)) ?_ (by rw [sizeLine_eq]; simp))
  generalize hH1 : (h.push (seqObj "list" #[] 0)).update h.objs.size (Obj.mapSeq (· ++ [v].toArray)) = h1
  have k1 : Le h h1 := fun b o e => by
    rw [← hH1, Heap.get?_update_ne _ _ _ _ (Nat.ne_of_lt (Heap.lt_size e))]
    exact Heap.get?_push_of_some _ e
  have F1 := F.keep k1
  show wpAny _ _ _ _ _ ⟨h1, g, d, tk, os⟩
  refine wpAny_bind (wpAny_newList ?_ (by rw [sizeLine_eq]; simp))
  dsimp only
  generalize hr : h1.objs.size = r
  have hrn : h1.get? r = none := hr ▸ Heap.get?_none_of_le (Nat.le_refl _)
  generalize hH2 : h1.push (seqObj "list" [v].toArray 0) = h2
  have k2 : Le h1 h2 := fun b o e => hH2 ▸ Heap.get?_push_of_some _ e
  have er : h2.get? r = some (seqObj "list" [v].toArray 0) := by rw [← hH2, ← hr]; exact Heap.get?_push_size _ rfl
  have F2 := F1.addZ k2 hrn er
  refine wpAny_bind (wpAny_holding (wpAny_call_entry slot_list_sort ⟨_, er, rfl⟩ entry_list_sort ?_ (args_list_sort _)))
  rw [list_sort_plain]
  refine wpAny_bind (listItems_at er rfl ?_)
  refine wpAny_bind (listUpdate_at er rfl ?_ (by rw [sizeLine_eq]; simp) (Nat.zero_le _))
  obtain ⟨e1, ho1⟩ : ∃ e1, (h2.update r (Obj.mapSeq fun _ => (#[] : Array Value))).get? r = some (seqObj "list" #[] e1) := ⟨_, get?_update_seq er fun _ => #[]⟩
  dsimp only
  generalize hH3 : h2.update r (Obj.mapSeq fun _ => (#[] : Array Value)) = h3 at ho1 ⊢
  have k3 : ∀ b y, b ≠ r → h2.get? b = some y → h3.get? b = some y := fun b y hb e => by rw [← hH3, Heap.get?_update_ne _ _ _ _ hb]; exact e
  have nl : r ≠ env.locals := fun e => by obtain ⟨o2, _, _, e2, _⟩ := F1.ns; rw [← e, hrn] at e2; cases e2
  have nc : ∀ n c, env.cells.lookup n = some c → c ≠ r := fun n c hc e => by obtain ⟨⟨o2, e2, _⟩, _⟩ := F1.cell n c hc; rw [e, hrn] at e2; cases e2
  have nZ := F1.nZ hrn
  have F3 := F2.setZ (x := r) (o := seqObj "list" [v].toArray 0) (Z' := (r, seqObj "list" #[] e1) :: Z) (h' := h3) (by simp) nl nc k3 fun p hp => by
    rcases List.mem_cons.mp hp with rfl | hp
    · exact .inl ⟨rfl, ho1⟩
    · exact .inr ⟨.tail _ hp, nZ p hp⟩
  refine wpAny_bind (seqEpoch_at ho1 rfl ?_)
  refine wpAny_bind (wpAny_newTuple ?_ (by rw [sizeLine_eq]; simp))
  refine wpAny_bind (wpAny_newList ?_ (Nat.zero_le _))
  refine wpAny_holding ?_
  dsimp only
  generalize hH4 : (h3.push _).push _ = h4
  have F4 := F3.keep (h' := h4) fun b o e => hH4 ▸ Heap.get?_push_of_some _ (Heap.get?_push_of_some _ e)
  have ho4 := (F4.fr _ (.head _)).1
  dsimp only at ho4
  have sz : [v].toArray.size < 2 := by simp
  rw [if_pos sz, if_pos sz]
  refine wpAny_bind (wpAny_pure ?_)
  refine wpAny_bind (m := (pure () : StateT SortSt Sem Unit).run _) ?_
  rw [StateT.run_pure]
  refine wpAny_pure ?_
  dsimp only
  refine wpAny_bind (seqEpoch_at ho4 rfl ?_)
  refine wpAny_bind (listUpdate_at ho4 rfl ?_ (Nat.zero_le _) (by rw [sizeLine_eq]; simp [arrOf, SortSt.mk']))
  have hout : (arrOf (SortSt.mk' general' ([v].toArray.zip [v].toArray) #[] 7 none)).map (·.2) = [v].toArray := by
    show ([v].toArray.zip [v].toArray).map (·.2) = [v].toArray
    simp
  rw [hout]
  obtain ⟨e5, ho5⟩ : ∃ e5, (h4.update r (Obj.mapSeq fun _ => [v].toArray)).get? r = some (seqObj "list" [v].toArray e5) := ⟨_, get?_update_seq ho4 fun _ => [v].toArray⟩
  dsimp only
  generalize hH5 : h4.update r (Obj.mapSeq fun _ => [v].toArray) = h5 at ho5 ⊢
  have k5 : ∀ b y, b ≠ r → h4.get? b = some y → h5.get? b = some y := fun b y hb e => by rw [← hH5, Heap.get?_update_ne _ _ _ _ hb]; exact e
  have F5 := F4.setZ (x := r) (o := seqObj "list" #[] e1) (Z' := (r, seqObj "list" [v].toArray e5) :: Z) (h' := h5) (by simp) nl nc k5 fun p hp => by
    rcases List.mem_cons.mp hp with rfl | hp
    · exact .inl ⟨rfl, ho5⟩
    · exact .inr ⟨.tail _ hp, nZ p hp⟩
  simp only [bne_self_eq_false, Bool.false_eq_true, if_false]
  obtain ⟨H6, l6, e6, S6⟩ := F5.fixZ (x := r) (o := seqObj "list" [v].toArray e5) (Z' := Z) (by simp) fun p hp => ⟨.tail _ hp, nZ p hp⟩
  exact wpAny_pure ⟨_, rfl, wpAny_pure ⟨_, rfl, kk _ r tk H6 h5 rfl S6 l6 ⟨_, e6, rfl, _, rfl⟩⟩⟩
end Mine

end R10_

section R11_
namespace Mine
/-- where the tables' part is the same, everything old is kept -/
theorem Fs.all' {P : Params} {q q' : QT} {X : List Addr} {H₀ h₀ G H h : Heap} (F : Fs P q X G H₀ h₀ G H h) (k0 : ∀ b o, G.get? b = some o → h₀.get? b = some o) : Le h₀ h := fun b o e => by
  by_cases hb : b ∈ T0
  · obtain ⟨l, e1⟩ := F.ok.tabs hb
    have e2 := k0 _ _ e1
    rw [e] at e2; cases e2
    exact (F.g _ _ e1).1
  · exact F.kp b o hb e
theorem enterCC {w : World} {A : Around} {q : QT} {G H h : Heap} {g : Array GenState} {d : Drawn} {tk : Nat} {os : OsState} {R : Result → Shared → Prop} {n : Nat} {a : Addr} {fd : FuncData} {body : List Stmt} {vals : List Value} {binds : List (Str × Value)} (cm : Str → Option Value) (F : Vw w.params q G H h) (hA : Ar A n) (hn : n ≤ 440)
    (ho : h.get? a = some ⟨.type "function", none, .func fd, #[]⟩) (hcd : h.CodeRec fd.code fd.qualname) (hbody : fd.body = .stmts body) (hbind : bindArgs fd ⟨vals, []⟩ = pure binds)
    (hcl : ∀ n c, fd.closure.lookup n = some c → h.IsCell c (cm n) ∧ c ∉ T0) (hap : ∀ n n' c, fd.closure.lookup n = some c → fd.closure.lookup n' = some c → n = n')
    (hc : (fd.scope.names.all fun y => y.2 != .cell) = true) (hl : (binds.all fun y => fd.scope.names.lookup y.1 == some .local) = true)
    (hco : fd.scope.isCoroutine = false) (hgen : fd.scope.isGenerator = false) (hk : fd.scope.kind = .function) (hgl : fd.globals = 3) (hbl : fd.builtins = 0)
    (k : ∀ L h₁ tk₁ E' env A', env = newEnv fd.scope L fd.globals fd.closure (fd.qualname ++ ".<locals>.") (some a) fd.code none fd.builtins → S w.params q [L] [] fd.scope.names L fd.closure env G H h (fun x => binds.reverse.lookup x) cm G H h₁ → Ar A' (n + 3) → h.objs.size = L →
      wpAny (model pg w) A' (execs body env) (fun f s' => R (.ok (.ret (match f with | .ret v => v | _ => .none))) s') E' ⟨h₁, g, d, tk₁, os⟩) :
    codeAny (model pg w) A (.call (.ref a) ⟨vals, []⟩) R ⟨h, g, d, tk, os⟩ := by
  refine codeAny_call_function (fd := fd) (body := body) (by have := hA.2.1; show A.depth < 1000; lia) ho rfl hco hgen hbody hcd ?_
  rw [hbind]
  refine wpAny_pure (frame0 F cm hcl hap hc hl hk hgl hbl fun L h₁ tk₁ env henv hL S0 => ⟨S0.fs.noLimit, codeAny_func ?_⟩)
  refine wpAny_mono (k L h₁ tk₁ _ env _ henv S0 ⟨hA.1, by have := hA.2.1; show A.depth + 1 ≤ n + 3; lia, by have := hA.2.2; show A.units + 3 ≤ n + 3; lia⟩ hL) (fun f s' hf => hf) fun _ _ e => e
theorem KF.makes {K : Frag} {C ns m f1 f2 : Addr} {P : Params} (X : KF K C ns m f1 f2 P) : makesIn K C = true := by
  obtain ⟨B, tn, qn, e1⟩ := X.c
  have e2 : specialIn K (.ref C) "__call__" = some (some (.builtin "type.__call__")) := by
    unfold specialIn typeIn
    dsimp only
    rw [e1]
    kernel_rfl!
  have e3 : instIn K (.ref C) (.type "type") = some true := by
    unfold instIn typeIn
    dsimp only
    rw [e1]
    kernel_rfl!
  unfold makesIn
  rw [e2, e3, e1]
  simp
theorem KF.over {K : Frag} {C ns m f1 f2 : Addr} {P : Params} (X : KF K C ns m f1 f2 P) : plainOver K C = true := by
  obtain ⟨cd, hc, h1, _⟩ := X.clsI
  unfold plainOver
  rw [hc]
  simp only [Option.any_some]
  rw [h1]; rfl
theorem KF.taker {K : Frag} {C ns m f1 f2 : Addr} {P : Params} (X : KF K C ns m f1 f2 P) : takerIn K C (Str.ofString "obj") = some (some (.ref m)) := by
  unfold takerIn
  rw [X.ob]
  dsimp only [Option.bind_some]
  rw [X.tk]; rfl
set_option maxHeartbeats 1000000 in
theorem key_call {w : World} {q : QT} {G H h : Heap} {C ns mm f1 f2 c c1 c2 : Addr} (F : Vw w.params q G H h) (X : KClass H C ns mm f1 f2 c c1 c2 w.params) (a : Addr) :
    FunQ w q 400 (.ref C) [.ref a] G H h (fun H' v => ∃ x, v = .ref x ∧ Inst H' C x a ∧ H.get? x = none) := by
  intro A g d tk os Q E hA kk
  obtain ⟨K, XK, Y⟩ := kf_of X
  have XKh := Frag.keepIn XK F.sub
  obtain ⟨d1, ef1⟩ := Y.f1
  have hf : typeIn K (.ref f1) = some (.type "function") := by
    show (K.lookup f1).map _ = _
    rw [ef1]; rfl
  have ei := X.ini
  rw [fd2] at ei
  refine wpAny_call (make_core (makes_of XKh Y.makes) (looks_findIn XKh Y.ini) (fun self => bind_fn XKh self hf) (.inl rfl) ?_)
  -- the own object and its dict
  obtain ⟨H2, l2, e2, F2⟩ := F.push (o := emptyDict) rfl
  generalize hdx : h.objs.size = dx at e2 ⊢
  generalize hh1 : h.push emptyDict = h1 at F2 ⊢
  have hx1 : h1.objs.size = dx + 1 := by rw [← hh1, Heap.size_push, hdx]
  have hxn : h1.get? (dx + 1) = none := hx1 ▸ Heap.get?_none_of_le (Nat.le_refl _)
  have k1 : Le h1 (h1.push (instObj C dx)) := fun b o e => Heap.get?_push_of_some _ e
  have ex : (h1.push (instObj C dx)).get? (dx + 1) = some (instObj C dx) := hx1 ▸ Heap.get?_push_size _ rfl
  have F3 := F2.addX k1 hxn ex
  have sz3 : (h1.push (instObj C dx)).objs.size = dx + 2 := by rw [Heap.size_push, hx1]
  generalize h1.push (instObj C dx) = h2 at k1 ex F3 sz3 ⊢
  have F4 := F3.vw
  have hnone : H.get? (dx + 1) = none := by
    cases e : H.get? (dx + 1) with
    | none => rfl
    | some o => have := F2.sub _ _ (l2 _ _ e); rw [hxn] at this; cases this
  refine enterCC (n := 401) (fun _ => none) (body := bodyS (dfn 2)) (binds := [(Str.ofString "self", .ref (dx + 1)), (Str.ofString "obj", .ref a)]) F4 ⟨hA.1, by have := hA.2.1; show A.depth + 1 ≤ 401; lia, by have := hA.2.2; show A.units + 1 ≤ 401; lia⟩ (by decide) (F4.sub _ _ (l2 _ _ ei)) (((X.cd1.rec).keeps l2).keeps F4.sub) (by kernel_rfl!) (by kernel_rfl!) (fun n c hh => ?_) (fun n n' c hh hh' => ?_) (by kernel_rfl!) (by kernel_rfl!) (by kernel_rfl!) (by kernel_rfl!) (by kernel_rfl!) (by kernel_rfl!) (by kernel_rfl!) ?_
  · rw [show (fdS (dfn 2) (Str.ofString "cmp_to_key.<locals>.K.__init__") [] c1 .none).closure = [] from by kernel_rfl!] at hh; cases hh
  · rw [show (fdS (dfn 2) (Str.ofString "cmp_to_key.<locals>.K.__init__") [] c1 .none).closure = [] from by kernel_rfl!] at hh; cases hh
  intro L h₁ tk₁ E' env A' henv S0 hA' hL; clear henv
  refine wpAny_execs_cons ?_
  refine plainObj_wpAny_Assign_Attribute ?_
  refine ldL (.ref a) S0 (ldL (.ref (dx + 1)) S0 ?_)
  have XK1 : K.In h₁ := Frag.keepIn XK (fun b o e => S0.sub _ _ (l2 _ _ e))
  have nx0 : dx + 1 ∉ T0 := (F3.xs _ (.head _)).2.1
  have ex1 : h₁.get? (dx + 1) = some (instObj C dx) := S0.fs.kp _ _ nx0 ex
  have I1 : InstAt h₁ (dx + 1) (instObj C dx) C (some emptyDict) := ⟨ex1, rfl, rfl, S0.sub _ _ e2⟩
  refine set_plain (prog := pg) (s := ⟨h₁, g, d, tk₁, os⟩) XK1 I1 Y.sa ?_
  refine osa_descr (s := ⟨h₁, g, d, tk₁ + 1, os⟩) PySem.W.KF.slot_mset XK1 I1 Y.over Y.taker Y.tyM ?_
  have el := S0.en.lc
  have lowg : ∀ b, (res (low h₁ L) (· != dx + 1)).get? b = if b ≠ dx + 1 ∧ b < L then h₁.get? b else none := fun b => by
    rw [res_get, low_get]
    by_cases e1 : b = dx + 1 <;> by_cases e2 : b < L <;> simp [e1, e2]
  have hL' : L = dx + 2 := by rw [← hL, sz3]
  refine slot_set (s := ⟨h₁, g, d, tk₁ + 1, os⟩) (h₀ := res (low h₁ L) (· != dx + 1)) (L := L) (m := fun x => ([(Str.ofString "self", Value.ref (dx + 1)), (Str.ofString "obj", .ref a)] : List (Str × Value)).reverse.lookup x) (pre := []) (post := []) ⟨el ▸ S0.ns, fun b o e => ?_, ?_⟩ (fun p hp => ?_) XK1 I1 Y.slot (by decide) (fun p hp => absurd hp (by simp)) (fun p hp => absurd hp (by simp)) (ox' := inO C dx (.ref a)) rfl rfl fun h3 F5 N5 => ?_
  · rw [lowg] at e
    split at e
    · exact e
    · cases e
  · show (res (low h₁ L) _).objs.size ≤ L
    unfold res
    simp only [Array.size_mapIdx]
    exact low_size h₁ L
  · simp only [List.nil_append, List.mem_cons, List.not_mem_nil, or_false] at hp
    subst hp
    refine ⟨ex1, by rw [hL']; exact Nat.ne_of_lt (Nat.lt_succ_self _), ?_⟩
    rw [lowg]; simp
  · have e5 := (N5 _ (.head _)).1
    dsimp only at e5
    have F6 : Fs w.params q [dx + 1] G H h G H2 h3 := F3.step (fun b o hb e => by
      have nb : b ≠ dx + 1 := by simpa using hb
      have lb : b < L := by rw [hL', ← sz3]; exact Heap.lt_size e
      have ho : b ∉ T0 ∨ b ∈ T0 := by by_cases z : b ∈ T0 <;> simp [z]
      have e1 : h₁.get? b = some o := S0.fs.all' (q' := q) (fun b o e => (F4.g b o e).1) _ _ e
      exact F5.keep b o (by rw [lowg, if_pos ⟨nb, lb⟩]; exact e1)) fun y hy => by
        have : y = dx + 1 := by simpa using hy
        subst this; exact ⟨_, e5⟩
    obtain ⟨H7, l7, e7, F7⟩ := F6.fix (by simp) e5
    refine wpAny_execs_nil ⟨rfl, ?_⟩
    exact kk _ H7 h3 _ F7 ⟨dx + 1, rfl, ⟨dx, e7, l7 _ _ e2⟩, hnone⟩
end Mine

end R11_

section R12_
namespace Mine
theorem CodeIs.on {h h' : Heap} {a : Addr} {nm q : Str} {l n f : Int} (k : ∀ o, h.get? a = some o → h'.get? a = some o) (x : CodeIs h a nm q l n f) : CodeIs h' a nm q l n f := by
  obtain ⟨t0, t1, t2, t3, z, x, y1, y2, y3, pl, e⟩ := x
  exact ⟨t0, t1, t2, t3, z, x, y1, y2, y3, pl, k _ e⟩
theorem CodeIs.nT {h : Heap} {a : Addr} {nm q : Str} {l n f : Int} (x : CodeIs h a nm q l n f) {P : Params} {qt : QT} {X : List Addr} {G₀ H₀ h₀ G H : Heap} (F : Fs P qt X G₀ H₀ h₀ G H h) : a ∉ T0 := by
  obtain ⟨t0, t1, t2, t3, z, x, y1, y2, y3, pl, e⟩ := x
  exact F.nT e fun l q => by simp [tab] at q
theorem FullK.on {h h' : Heap} {cK PK c1 c2 c3 c4 c5 c6 : Addr} (k : ∀ b ∈ [43, PK, cK, c1, c2, c3, c4, c5, c6], ∀ o, h.get? b = some o → h'.get? b = some o) (F : FullK h cK PK c1 c2 c3 c4 c5 c6) : FullK h' cK PK c1 c2 c3 c4 c5 c6 := by
  obtain ⟨t0, t1, t2, t3, z, x, y1, y2, y3, e⟩ := F.k
  exact ⟨k _ (by simp) _ F.t, k _ (by simp) _ F.p, ⟨t0, t1, t2, t3, z, x, y1, y2, y3, k _ (by simp) _ e⟩, F.low, F.e1.on (k _ (by simp)), F.e2.on (k _ (by simp)), F.e3.on (k _ (by simp)), F.e4.on (k _ (by simp)), F.e5.on (k _ (by simp)), F.e6.on (k _ (by simp))⟩
theorem KClass.on {h h' : Heap} {C ns m f1 f2 c c1 c2 : Addr} {P : Params} (k : ∀ b ∈ [C, ns, m, f1, f2, c1, c2], ∀ o, h.get? b = some o → h'.get? b = some o) (x : KClass h C ns m f1 f2 c c1 c2 P) : KClass h' C ns m f1 f2 c c1 c2 P := by
  obtain ⟨⟨B, tn, qn, e1⟩, ⟨q, u, md, fl, l, f3, f4, f5, f6, T, t1, t2, e2⟩, ⟨t, e3⟩, e4, ⟨ct, e5⟩, e6, e7⟩ := x
  exact ⟨⟨B, tn, qn, k _ (by simp) _ e1⟩, ⟨q, u, md, fl, l, f3, f4, f5, f6, T, t1, t2, k _ (by simp) _ e2⟩, ⟨t, k _ (by simp) _ e3⟩, k _ (by simp) _ e4, ⟨ct, k _ (by simp) _ e5⟩, e6.on (k _ (by simp)), e7.on (k _ (by simp))⟩
/-- what cmp_to_key gives -/
def Key (w : World) (H : Heap) (C : Addr) (cmp : Value) : Prop := ∃ ns m f1 f2 c c1 c2, KClass H C ns m f1 f2 c c1 c2 w.params ∧ H.get? c = some (clO cmp)
theorem ctk_call {w : World} {q : QT} {G H h : Heap} (F : Vw w.params q G H h) (cmp : Value) : Fun w q 390 (.ref 48) [cmp] G H h (fun H' v => ∃ C, v = .ref C ∧ Key w H' C cmp) := by
  intro A g d tk os Q E hA kk
  refine loosen (B := ⟨none, 410, none, none, 400⟩) ?_ hA.1 (Nat.le_trans hA.2.1 (by decide)) (Nat.le_trans hA.2.2 (by decide)) rfl rfl
  refine ck_call F.okh.K F.okh.B (fun b o e => (F.g b o e).1) F.ok.t43 fun C ns m f1 f2 c c1 c2 tk' h' T X fr ec => ?_
  have kp : ∀ b o, h.get? b = some o → b ≠ 43 → h'.get? b = some o := fun b o e n => T.kp b o e n (by simp)
  have h43 : ∀ {b}, b ∉ T0 → b ≠ 43 := fun n q => n (by rw [q]; decide)
  have fnT : ∀ b, h.get? b = none → b ∉ T0 := fun b e hb => by
    obtain ⟨l, e2⟩ := F.okh.tabs hb
    rw [e] at e2; cases e2
  have hcd : ∀ b ∈ [c1, c2], b ∉ T0 ∧ (h.get? b = none ∨ (G.get? b).isSome = true) := by
    rcases T with ⟨k2, cK, PK, c3, c4, c5, c6, FK⟩ | ⟨k2, cK, PK, c3, c4, c5, c6, FK, fr2⟩
    · have a1 : c1 ∉ T0 ∧ (G.get? c1).isSome = true := ⟨(FK.e1.grow fun b o e => (F.g b o e).1).nT F, by obtain ⟨_, _, _, _, _, _, _, _, _, _, e⟩ := FK.e1; rw [e]; rfl⟩
      have a2 : c2 ∉ T0 ∧ (G.get? c2).isSome = true := ⟨(FK.e2.grow fun b o e => (F.g b o e).1).nT F, by obtain ⟨_, _, _, _, _, _, _, _, _, _, e⟩ := FK.e2; rw [e]; rfl⟩
      intro b hb
      simp only [List.mem_cons, List.not_mem_nil, or_false] at hb
      rcases hb with rfl | rfl
      · exact ⟨a1.1, .inr a1.2⟩
      · exact ⟨a2.1, .inr a2.2⟩
    · intro b hb
      have e : h.get? b = none := fr2 b (by simp only [List.mem_cons, List.not_mem_nil, or_false] at hb ⊢; rcases hb with h | h <;> simp [h])
      exact ⟨fnT b e, .inl e⟩
  -- the facts that stay
  have hH : ∃ H', H' = res h' fun b => (H.get? b).isSome || (decide (b ∉ T0) && ((h.get? b).isNone || (G.get? b).isSome)) := ⟨_, rfl⟩
  obtain ⟨H', eH⟩ := hH
  have inH : ∀ b o, b ∉ T0 → (h.get? b = none ∨ (G.get? b).isSome = true) → h'.get? b = some o → H'.get? b = some o := fun b o n hb e => by
    rw [eH, res_get, if_pos, e]
    rcases hb with hb | hb <;> simp [n, hb]
  have leH : Le H H' := fun b o e => by
    rw [eH, res_get, if_pos (by simp [e])]
    exact kp _ _ (F.sub _ _ e) (h43 (F.at' _ _ e).2.2.1)
  have atH : ∀ b o, H'.get? b = some o → h'.get? b = some o ∧ b ∉ ([] : List Addr) ∧ b ∉ T0 ∧ (H.get? b = some o ∨ h.get? b = none ∨ G.get? b = some o) := fun b o e => by
    rw [eH, res_get] at e
    split at e
    · rename_i hp
      simp only [Bool.or_eq_true, Bool.and_eq_true, decide_eq_true_eq] at hp
      have nT : b ∉ T0 := by
        rcases hp with hp | hp
        · obtain ⟨o', e'⟩ := Option.isSome_iff_exists.mp hp
          exact (F.at' _ _ e').2.2.1
        · exact hp.1
      refine ⟨e, by simp, nT, ?_⟩
      rcases hp with hp | ⟨_, hp | hp⟩
      · obtain ⟨o', e'⟩ := Option.isSome_iff_exists.mp hp
        have := kp _ _ (F.sub _ _ e') (h43 nT)
        rw [e] at this; cases this
        exact .inl e'
      · exact .inr (.inl (by simpa using hp))
      · obtain ⟨o', e'⟩ := Option.isSome_iff_exists.mp hp
        have := kp _ _ (F.g _ _ e').1 (h43 nT)
        rw [e] at this; cases this
        exact .inr (.inr e')
    · cases e
  have key : Key w H' C cmp := by
    refine ⟨ns, m, f1, f2, c, c1, c2, X.on fun b hb o e => ?_, ?_⟩
    · have : b ∈ [C, ns, m, f1, f2, c] ∨ b ∈ [c1, c2] := by simp only [List.mem_cons, List.not_mem_nil, or_false] at hb ⊢; rcases hb with h | h | h | h | h | h | h <;> simp [h]
      rcases this with hb | hb
      · exact inH b o (fnT b (fr b hb)) (.inl (fr b hb)) e
      · exact inH b o (hcd b hb).1 (hcd b hb).2 e
    · exact inH c _ (fnT c (fr c (by simp))) (.inl (fr c (by simp))) ec
  rcases T with ⟨k2, _⟩ | ⟨k2, cK, PK, c3, c4, c5, c6, FK, fr2⟩
  · refine kk _ G H' h' tk' ⟨F.ok, fun b o e => ⟨k2 b o (F.g b o e).1 (by simp), by simp, .inl e⟩, leH, atH, fun b o n e => kp b o e (h43 n), fun _ hx => absurd hx (by simp), F.tt⟩ ⟨C, rfl, key⟩
  · have hG : ∃ G', G' = res h' fun b => (G.get? b).isSome || (h.get? b).isNone := ⟨_, rfl⟩
    obtain ⟨G', eG⟩ := hG
    have k43 : ∀ b o, G.get? b = some o → b ≠ 43 → G'.get? b = some o := fun b o e n => by
      rw [eG, res_get, if_pos (by simp [e])]
      exact kp _ _ (F.g _ _ e).1 n
    have inG : ∀ b o, h.get? b = none ∨ b = 43 → h'.get? b = some o → G'.get? b = some o := fun b o n e => by
      rw [eG, res_get, if_pos, e]
      rcases n with n | rfl
      · simp [n]
      · obtain ⟨l, e2⟩ := F.ok.tabs (b := 43) (by decide)
        simp [e2]
    have ok : Ok w.params q G' := by
      refine ⟨fun b o e => k43 b o (F.ok.K b o e) (k1_dom e).2.1, ⟨let ⟨sl, e⟩ := F.ok.B.m4; ⟨sl, k43 4 _ e (by decide)⟩, let ⟨mb, ⟨o, es, ep, e, r⟩, r2⟩ := F.ok.B.b0; ⟨mb, ⟨o, es, ep, k43 0 _ e (by decide), r⟩, r2⟩⟩, .inr ⟨cK, PK, c1, c2, c3, c4, c5, c6, FK.on fun b hb o e => inG b o ?_ e⟩, k43 _ _ F.ok.t59 (by decide), ?_, k43 _ _ F.ok.t90 (by decide)⟩
      · rcases List.mem_cons.mp hb with rfl | hb
        · exact .inr rfl
        · exact .inl (fr2 b hb)
      · rcases F.ok.t83 with e | ⟨c, e, d, l⟩
        · exact .inl (k43 _ _ e (by decide))
        · exact .inr ⟨c, k43 _ _ e (by decide), let ⟨c₂, o, vs, t, e1, e2, r⟩ := d; ⟨c₂, o, vs, t, e1, k43 _ _ e2 (fun q => by cases e1; rw [q] at l; exact absurd l (by decide)), r⟩, l⟩
    refine kk _ G' H' h' tk' ⟨ok, fun b o e => ?_, leH, atH, fun b o n e => kp b o e (h43 n), fun _ hx => absurd hx (by simp), F.tt⟩ ⟨C, rfl, key⟩
    rw [eG, res_get] at e
    split at e
    · rename_i hp
      refine ⟨e, by simp, ?_⟩
      simp only [Bool.or_eq_true] at hp
      rcases hp with hp | hp
      · obtain ⟨o', e'⟩ := Option.isSome_iff_exists.mp hp
        by_cases q : b = 43
        · subst q; exact .inr (.inr (by decide))
        · have := kp _ _ (F.g _ _ e').1 q
          rw [e] at this; cases this
          exact .inl e'
      · exact .inr (.inl (by simpa using hp))
    · cases e
end Mine

end R12_

section R13_
open PySem.Calls
namespace Mine
/-- the head of a code object that makes codes -/
def hdOk (vs : Array Value) (T : Addr) : Bool := (vs[11]? == some (.ref T)) && (match vs.getD 18 .none, vs.getD 7 .none, vs.getD 9 .none, vs.getD 10 .none with
  | .str .., .int .., .bool .., .int .. => true
  | _, _, _, _ => false)
theorem codeHd {P : Params} {h : Heap} {c T : Addr} (hK : (K1 P).In h) (e : (K1 P).lookup c = some ⟨.type "code", none, .fields (vsOf P c), #[]⟩) (ok : hdOk (vsOf P c) T = true) (e11 : (vsOf P c)[11]? = some (.ref T)) (ne : c ≠ T) : CodeHd h c T := by
  unfold hdOk at ok
  rw [Bool.and_eq_true] at ok
  obtain ⟨_, ok⟩ := ok
  split at ok
  · rename_i a b c' d _ e1 e2 e3 e4
    exact ⟨_, vsOf P c, _, _, _, _, _, _, _, hK _ _ e, rfl, rfl, e11, by rw [Array.getD_eq_getD_getElem?, e11]; rfl, e1, e2, e3, e4, ne⟩
  · cases ok
theorem hd63 {P : Params} {h : Heap} (hK : (K1 P).In h) : CodeHd h 63 59 := codeHd hK (by kernel_rfl!) (by kernel_rfl!) (by kernel_rfl!) (by decide)
theorem hd87 {P : Params} {h : Heap} (hK : (K1 P).In h) : CodeHd h 87 83 := codeHd hK (by kernel_rfl!) (by kernel_rfl!) (by kernel_rfl!) (by decide)
theorem hd92 {P : Params} {h : Heap} (hK : (K1 P).In h) : CodeHd h 92 90 := codeHd hK (by kernel_rfl!) (by kernel_rfl!) (by kernel_rfl!) (by decide)
noncomputable def pmV (P : Params) : Value := match nsLook "__name__" (ob P 3) with
  | .pure (some v) => v
  | _ => .none
theorem pm_eq (P : Params) : nsLook "__name__" (ob P 3) = pure (some (pmV P)) := by kernel_rfl!
theorem k1_but {P : Params} {h h' : Heap} {T : Addr} (hT : T ∈ T0) (hK : (K1 P).In h) (k : Heap.ExtBut T h h') : (K1 P).In h' := fun b o e => k b o (fun q => by
  have := k1_dom e
  subst q
  simp only [T0, List.mem_cons, List.not_mem_nil, or_false] at hT
  rcases hT with rfl | rfl | rfl | rfl <;> simp at this) (hK b o e)
abbrev lamO (params : Arguments) (body : PySem.Expr) (scope : Scope) (pos : Pos) (q : Str) (clo : List (Str × Addr)) (c : Addr) (ct pm : Value) : Obj := ⟨.type "function", none, .func (fdL (.Lambda params body scope pos) q clo c ct pm), #[]⟩
section
variable {w : World} {A : Around} {E : Value → Shared → Prop} {h : Heap} {g : Array GenState} {d : Drawn} {tk : Nat} {os : OsState} {qual : Str} {params : Arguments} {body : PySem.Expr} {scope : Scope} {pos : Pos} {firstLine : Nat} {env : Env} {clos : List (Str × Addr)} {c T : Addr} {ps : Array Value} {Q : Value → Shared → Prop}
theorem bfor (hK : (K1 w.params).In h) {sl : Array (Option Value)} (e4 : h.get? 4 = some (md sl)) {Q : Addr → Shared → Prop} (k : Q 0 ⟨h, g, d, tk, os⟩) : wpAny (model pg w) A (builtinsFor 3 0) Q E ⟨h, g, d, tk, os⟩ :=
  rd [_, _] 0 [3, 4] (by kernel_rfl!) ⟨hK 3 _ rfl, e4, trivial⟩ k
theorem mkTail (hK : (K1 w.params).In h) (hB : Bt h) (hT : T ∈ T0) (hcl : closureFor scope env = pure clos) (hge : env.globals = 3) (hbe : env.builtins = 0) (hcode : env.code = .ref c) (C : CodeHd h c T) (hP : h.get? T = some (tabObj ps)) (ht : TriplesOk ps.toList)
    (hnf : codeAmong pos ps.toList = none)
    (k : ∀ c' ct h' tk', Heap.ExtBut T h h' → h.objs.size ≤ c' → c' < h'.objs.size → h'.CodeRec (.ref c') qual → h'.get? T = some (tabObj (ps ++ #[rawInt pos.line, rawInt pos.col, .ref c'])) →
      Q (.ref h'.objs.size) ⟨h'.push (lamO params body scope pos qual clos c' ct (pmV w.params)), g, d, tk', os⟩) :
    wpAny (model pg w) A (makeTail "<lambda>" qual params (.expr body) scope env .none .none none pos firstLine) Q E ⟨h, g, d, tk, os⟩ := by
  obtain ⟨sl, e4⟩ := hB.m4
  have n4 : (4 : Addr) ≠ T := fun q => by subst q; revert hT; decide
  unfold makeTail
  rw [hcl, hge, hbe]
  refine wpAny_bind (wpAny_pure ?_)
  cases clos with
  | nil =>
    simp only [List.isEmpty_nil, if_true]
    refine wpAny_bind (wpAny_pure ?_)
    refine wpAny_bind (wpAny_functionCodeX hcode (C.code hP ht) (C.tab hP) hnf fun c' h' tk hx hge hlt _ hrec htb _ => ?_)
    have K' := k1_but hT hK hx
    refine wpAny_bind (bfor K' (hx _ _ n4 e4) ?_)
    unfold nsGet
    refine wpAny_bind (wpAny_bind (wpAny_loadPart (K' 3 _ (ob3 _)) ?_))
    rw [pm_eq]
    exact wpAny_pure (wpAny_bind (wpAny_pure (wpAny_newObj_type (k c' .none h' tk hx hge hlt hrec htb.2) (by size_fits))))
  | cons q r =>
    simp only [List.isEmpty_cons, Bool.false_eq_true, if_false]
    refine wpAny_bind (wpAny_newTextTuple ?_)
    refine wpAny_bind (wpAny_functionCodeX hcode ((C.keeps fun b o e => Heap.get?_push_of_some _ e).code (Heap.get?_push_of_some _ hP) ht) ((C.keeps fun b o e => Heap.get?_push_of_some _ e).tab (Heap.get?_push_of_some _ hP)) hnf fun c' h' tk hx hge hlt _ hrec htb _ => ?_)
    have hx' : Heap.ExtBut T h h' := fun b o hb' e => hx b o hb' (Heap.get?_push_of_some _ e)
    have hge' : h.objs.size ≤ c' := by
      have h2 : h.objs.size + 1 ≤ c' := by rw [← Heap.size_push]; exact hge
      exact Nat.le_trans (Nat.le_succ _) h2
    have K' := k1_but hT hK hx'
    refine wpAny_bind (bfor K' (hx' _ _ n4 e4) ?_)
    unfold nsGet
    refine wpAny_bind (wpAny_bind (wpAny_loadPart (K' 3 _ (ob3 _)) ?_))
    rw [pm_eq]
    exact wpAny_pure (wpAny_bind (wpAny_pure (wpAny_newObj_type (k c' _ h' tk hx' hge' hlt hrec htb.2) (by size_fits))))
theorem mkTailHit {cv : Addr} (hK : (K1 w.params).In h) (hB : Bt h) (hcl : closureFor scope env = pure clos) (hge : env.globals = 3) (hbe : env.builtins = 0) (hcode : env.code = .ref c) (C : CodeHd h c T) (hP : h.get? T = some (tabObj ps)) (ht : TriplesOk ps.toList)
    (hf : codeAmong pos ps.toList = some (.ref cv))
    (k : ∀ ct h' tk', Le h h' → h.objs.size ≤ h'.objs.size → Q (.ref h'.objs.size) ⟨h'.push (lamO params body scope pos qual clos cv ct (pmV w.params)), g, d, tk', os⟩) :
    wpAny (model pg w) A (makeTail "<lambda>" qual params (.expr body) scope env .none .none none pos firstLine) Q E ⟨h, g, d, tk, os⟩ := by
  obtain ⟨sl, e4⟩ := hB.m4
  unfold makeTail
  rw [hcl, hge, hbe]
  refine wpAny_bind (wpAny_pure ?_)
  cases clos with
  | nil =>
    simp only [List.isEmpty_nil, if_true]
    refine wpAny_bind (wpAny_pure ?_)
    refine wpAny_bind (wpAny_functionCode_hit hcode (C.code hP ht) hf ?_)
    refine wpAny_bind (bfor hK e4 ?_)
    unfold nsGet
    refine wpAny_bind (wpAny_bind (wpAny_loadPart (hK 3 _ (ob3 _)) ?_))
    rw [pm_eq]
    exact wpAny_pure (wpAny_bind (wpAny_pure (wpAny_newObj_type (k .none h tk (fun _ _ e => e) (Nat.le_refl _)) (by size_fits))))
  | cons q r =>
    simp only [List.isEmpty_cons, Bool.false_eq_true, if_false]
    refine wpAny_bind (wpAny_newTextTuple ?_)
    have l1 : Le h (h.push { cls := .type "tuple", data := .seq (((q :: r).mergeSort fun a b => decide (a.1.cps.toList ≤ b.1.cps.toList)).map (.ref ·.2)).toArray }) := fun b o e => Heap.get?_push_of_some _ e
    refine wpAny_bind (wpAny_functionCode_hit hcode ((C.keeps l1).code (l1 _ _ hP) ht) hf ?_)
    have K' : (K1 w.params).In _ := fun b o e => l1 b o (hK b o e)
    refine wpAny_bind (bfor K' (l1 _ _ e4) ?_)
    unfold nsGet
    refine wpAny_bind (wpAny_bind (wpAny_loadPart (K' 3 _ (ob3 _)) ?_))
    rw [pm_eq]
    exact wpAny_pure (wpAny_bind (wpAny_pure (wpAny_newObj_type (k _ _ tk l1 (by rw [Heap.size_push]; lia)) (by size_fits))))
/-- everything new stays -/
theorem fsFresh {P : Params} {q : QT} {G H h h' : Heap} (F : Vw P q G H h) (k : Le h h') : ∃ H', Fs P q [] G H h G H' h' ∧ ∀ b o, h.get? b = none → h'.get? b = some o → H'.get? b = some o := by
  refine ⟨res h' fun b => (H.get? b).isSome || (h.get? b).isNone, ⟨F.ok, fun b o e => ⟨k _ _ (F.g b o e).1, by simp, .inl e⟩, fun b o e => ?_, fun b o e => ?_, fun b o _ e => k _ _ e, fun _ hx => absurd hx (by simp), F.tt⟩, fun b o n e => ?_⟩
  · rw [res_get, if_pos (by simp [e])]; exact k _ _ (F.sub _ _ e)
  · rw [res_get] at e
    split at e
    · rename_i hp
      rcases (Bool.or_eq_true _ _).mp hp with hp | hp
      · obtain ⟨o', e'⟩ := Option.isSome_iff_exists.mp hp
        have := k _ _ (F.sub _ _ e')
        rw [e] at this; cases this
        exact ⟨e, by simp, (F.at' _ _ e').2.2.1, .inl e'⟩
      · have hn : h.get? b = none := by simpa using hp
        refine ⟨e, by simp, fun hb => ?_, .inr (.inl hn)⟩
        obtain ⟨l, e2⟩ := F.okh.tabs hb
        rw [hn] at e2; cases e2
    · cases e
  · rw [res_get, if_pos (by simp [n])]; exact e
/-- a table that grows, and everything new stays -/
theorem fsTab {P : Params} {q q' : QT} {G H h h' : Heap} {T : Addr} {l' : List Value} (F : Vw P q G H h) (hT : T ∈ T0) (k : Heap.ExtBut T h h') (e : h'.get? T = some (tab l'))
    (ok : ∀ G', (∀ b o, b ≠ T → G.get? b = some o → G'.get? b = some o) → G'.get? T = some (tab l') → (∀ b o, h.get? b = none → h'.get? b = some o → G'.get? b = some o) → Ok P q' G') :
    ∃ G' H', Fs P q' [] G H h G' H' h' ∧ ∀ b o, h.get? b = none → h'.get? b = some o → H'.get? b = some o := by
  have nT : ∀ b, b ∉ T0 → b ≠ T := fun b n q => n (q ▸ hT)
  have fnT : ∀ b, h.get? b = none → b ∉ T0 := fun b e hb => by
    obtain ⟨l, e2⟩ := F.okh.tabs hb
    rw [e] at e2; cases e2
  refine ⟨res h' fun b => (G.get? b).isSome || (h.get? b).isNone, res h' fun b => (H.get? b).isSome || (h.get? b).isNone, ⟨ok _ (fun b o n e2 => ?_) ?_ fun b o n e2 => ?_, fun b o e2 => ?_, fun b o e2 => ?_, fun b o e2 => ?_, fun b o n e2 => k _ _ (nT b n) e2, fun _ hx => absurd hx (by simp), F.tt⟩, fun b o n e2 => ?_⟩
  · rw [res_get, if_pos (by simp [e2])]; exact k _ _ n (F.g _ _ e2).1
  · obtain ⟨l, e2⟩ := F.ok.tabs hT
    rw [res_get, if_pos (by simp [e2])]; exact e
  · rw [res_get, if_pos (by simp [n])]; exact e2
  · rw [res_get] at e2
    split at e2
    · rename_i hp
      refine ⟨e2, by simp, ?_⟩
      rcases (Bool.or_eq_true _ _).mp hp with hp | hp
      · obtain ⟨o', e'⟩ := Option.isSome_iff_exists.mp hp
        by_cases q : b = T
        · subst q; exact .inr (.inr hT)
        · have := k _ _ q (F.g _ _ e').1
          rw [e2] at this; cases this
          exact .inl e'
      · exact .inr (.inl (by simpa using hp))
    · cases e2
  · rw [res_get, if_pos (by simp [e2])]; exact k _ _ (nT _ (F.at' _ _ e2).2.2.1) (F.sub _ _ e2)
  · rw [res_get] at e2
    split at e2
    · rename_i hp
      rcases (Bool.or_eq_true _ _).mp hp with hp | hp
      · obtain ⟨o', e'⟩ := Option.isSome_iff_exists.mp hp
        have := k _ _ (nT _ (F.at' _ _ e').2.2.1) (F.sub _ _ e')
        rw [e2] at this; cases this
        exact ⟨e2, by simp, (F.at' _ _ e').2.2.1, .inl e'⟩
      · have hn : h.get? b = none := by simpa using hp
        exact ⟨e2, by simp, fnT b hn, .inr (.inl hn)⟩
    · cases e2
  · rw [res_get, if_pos (by simp [n])]; exact e2
section
variable {P : Params} {q : QT} {q' : Addr → QT} {X : List Addr} {Z : List (Addr × Obj)} {N : List (Str × NameKind)} {L : Addr} {cl : List (Str × Addr)} {G₀ H₀ h₀ G H : Heap} {m cm : Str → Option Value}
/-- a lambda whose code is new -/
theorem lamNew {l : List Value} {qn : Str} (F : S w.params q X Z N L cl env G₀ H₀ h₀ m cm G H h) (T : Addr) (C : CodeHd h c T) (hcode : env.code = .ref c) (hqn : env.qual = qn) (eT : G.get? T = some (tab l))
    (hcl : closureFor scope (cE cl) = pure clos) (hn : codeAmong pos l = none) (ht : TriplesOk l) (hT : T ∈ T0)
    (ok : ∀ G' c', h.objs.size ≤ c' → (∀ b o, b ≠ T → G.get? b = some o → G'.get? b = some o) → G'.get? T = some (tab (l ++ [rawInt pos.line, rawInt pos.col, .ref c'])) → G'.CodeRec (.ref c') (qn ++ "<lambda>") → Ok w.params (q' c') G')
    (k : ∀ f c' ct G' H' h' tk', S w.params (q' c') X Z N L cl env G₀ H₀ h₀ m cm G' H' h' → Le H H' → H'.get? f = some (lamO params body scope pos (qn ++ "<lambda>") clos c' ct (pmV w.params)) → H'.CodeRec (.ref c') (qn ++ "<lambda>") → Q (.ref f) ⟨h', g, d, tk', os⟩)
    (hdef : defaultsOf params env = ([], []) := by rfl) :
    wpAny (model pg w) A (eval (.Lambda params body scope pos) env) Q E ⟨h, g, d, tk, os⟩ := by
  refine kla_eval hdef ?_
  rw [makeFunction_eq]
  simp only [List.zip_nil_right, List.filterMap_nil, List.isEmpty_nil, if_true, pure_bind]
  refine mkTail (T := T) (ps := l.toArray) (c := c) F.fs.okh.K F.fs.okh.B hT ((closureFor_congr (by rw [F.en.cs]; rfl)).trans hcl) F.en.gl F.en.bl hcode C (F.fs.g _ _ eT).1 (by simpa using ht) (by simpa using hn) fun c' ct h' tk' hx hge hlt hrec htb => ?_
  rw [hqn] at hrec ⊢
  obtain ⟨c₂, oc, vs, t, ec, hoc, hd, hv⟩ := hrec
  cases ec
  have hx2 : Heap.ExtBut T h (h'.push (lamO params body scope pos (qn ++ "<lambda>") clos c' ct (pmV w.params))) := fun b o n e => Heap.get?_push_of_some _ (hx b o n e)
  have lt : h.objs.size ≤ h'.objs.size := Nat.le_of_lt (Nat.lt_of_le_of_lt hge hlt)
  have nc : h.get? c' = none := Heap.get?_none_of_le hge
  have etb : (h'.push (lamO params body scope pos (qn ++ "<lambda>") clos c' ct (pmV w.params))).get? T = some (tab (l ++ [rawInt pos.line, rawInt pos.col, .ref c'])) := by
    rw [Heap.get?_push_of_some _ htb]; simp [tab, tabObj]
  obtain ⟨G', H', F', hf⟩ := fsTab F.fs.vw hT hx2 etb fun G' k1 k2 k3 => ok G' c' hge k1 k2 ⟨c', oc, vs, t, rfl, k3 _ _ nc (Heap.get?_push_of_some _ hoc), hd, hv⟩
  exact k _ c' ct G' H' _ tk' (F.trans F') F'.le (hf _ _ (Heap.get?_none_of_le lt) (Heap.get?_push_size _ rfl)) ⟨c', oc, vs, t, rfl, hf _ _ nc (Heap.get?_push_of_some _ hoc), hd, hv⟩
/-- a lambda whose code is there -/
theorem lamHit {l : List Value} {qn : Str} (F : S w.params q X Z N L cl env G₀ H₀ h₀ m cm G H h) (T : Addr) (cv : Addr) (C : CodeHd h c T) (hcode : env.code = .ref c) (hqn : env.qual = qn) (eT : G.get? T = some (tab l))
    (hcl : closureFor scope (cE cl) = pure clos) (hn : codeAmong pos l = some (.ref cv)) (ht : TriplesOk l)
    (k : ∀ f ct H' h' tk', S w.params q X Z N L cl env G₀ H₀ h₀ m cm G H' h' → Le H H' → H'.get? f = some (lamO params body scope pos (qn ++ "<lambda>") clos cv ct (pmV w.params)) → Q (.ref f) ⟨h', g, d, tk', os⟩)
    (hdef : defaultsOf params env = ([], []) := by rfl) :
    wpAny (model pg w) A (eval (.Lambda params body scope pos) env) Q E ⟨h, g, d, tk, os⟩ := by
  refine kla_eval hdef ?_
  rw [makeFunction_eq]
  simp only [List.zip_nil_right, List.filterMap_nil, List.isEmpty_nil, if_true, pure_bind]
  refine mkTailHit (T := T) (ps := l.toArray) (c := c) (cv := cv) F.fs.okh.K F.fs.okh.B ((closureFor_congr (by rw [F.en.cs]; rfl)).trans hcl) F.en.gl F.en.bl hcode C (F.fs.g _ _ eT).1 (by simpa using ht) (by simpa using hn) fun ct h' tk' le lt => ?_
  rw [hqn]
  obtain ⟨H', F', hf⟩ := fsFresh F.fs.vw (h' := h'.push (lamO params body scope pos (qn ++ "<lambda>") clos cv ct (pmV w.params))) fun b o e => Heap.get?_push_of_some _ (le _ _ e)
  exact k _ ct H' _ tk' (F.trans F') F'.le (hf _ _ (Heap.get?_none_of_le lt) (Heap.get?_push_size _ rfl))
end
end
/-- the tables as they grow -/
theorem CodeIs.neT {h : Heap} {a T : Addr} {nm q : Str} {l n f : Int} {tb : List Value} (x : CodeIs h a nm q l n f) (e : h.get? T = some (tab tb)) : a ≠ T := by
  obtain ⟨t0, t1, t2, t3, z, x, y1, y2, y3, pl, e1⟩ := x
  rintro rfl
  rw [e] at e1
  simp [tab] at e1
theorem TabK.put {G G' : Heap} {T : Addr} {tb : List Value} (hT : T < 94) (n43 : T ≠ 43) (eT : G.get? T = some (tab tb)) (x : TabK G) (k : ∀ b o, b ≠ T → G.get? b = some o → G'.get? b = some o) : TabK G' := by
  rcases x with e | ⟨cK, PK, c1, c2, c3, c4, c5, c6, F⟩
  · exact .inl (k _ _ n43.symm e)
  · refine .inr ⟨cK, PK, c1, c2, c3, c4, c5, c6, F.on fun b hb o e => k b o ?_ e⟩
    have up : ∀ a, 94 ≤ a → a ≠ T := fun a h q => absurd hT (Nat.not_lt.mpr (q ▸ h))
    simp only [List.mem_cons, List.not_mem_nil, or_false] at hb
    rcases hb with rfl | rfl | rfl | rfl | rfl | rfl | rfl | rfl | rfl
    · exact n43.symm
    · exact up _ F.low.1
    · exact up _ F.low.2.1
    · exact F.e1.neT eT
    · exact F.e2.neT eT
    · exact F.e3.neT eT
    · exact F.e4.neT eT
    · exact F.e5.neT eT
    · exact F.e6.neT eT
theorem Tab83.put {G G' : Heap} {T : Addr} (hT : T < 94) (n83 : T ≠ 83) (x : Tab83 G) (k : ∀ b o, b ≠ T → G.get? b = some o → G'.get? b = some o) : Tab83 G' := by
  rcases x with e | ⟨c, e, ⟨c₂, o, vs, t, e1, e2, r⟩, l⟩
  · exact .inl (k _ _ n83.symm e)
  · exact .inr ⟨c, k _ _ n83.symm e, ⟨c₂, o, vs, t, e1, k _ _ (fun q => by cases e1; rw [q] at l; exact absurd hT (Nat.not_lt.mpr l)) e2, r⟩, l⟩
theorem Bt.put {G G' : Heap} {T : Addr} (n4 : T ≠ 4) (n0 : T ≠ 0) (x : Bt G) (k : ∀ b o, b ≠ T → G.get? b = some o → G'.get? b = some o) : Bt G' :=
  ⟨let ⟨sl, e⟩ := x.m4; ⟨sl, k 4 _ n4.symm e⟩, let ⟨mb, ⟨o, es, ep, e, r⟩, r2⟩ := x.b0; ⟨mb, ⟨o, es, ep, k 0 _ n0.symm e, r⟩, r2⟩⟩
theorem Ok.put59 {P : Params} {q : QT} {G G' : Heap} {l : List Value} (x : Ok P q G) (k : ∀ b o, b ≠ 59 → G.get? b = some o → G'.get? b = some o) (e : G'.get? 59 = some (tab l)) : Ok P (l, q.2) G' :=
  ⟨fun b o e => k b o (k1_dom e).2.2.1 (x.K b o e), x.B.put (by decide) (by decide) k, x.t43.put (by decide) (by decide) x.t59 k, e, x.t83.put (by decide) (by decide) k, k _ _ (by decide) x.t90⟩
theorem Ok.put90 {P : Params} {q : QT} {G G' : Heap} {l : List Value} (x : Ok P q G) (k : ∀ b o, b ≠ 90 → G.get? b = some o → G'.get? b = some o) (e : G'.get? 90 = some (tab l)) : Ok P (q.1, l) G' :=
  ⟨fun b o e => k b o (k1_dom e).2.2.2.2 (x.K b o e), x.B.put (by decide) (by decide) k, x.t43.put (by decide) (by decide) x.t90 k, k _ _ (by decide) x.t59, x.t83.put (by decide) (by decide) k, e⟩
theorem Ok.put83 {P : Params} {q : QT} {G G' : Heap} {c : Addr} (x : Ok P q G) (e0 : G.get? 83 = some (tab [])) (k : ∀ b o, b ≠ 83 → G.get? b = some o → G'.get? b = some o) (e : G'.get? 83 = some (tab [rawInt 81, rawInt farCol, .ref c]))
    (hc : G'.CodeRec (.ref c) (Str.ofString "_law_far.<locals>.<lambda>")) (l : 94 ≤ c) : Ok P q G' :=
  ⟨fun b o e => k b o (k1_dom e).2.2.2.1 (x.K b o e), x.B.put (by decide) (by decide) k, x.t43.put (by decide) (by decide) e0 k, k _ _ (by decide) x.t59, .inr ⟨c, e, hc, l⟩, k _ _ (by decide) x.t90⟩
end Mine

end R13_

section R14_
namespace Mine
theorem fn64 (P : Params) : (K1 P).lookup 64 = some ⟨.type "function", none, .func (fnOf P 64), #[]⟩ := by kernel_rfl!
theorem top64 (P : Params) : isTop P 64 = true := by kernel_rfl!
theorem body64 (P : Params) : (fnOf P 64).body = .stmts (pBody 9) := by kernel_rfl!
theorem code64 (P : Params) : (fnOf P 64).code = .ref 63 := by kernel_rfl!
abbrev qM : Str := Str.ofString "_law_marks.<locals>."
set_option maxHeartbeats 2000000 in
theorem marks_call {w : World} {A : Around} {E : Value → Shared → Prop} {q2 : List Value} {G H h : Heap} {g : Array GenState} {d : Drawn} {tk : Nat} {os : OsState} {Q : Value → Shared → Prop} (F : Vw w.params ([], q2) G H h) (tot : Int) (tt : Tok) (hA : Ar A 390)
    (k : ∀ l p0 p1 p2 q1 G' H' h' tk', Fs w.params (q1, q2) [] G H h G' H' h' → H'.IsList l #[.ref p0, .ref p1, .ref p2] → Mark w H' p0 (fun x => absF (x - tot.fmod 10)) → Mark w H' p1 (fun x => x.fmod 5) → Mark w H' p2 (fun x => 0 - x) → Q (.ref l) ⟨h', g, d, tk', os⟩) :
    wpAny (model pg w) A (call (.ref 64) [.int tot tt]) Q E ⟨h, g, d, tk, os⟩ := by
  refine enter (fun L => [L + 1]) (binds := [(Str.ofString "total", .int tot tt)]) (body := pBody 9) F hA (by decide) (F.okh.K 64 _ (fn64 _)) (isTop.rec (top64 _) F.okh.K) (body64 _) (by kernel_rfl!) (by kernel_rfl!) ?_ ?_ (by kernel_rfl!) (by kernel_rfl!) (by kernel_rfl!) (by kernel_rfl!) (by kernel_rfl!) ?_
  · intro x hx; rw [List.mem_singleton] at hx; subst hx; exact .inr ⟨by kernel_rfl!, by kernel_rfl!⟩
  · intro L y hy; rw [List.mem_singleton] at hy; subst hy; exact ⟨Str.ofString "total", by kernel_rfl!⟩
  intro L h₁ tk₁ E' env A' henv S0 hA' hL
  have hcode : env.code = .ref 63 := by rw [henv]; exact code64 w.params
  have hqn : env.qual = qM := by rw [henv]; kernel_rfl!
  clear henv
  obtain ⟨hcell, hcT⟩ := S0.cell (Str.ofString "total") (L + 1) (by rw [S0.en.cs]; kernel_rfl!)
  have hcell : h₁.IsCell (L + 1) (some (.int tot tt)) := hcell
  refine wpAny_execs_cons (wpAny_Return_some (wpAny_List (args_cons ?_)))
  refine lamNew (qn := qM) (q' := fun c => ([rawInt 61, rawInt 0, .ref c], q2)) S0 59 (hd63 S0.fs.okh.K) hcode hqn S0.fs.ok.t59 (clos := [(Str.ofString "total", L + 1)]) (by kernel_rfl!) (by kernel_rfl!) trivial (by decide) (fun G' c' _ k1 k2 _ => S0.fs.ok.put59 k1 k2) ?_ (by kernel_rfl!)
  intro p0 c0 ct0 G1 H1 h1 tk1 S1 l1 e1 r1
  refine args_cons ?_
  refine lamNew (qn := qM) (q' := fun c => ([rawInt 61, rawInt 0, .ref c0, rawInt 62, rawInt 0, .ref c], q2)) S1 59 (hd63 S1.fs.okh.K) hcode hqn S1.fs.ok.t59 (clos := []) (by kernel_rfl!) (by kernel_rfl!) trivial (by decide) (fun G' c' _ k1 k2 _ => S1.fs.ok.put59 k1 k2) ?_ (by kernel_rfl!)
  intro p1 c1 ct1 G2 H2 h2 tk2 S2 l2 e2 r2
  refine args_cons ?_
  refine lamNew (qn := qM) (q' := fun c => ([rawInt 61, rawInt 0, .ref c0, rawInt 62, rawInt 0, .ref c1, rawInt 63, rawInt 0, .ref c], q2)) S2 59 (hd63 S2.fs.okh.K) hcode hqn S2.fs.ok.t59 (clos := []) (by kernel_rfl!) (by kernel_rfl!) trivial (by decide) (fun G' c' _ k1 k2 _ => S2.fs.ok.put59 k1 k2) ?_ (by kernel_rfl!)
  intro p2 c2 ct2 G3 H3 h3 tk3 S3 l3 e3 r3
  refine args_nil ⟨by rw [sizeLine_eq]; simp, ?_⟩
  refine newL S3 fun r H4 h4 S4 l4 e4 => ?_
  have hc4 := (S4.cell (Str.ofString "total") (L + 1) (by rw [S4.en.cs]; kernel_rfl!)).1
  have hc4 : h4.IsCell (L + 1) (some (.int tot tt)) := hc4
  have F5 := S4.fs.shrink (X' := [L + 1]) (by simp)
  obtain ⟨oc, eoc, dc⟩ := hc4
  obtain ⟨H5, l5, e5, F6⟩ := F5.fix (by simp) eoc
  refine k r p0 p1 p2 _ _ H5 _ _ F6.drop (lmono l5 (isL e4)) (mark0 (l5 _ _ (l4 _ _ (l3 _ _ (l2 _ _ e1)))) ?_ ⟨oc, e5, dc⟩) (mark1 (l5 _ _ (l4 _ _ (l3 _ _ e2))) ?_) (mark2 (l5 _ _ (l4 _ _ e3)) ?_)
  · exact (((r1.keeps l2).keeps l3).keeps l4).keeps l5
  · exact ((r2.keeps l3).keeps l4).keeps l5
  · exact (r3.keeps l4).keeps l5
end Mine

end R14_

section R15_
open PySem.Calls
namespace Mine
section
variable {w : World} {A : Around} {q : QT} {X : List Addr} {Z : List (Addr × Obj)} {N : List (Str × NameKind)} {L : Addr} {cls : List (Str × Addr)} {env : Env} {G₀ H₀ h₀ G H h : Heap} {m cm : Str → Option Value} {g : Array GenState} {d : Drawn} {tk : Nat} {os : OsState} {E : Value → Shared → Prop}
theorem iterL {ax : Addr} {vs : List Value} {Q : Value → Shared → Prop} (F : S w.params q X Z N L cls env G₀ H₀ h₀ m cm G H h) (hl : H.IsList ax vs.toArray)
    (k : ∀ I o h', S w.params q X ((I, o) :: Z) N L cls env G₀ H₀ h₀ m cm G H h' → h'.IsListIter I ax 0 → (∀ p ∈ Z, p.1 ≠ I) → Q (.ref I) ⟨h', g, d, tk, os⟩) :
    wpAny (model pg w) A (call (.builtin "iter") [.ref ax]) Q E ⟨h, g, d, tk, os⟩ := by
  have hl' := lmono F.sub hl
  refine call_function_entry (by decide +kernel) (by decide +kernel) kdk_entry_iter (kdk_args_iter _) ?_
  unfold Builtin.«iter»
  refine wpAny_bind (m := someArgs "iter" 1 2 _) (wpAny_of_eq (a := [Value.ref ax]) (by first | rfl | kernel_rfl!) ?_)
  show wpAny _ _ (pyIter (.ref ax) >>= _) _ _ _
  refine wpAny_bind (wpAny_pyIter_list hl' ?_)
  have hn : h.get? h.objs.size = none := Heap.get?_none_of_le (Nat.le_refl _)
  exact wpAny_pure ⟨_, rfl, k _ _ _ (F.addZ (fun b o e => Heap.get?_push_of_some _ e) hn (Heap.get?_push_size _ rfl)) ⟨_, Heap.get?_push_size _ rfl, rfl, rfl⟩ (F.nZ hn)⟩
/-- the list's iterator at hand -/
theorem srcI {I ax : Addr} {o : Obj} {vs : List Value} {i : Nat} (F : S w.params q X ((I, o) :: Z) N L cls env G₀ H₀ h₀ m cm G H h) (hA : A.handled = none) (hl : H.IsList ax vs.toArray) (hit : h.IsListIter I ax i) (hZ : ∀ p ∈ Z, p.1 ≠ I) :
    Src w A I vs.length (fun i v => vs[i]? = some v) H o Z i h := by
  have hl' := lmono F.sub hl
  have e0 := (F.fr (I, o) (.head _)).1
  dsimp only at e0
  have ne : ax ≠ I := fun e => by
    obtain ⟨o2, e2, _⟩ := hl
    have := (F.fr (I, o) (.head _)).2.2.2.1
    dsimp only at this
    rw [← e, e2] at this; cases this
  obtain ⟨o3, e3, c3, d3⟩ := id hit
  rw [e0] at e3; cases e3
  refine ⟨[I, ax], fun i h' => h'.IsListIter I ax i ∧ h'.IsList ax vs.toArray, ?_, ⟨hit, hl'⟩, fun b hb => ?_, ⟨fun es n e => (by rw [d3] at e; cases e), fun v e => (by rw [d3] at e; cases e)⟩, hZ, fun i h st => let ⟨o, e, _⟩ := st.1; ⟨o, e⟩⟩
  · have := Walks.list (prog := pg) (w := w) hA I ax ne vs.toArray
    simpa using this
  · simp only [List.mem_cons, List.not_mem_nil, or_false] at hb
    rcases hb with rfl | rfl
    · exact .inl rfl
    · obtain ⟨o, e, _⟩ := hl; exact .inr ⟨o, e⟩
theorem next_list {it l : Addr} {i : Nat} {items} {x : Value} {s : Shared} {Q : Value → Shared → Prop} (hit : s.heap.IsListIter it l i) (hl : s.heap.IsList l items) (hx : items[i]? = some x)
    (hQ : ∀ h', h'.IsListIter it l (i + 1) → Heap.SameBut it s.heap h' → Q x { s with heap := h' }) : wpAny (model pg w) A (call (.builtin "next") [.ref it]) Q E s := by
  obtain ⟨o, ho, hc, hd⟩ := id hit
  obtain ⟨ol, hol, _, nl, hdl⟩ := hl
  refine call_function_entry (by decide +kernel) (by decide +kernel) kdk_entry_next (kdk_args_next _) ?_
  unfold Builtin.«next»
  refine wpAny_bind (m := someArgs "next" 1 2 _) (wpAny_of_eq (a := [Value.ref it]) (by first | rfl | kernel_rfl!) ?_)
  dsimp only
  refine wpAny_bind (wpAny_specialOf (name := Str.ofString "__next__") hit.typeIs slot_listiter_next.lookup ?_)
  refine wpAny_ite_split (fun hab => absurd hab (by decide)) (fun _ => ?_)
  refine wpAny_bind (wpAny_callSpecial?_slot (name := Str.ofString "__next__") hit.typeIs slot_listiter_next
    (wpAny_call_entry slot_listiter_next hit.typeIs entry_listiter_next ?_ (args_listiter_next _)))
  show wpAny _ _ (field (.ref it) 0 >>= _) _ _ s
  refine wpAny_bind (wpAny_field ho hd (x := .ref l) rfl ?_)
  show wpAny _ _ (if (Value.ref l == Value.none) = true then _ else _) _ _ s
  rw [if_neg (show ¬ ((Value.ref l == Value.none) = true) from Bool.false_ne_true)]
  show wpAny _ _ (field (.ref it) 1 >>= _) _ _ s
  refine wpAny_bind (wpAny_field ho hd (x := .int i 0) rfl ?_)
  show wpAny _ _ (seqItems? (.ref l) >>= _) _ _ s
  refine wpAny_bind (wpAny_seqItems hol hdl ?_)
  simp only [Int.toNat_natCast, hx]
  refine wpAny_bind (wpAny_setField ho hd (by simp) (wpAny_pure ⟨x, rfl, wpAny_pure ⟨x, rfl, hQ _ ?_ (Heap.SameBut.update ..)⟩⟩))
  exact ⟨_, Heap.get?_update_self _ ho (Obj.isFreed_of_fields (Obj.data_mapFields hd _)), (Obj.cls_mapFields ..).trans hc, by
    rw [Obj.data_mapFields hd]; simp [rawInt]⟩
theorem nextL {I ax : Addr} {o : Obj} {vs : List Value} {i : Nat} {x : Value} {Q : Value → Shared → Prop} (F : S w.params q X ((I, o) :: Z) N L cls env G₀ H₀ h₀ m cm G H h) (hl : H.IsList ax vs.toArray) (hit : h.IsListIter I ax i) (hZ : ∀ p ∈ Z, p.1 ≠ I) (hx : vs[i]? = some x)
    (k : ∀ o' h', S w.params q X ((I, o') :: Z) N L cls env G₀ H₀ h₀ m cm G H h' → h'.IsListIter I ax (i + 1) → Q x ⟨h', g, d, tk, os⟩) :
    wpAny (model pg w) A (call (.builtin "next") [.ref I]) Q E ⟨h, g, d, tk, os⟩ := by
  refine next_list (s := ⟨h, g, d, tk, os⟩) hit (lmono F.sub hl) (by simpa using hx) fun h' hit' hs => ?_
  obtain ⟨o3, e3, c3, d3⟩ := id hit
  have e0 := (F.fr (I, o) (.head _)).1
  dsimp only at e0
  rw [e0] at e3; cases e3
  obtain ⟨o', e', _⟩ := id hit'
  refine k o' h' (F.setZ (x := I) (o := o) (Z' := (I, o') :: Z) (by simp) (fun e => ?_) (fun nm c hc e => ?_) (fun b y hb e => (hs.2 b hb).trans e) fun p hp => ?_) hit'
  · obtain ⟨o2, _, _, e2, d2, _⟩ := F.ns
    rw [← e, e0] at e2; cases e2; rw [d3] at d2; cases d2
  · obtain ⟨⟨o2, e2, d2⟩, _⟩ := F.cell nm c hc
    rw [e, e0] at e2; cases e2; rw [d3] at d2; cases d2
  · simp only [List.mem_cons] at hp ⊢
    rcases hp with rfl | hp
    · exact .inl ⟨rfl, e'⟩
    · exact .inr ⟨.inr hp, hZ p hp⟩
/-- a function whose defaults are read -/
theorem enterD {Q : Value → Shared → Prop} {n : Nat} {a : Addr} {fd : FuncData} {body : List Stmt} {vals : List Value} {binds : List (Str × Value)} (F : Vw w.params q G H h) (hA : Ar A n) (hn : n ≤ 440)
    (ho : h.get? a = some ⟨.type "function", none, .func fd, #[]⟩) (hcd : h.CodeRec fd.code fd.qualname) (hbody : fd.body = .stmts body)
    (hbind : ∀ (A : Around) (Q : List (Str × Value) → Shared → Prop) (E : Value → Shared → Prop), Q binds ⟨h, g, d, tk, os⟩ → wpAny (model pg w) A (bindArgs fd ⟨vals, []⟩) Q E ⟨h, g, d, tk, os⟩)
    (hcl : fd.closure = []) (hc : (fd.scope.names.all fun y => y.2 != .cell) = true) (hl : (binds.all fun y => fd.scope.names.lookup y.1 == some .local) = true)
    (hco : fd.scope.isCoroutine = false) (hgen : fd.scope.isGenerator = false) (hk : fd.scope.kind = .function) (hgl : fd.globals = 3) (hbl : fd.builtins = 0)
    (k : ∀ L h₁ tk₁ E' env A', env = newEnv fd.scope L fd.globals fd.closure (fd.qualname ++ ".<locals>.") (some a) fd.code none fd.builtins → S w.params q [L] [] fd.scope.names L fd.closure env G H h (fun x => binds.reverse.lookup x) (fun _ => none) G H h₁ → Ar A' (n + 3) → h.objs.size = L →
      wpAny (model pg w) A' (execs body env) (fun f s' => Q (match f with | .ret v => v | _ => .none) s') E' ⟨h₁, g, d, tk₁, os⟩) :
    wpAny (model pg w) A (call (.ref a) vals) Q E ⟨h, g, d, tk, os⟩ := by
  refine wpAny_call (codeAny_call_function (fd := fd) (body := body) (by have := hA.2.1; show A.depth < 1000; lia) ho rfl hco hgen hbody hcd ?_)
  refine hbind _ _ _ (frame0 F (fun _ => none) (fun n c e => by rw [hcl] at e; cases e) (fun n n' c e => by rw [hcl] at e; cases e) hc hl hk hgl hbl fun L h₁ tk₁ env henv hL S0 => ⟨S0.fs.noLimit, codeAny_func ?_⟩)
  refine wpAny_mono (k L h₁ tk₁ _ env _ henv S0 ⟨hA.1, by have := hA.2.1; show A.depth + 1 ≤ n + 3; lia, by have := hA.2.2; show A.units + 3 ≤ n + 3; lia⟩ hL) (fun f s' hf => hf) fun _ _ e => e
end
/-! reduce -/
theorem fn57 (P : Params) : (K1 P).lookup 57 = some ⟨.type "function", none, .func (fnOf P 57), #[]⟩ := by kernel_rfl!
theorem top57 (P : Params) : isTop P 57 = true := by kernel_rfl!
theorem body57 (P : Params) : (fnOf P 57).body = .stmts (pBody 7) := by kernel_rfl!
/-- what one step of reduce does -/
def Step (w : World) (Γ : Heap → Prop) (H : Heap) (f : Addr) (vs : List Value) (R : Nat → Value → Prop) : Prop :=
  (∃ fd, H.get? f = some ⟨.type "function", none, .func fd, #[]⟩) ∧ ∀ (i : Nat) (v e : Value), R i v → vs[i]? = some e → ∀ (q : QT) (G H' h : Heap), Le H H' → Vw w.params q G H' h → Γ h → FunQ w q 410 (.ref f) [v, e] G H' h (fun _ v' => R (i + 1) v')
noncomputable def ob50 (P : Params) : Obj := ((K1 P).lookup 50).getD default
theorem get50 (P : Params) : (K1 P).lookup 50 = some (ob50 P) := by kernel_rfl!
abbrev sF : Str := Str.ofString "function"
abbrev sS : Str := Str.ofString "sequence"
abbrev sI : Str := Str.ofString "initial"
theorem bind57 {w : World} {h : Heap} (hK : (K1 w.params).In h) (f a : Value) {g : Array GenState} {d : Drawn} {tk : Nat} {os : OsState} (A : Around) (Q : List (Str × Value) → Shared → Prop) (E : Value → Shared → Prop)
    (k : Q [(sF, f), (sS, a), (sI, .ref 49)] ⟨h, g, d, tk, os⟩) : wpAny (model pg w) A (bindArgs (fnOf w.params 57) ⟨[f, a], []⟩) Q E ⟨h, g, d, tk, os⟩ :=
  rd [ob50 w.params] _ [50] (by kernel_rfl!) ⟨hK 50 _ (get50 _), trivial⟩ k
end Mine

end R15_

section R16_
open PySem.Calls
namespace Mine
abbrev sIt : Str := Str.ofString "it"
abbrev sV : Str := Str.ofString "value"
theorem same49 {w : World} {A : Around} {s : Shared} {E : Value → Shared → Prop} {Q : Value → Shared → Prop} (k : Q (.bool true) s) : wpAny (model pg w) A (compareOp .Is (.ref 49) (.ref 49)) Q E s := by
  show wpAny _ A (do return .bool (← isSame (.ref 49) (.ref 49))) Q E s
  unfold isSame
  exact wpAny_bind (ite_t (by decide) (wpAny_pure (wpAny_pure k)))
set_option maxHeartbeats 2000000 in
/-- the loop and the end of reduce -/
theorem red_tail {w : World} {A : Around} {q : QT} {L : Addr} {env : Env} {G₀ h₀ G H₀ H h : Heap} {m : Str → Option Value} {g : Array GenState} {d : Drawn} {tk : Nat} {os : OsState} {E : Value → Shared → Prop} {Q : Flow → Shared → Prop}
    {P : Params} {I f ax : Addr} {o : Obj} {vs : List Value} {i₀ : Nat} {v : Value} {Γ : Heap → Prop} {R : Nat → Value → Prop} (hP : P = w.params) (F : S w.params q [L] [(I, o)] (fnOf P 57).scope.names L (fnOf P 57).closure env G₀ H₀ h₀ m (fun _ => none) G H h) (hA : Ar A 405)
    (hl : H.IsList ax vs.toArray) (hit : h.IsListIter I ax i₀) (hi : i₀ ≤ vs.length) (mIt : m sIt = some (.ref I)) (mF : m sF = some (.ref f)) (mV : m sV = some v) (r0 : R i₀ v) (hG : Gm Γ) (g0 : Γ h₀) (hs : Step w Γ H₀ f vs R)
    (k : ∀ v G' H' h' tk', Fs w.params q [L] G₀ H₀ h₀ G' H' h' → R vs.length v → Q (.ret v) ⟨h', g, d, tk', os⟩) :
    wpAny (model pg w) A (execs ((pBody 7).drop 2) env) Q E ⟨h, g, d, tk, os⟩ := by
  subst hP
  refine wpAny_execs_cons (forR (G₀ := G₀) (H₀ := H₀) (h₀ := h₀) (X := [L]) (Z := []) (N := (fnOf w.params 57).scope.names) (L := L) (cls := (fnOf w.params 57).closure) vs.length i₀ (fun i q' m' cm' H' => q' = q ∧ cm' = (fun _ => none) ∧ m' sIt = some (.ref I) ∧ m' sF = some (.ref f) ∧ ∃ v, m' sV = some v ∧ R i v) ?_)
  refine ldL (.ref I) F ?_ mIt
  have Sr0 := srcI (A := A) F hA.1 hl hit (by simp)
  refine wpAny_pyIter_listiter (s := ⟨h, g, d, tk, os⟩) hit ?_
  refine ⟨I, _, q, m, _, G, H, h, tk, o, rfl, rfl, Sr0, hi, F, ⟨rfl, rfl, mIt, mF, v, mV, r0⟩, ?_, ?_⟩
  · rintro i x q m2 cm2 G2 H2 h2 tk2 o2 E' hlt hx le ⟨rfl, rfl, j1, j2, v2, j3, j4⟩ S2
    refine wpAny_assign_Name (stL S2 fun h3 S3 => ?_)
    obtain ⟨⟨fd, hfd⟩, hst⟩ := hs
    refine wpAny_execs_cons (wpAny_Assign_Name (Call_ (ldL (.ref f) S3 (callWith_def (o := ⟨.type "function", none, .func fd, #[]⟩) rfl (args_cons (ldL v2 S3 (args_cons (ldL x S3 (args_nil ⟨S3.sub _ _ (S3.fs.le _ _ hfd), ?_⟩))) j3))) j2)))
    refine callQ S3 (hA.up (by decide)) (hst i v2 x j4 hx q G2 H2 h3 S3.fs.le S3.fs.vw (hG _ _ S3.fs.kp g0)) fun v3 H4 h4 tk4 S4 l4 r4 => ?_
    refine stL S4 fun h5 S5 => ?_
    refine wpAny_execs_nil ⟨.inl rfl, q, _, _, G2, H4, h5, _, rfl, S5, l4, rfl, rfl, ?_, ?_, v3, ?_, r4⟩
    · exact j1
    · exact j2
    · kernel_rfl!
  · rintro q2 m2 cm2 G2 H2 h2 tk2 S2 le ⟨rfl, rfl, j1, j2, v2, j3, j4⟩
    refine wpAny_execs_cons (wpAny_Return_some (ldL v2 S2 ?_ j3))
    exact k v2 G2 H2 h2 tk2 S2.fs j4
theorem missing (P : Params) : nsLook (Str.ofString "_initial_missing") (ob P 3) = pure (some (.ref 49)) := by kernel_rfl!
set_option maxHeartbeats 2000000 in
theorem red_call0 {w : World} {q : QT} {G H h : Heap} {f ax : Addr} {vs : List Value} {v0 : Value} {Γ : Heap → Prop} {R : Nat → Value → Prop} (F : Vw w.params q G H h) (hl : H.IsList ax vs.toArray) (h0 : vs[0]? = some v0) (r0 : R 1 v0) (hG : Gm Γ) (g0 : Γ h) (hs : Step w Γ H f vs R) :
    Fun w q 400 (.ref 57) [.ref f, .ref ax] G H h (fun _ v => R vs.length v) := by
  intro A g d tk os Q E hA k
  refine enterD (body := pBody 7) (binds := [(sF, .ref f), (sS, .ref ax), (sI, .ref 49)]) F hA (by decide) (F.okh.K 57 _ (fn57 _)) (isTop.rec (top57 _) F.okh.K) (body57 _) (bind57 F.okh.K _ _) (by kernel_rfl!) (by kernel_rfl!) (by kernel_rfl!) (by kernel_rfl!) (by kernel_rfl!) (by kernel_rfl!) (by kernel_rfl!) (by kernel_rfl!) ?_
  intro L h₁ tk₁ E' env A' henv S0 hA' hL; clear henv
  refine wpAny_execs_cons (wpAny_Assign_Name (Call_Name1 (ldB (.builtin "iter") S0 (callWith_builtin1 (args_cons (ldL (.ref ax) S0 (args_nil ?_)))))))
  refine iterL S0 hl fun I o h2 S2 hit hZ => ?_
  refine stL S2 fun h3 S3 => ?_
  have hit3 : h3.IsListIter I ax 0 := by
    obtain ⟨o1, e1, r1⟩ := hit
    have e2 := (S2.fr (I, o) (.head _)).1
    dsimp only at e2
    rw [e2] at e1; cases e1
    exact ⟨_, (S3.fr (I, o) (.head _)).1, r1⟩
  refine wpAny_execs_cons (wpAny_If ?_)
  refine wpAny_isTrue_Compare1 (ldL (.ref 49) S3 (ldG (.ref 49) S3 (same49 (wpAny_truthy_bool ?_)) (missing _)))
  refine wpAny_execs_cons (wpAny_Try_except ?_)
  refine wpAny_execs_cons (wpAny_Assign_Name (Call_Name1 (ldB (.builtin "next") S3 (callWith_builtin1 (args_cons (ldL (.ref I) S3 (args_nil ?_)))))))
  refine nextL S3 hl hit3 hZ h0 fun o' h4 S4 hit4 => ?_
  refine stL S4 fun h5 S5 => ?_
  have hit5 : h5.IsListIter I ax 1 := by
    obtain ⟨o1, e1, r1⟩ := hit4
    have e2 := (S4.fr (I, o') (.head _)).1
    dsimp only at e2
    rw [e2] at e1; cases e1
    exact ⟨_, (S5.fr (I, o') (.head _)).1, r1⟩
  refine wpAny_execs_nil (wpAny_execs_nil (wpAny_execs_nil ?_))
  refine red_tail (P := w.params) (I := I) (f := f) (v := v0) rfl S5 (hA'.up (by decide)) hl hit5 ?_ ?_ ?_ ?_ r0 hG g0 hs fun v G' H' h' tk' F' r => k v G' H' h' tk' F'.drop r
  · have : 0 < vs.length := by
      rcases Nat.eq_zero_or_pos vs.length with e | e
      · rw [List.getElem?_eq_none (by lia)] at h0; cases h0
      · exact e
    exact this
  · kernel_rfl!
  · kernel_rfl!
  · kernel_rfl!
theorem notSame {w : World} {A : Around} {s : Shared} {E : Value → Shared → Prop} {Q : Value → Shared → Prop} {x : Int} {t : Tok} (k : Q (.bool false) s) : wpAny (model pg w) A (compareOp .Is (.int x t) (.ref 49)) Q E s := by
  show wpAny _ A (do return .bool (← isSame (.int x t) (.ref 49))) Q E s
  have : isSame (.int x t) (.ref 49) = pure false := by kernel_rfl!
  rw [this]
  exact wpAny_bind (wpAny_pure (wpAny_pure k))
set_option maxHeartbeats 2000000 in
theorem red_call1 {w : World} {q : QT} {G H h : Heap} {f ax : Addr} {vs : List Value} {x0 : Int} {t0 : Tok} {Γ : Heap → Prop} {R : Nat → Value → Prop} (F : Vw w.params q G H h) (hl : H.IsList ax vs.toArray) (r0 : R 0 (.int x0 t0)) (hG : Gm Γ) (g0 : Γ h) (hs : Step w Γ H f vs R) :
    Fun w q 400 (.ref 57) [.ref f, .ref ax, .int x0 t0] G H h (fun _ v => R vs.length v) := by
  intro A g d tk os Q E hA k
  refine enterD (body := pBody 7) (binds := [(sF, .ref f), (sS, .ref ax), (sI, .int x0 t0)]) F hA (by decide) (F.okh.K 57 _ (fn57 _)) (isTop.rec (top57 _) F.okh.K) (body57 _) ?_ (by kernel_rfl!) (by kernel_rfl!) (by kernel_rfl!) (by kernel_rfl!) (by kernel_rfl!) (by kernel_rfl!) (by kernel_rfl!) (by kernel_rfl!) ?_
  · intro A Q E k2
    refine rd [ob50 w.params] _ [50] ?_ ⟨F.okh.K 50 _ (get50 _), trivial⟩ k2
    kernel_rfl!
  intro L h₁ tk₁ E' env A' henv S0 hA' hL; clear henv
  refine wpAny_execs_cons (wpAny_Assign_Name (Call_Name1 (ldB (.builtin "iter") S0 (callWith_builtin1 (args_cons (ldL (.ref ax) S0 (args_nil ?_)))))))
  refine iterL S0 hl fun I o h2 S2 hit hZ => ?_
  refine stL S2 fun h3 S3 => ?_
  refine wpAny_execs_cons (wpAny_If ?_)
  refine wpAny_isTrue_Compare1 (ldL (.int x0 t0) S3 (ldG (.ref 49) S3 (notSame (wpAny_truthy_bool ?_)) (missing _)))
  refine wpAny_execs_cons (wpAny_Assign_Name (ldL (.int x0 t0) S3 ?_))
  refine stL S3 fun h5 S5 => ?_
  have hit5 : h5.IsListIter I ax 0 := by
    obtain ⟨o1, e1, r1⟩ := hit
    have e2 := (S2.fr (I, o) (.head _)).1
    dsimp only at e2
    rw [e2] at e1; cases e1
    exact ⟨_, (S5.fr (I, o) (.head _)).1, r1⟩
  refine wpAny_execs_nil ?_
  refine red_tail (P := w.params) (I := I) (f := f) (v := .int x0 t0) rfl S5 (hA'.up (by decide)) hl hit5 (Nat.zero_le _) ?_ ?_ ?_ r0 hG g0 hs fun v G' H' h' tk' F' r => k v G' H' h' tk' F'.drop r
  · kernel_rfl!
  · kernel_rfl!
  · kernel_rfl!
end Mine

end R16_

section R17_
open PySem.Calls
namespace Mine
theorem ints_at : ∀ {vs : List Value} {ns : List Int}, IntsAre vs ns → ∀ {i : Nat} {v : Value}, vs[i]? = some v → ∃ x t, v = .int x t ∧ ns[i]? = some x := by
  intro vs ns h
  induction h with
  | nil => intro i v e; simp at e
  | cons n t h ih =>
    intro i v e
    cases i with
    | zero => simp at e; exact ⟨n, t, e.symm, rfl⟩
    | succ j => exact ih (i := j) (by simpa using e)
theorem ints_len : ∀ {vs : List Value} {ns : List Int}, IntsAre vs ns → vs.length = ns.length := by
  intro vs ns h
  induction h with
  | nil => rfl
  | cons n t h ih => simp [ih]
def farL : PySem.Expr := match pBody 13 with
  | [.Return (some (.Call _ (a :: _) _ _)) _] => a
  | _ => default
theorem fn88 (P : Params) : (K1 P).lookup 88 = some ⟨.type "function", none, .func (fnOf P 88), #[]⟩ := by kernel_rfl!
theorem top88 (P : Params) : isTop P 88 = true := by kernel_rfl!
theorem body88 (P : Params) : (fnOf P 88).body = .stmts (pBody 13) := by kernel_rfl!
theorem code88 (P : Params) : (fnOf P 88).code = .ref 87 := by kernel_rfl!
abbrev qF : Str := Str.ofString "_law_far.<locals>."
def farS (ns : List Int) (one : Int) (i : Nat) : Int := ((ns.take i).map fun x => absF (x - one)).sum
theorem farS_succ {ns : List Int} {one x : Int} {i : Nat} (h : ns[i]? = some x) : farS ns one (i + 1) = farS ns one i + absF (x - one) := by
  unfold farS
  rw [List.take_add_one, h]
  simp [List.sum_append]
theorem cellClo {fd : FuncData} {nm : Str} {cm : Addr} {n : Str} {c : Addr} (e : fd.closure = [(nm, cm)]) (hh : fd.closure.lookup n = some c) : n = nm ∧ c = cm := by
  have := mem_of_lookup hh
  rw [e, List.mem_singleton] at this
  cases this; exact ⟨rfl, rfl⟩
abbrev nmF : Str := Str.ofString "_law_far.<locals>.<lambda>"
def farG (cl c : Addr) (v : Value) (h : Heap) : Prop := (h.IsCell cl (some v) ∧ cl ∉ T0) ∧ h.CodeRec (.ref c) nmF ∧ c ∉ T0
set_option maxHeartbeats 2000000 in
theorem far_step {w : World} {H : Heap} {f c cl : Addr} {ct pm : Value} {one : Int} {t1 : Tok} {vs : List Value} {ns : List Int} (hI : IntsAre vs ns) (e : H.get? f = some ⟨.type "function", none, .func (fdL farL (Str.ofString "_law_far.<locals>.<lambda>") [(Str.ofString "one", cl)] c ct pm), #[]⟩) :
    Step w (farG cl c (.int one t1)) H f vs (fun i v => ∃ t, v = .int (farS ns one i) t) := by
  refine ⟨⟨_, e⟩, fun i v x hR hx q G H' h l F hg => ?_⟩
  obtain ⟨tv, rfl⟩ := hR
  obtain ⟨y, ty, rfl, hy⟩ := ints_at hI hx
  intro A g d tk os Q E hA k
  refine enterE (fun _ => some (.int one t1)) (body := lamBody farL) (binds := [(Str.ofString "total", .int (farS ns one i) tv), (Str.ofString "other", .int y ty)]) F hA (by decide) (F.sub _ _ (l _ _ e)) hg.2.1 (by kernel_rfl!) (by kernel_rfl!) (fun n c' hh => ?_) (fun n n' c' hh hh' => ?_) (by kernel_rfl!) (by kernel_rfl!) (by kernel_rfl!) (by kernel_rfl!) (by kernel_rfl!) (by kernel_rfl!) (by kernel_rfl!) ?_
  · obtain ⟨_, rfl⟩ := cellClo (nm := Str.ofString "one") (cm := cl) (by kernel_rfl!) hh
    exact hg.1
  · rw [(cellClo (nm := Str.ofString "one") (cm := cl) (by kernel_rfl!) hh).1, (cellClo (nm := Str.ofString "one") (cm := cl) (by kernel_rfl!) hh').1]
  intro L h₁ tk₁ E' env A' henv S0 hA' hL; clear henv
  refine wpAny_BinOp (ldL (.int (farS ns one i) tv) S0 (Call_Name1 (ldB (.builtin "abs") S0 (callWith_builtin1 (args_cons (wpAny_BinOp (ldL (.int y ty) S0 (ldF (.int one t1) cl S0 (sub_int (args_nil ?_))))))))))
  refine call_abs_int fun u tk' => ?_
  refine wpAny_add_int ?_
  exact k _ _ _ _ S0.fs.drop ⟨_, by rw [farS_succ hy]; rfl⟩
theorem gmFar {cl c : Addr} {v : Value} : Gm (farG cl c v) := fun h h' k ⟨⟨⟨o, e, r⟩, n⟩, ⟨c2, o2, vs, t, e1, e2, r2⟩, n2⟩ => by
  cases e1
  exact ⟨⟨⟨o, k _ _ n e, r⟩, n⟩, ⟨c, o2, vs, t, rfl, k _ _ n2 e2, r2⟩, n2⟩
theorem gmCell {cl : Addr} {v : Option Value} : Gm (fun h => h.IsCell cl v ∧ cl ∉ T0) := fun h h' k ⟨⟨o, e, r⟩, n⟩ => ⟨⟨o, k _ _ n e, r⟩, n⟩
set_option maxHeartbeats 2000000 in
theorem far_call {w : World} {q : QT} {G H h : Heap} {ax : Addr} {vs : List Value} {ns : List Int} {one : Int} {t1 : Tok} (F : Vw w.params q G H h) (hl : H.IsList ax vs.toArray) (hI : IntsAre vs ns) :
    Fun w q 380 (.ref 88) [.ref ax, .int one t1] G H h (fun _ v => ∃ t, v = .int (farS ns one ns.length) t) := by
  intro A g d tk os Q E hA k
  refine enter (fun L => [L + 1]) (binds := [(Str.ofString "numbers", .ref ax), (Str.ofString "one", .int one t1)]) (body := pBody 13) F hA (by decide) (F.okh.K 88 _ (fn88 _)) (isTop.rec (top88 _) F.okh.K) (body88 _) (by kernel_rfl!) (by kernel_rfl!) ?_ ?_ (by kernel_rfl!) (by kernel_rfl!) (by kernel_rfl!) (by kernel_rfl!) (by kernel_rfl!) ?_
  · intro x hx
    simp only [List.mem_cons, List.not_mem_nil, or_false] at hx
    rcases hx with rfl | rfl
    · exact .inl (by kernel_rfl!)
    · exact .inr ⟨by kernel_rfl!, by kernel_rfl!⟩
  · intro L y hy; rw [List.mem_singleton] at hy; subst hy; exact ⟨Str.ofString "one", by kernel_rfl!⟩
  intro L h₁ tk₁ E' env A' henv S0 hA' hL
  have hcode : env.code = .ref 87 := by rw [henv]; exact code88 w.params
  have hqn : env.qual = qF := by rw [henv]; kernel_rfl!
  clear henv
  have fin : ∀ (f c : Addr) (ct : Value) (tk2 tz : Nat) (G2 H2 h2 : Heap) (m cm : Str → Option Value), cm (Str.ofString "one") = some (.int one t1) →
      S w.params q [L, L + 1] [] (fnOf w.params 88).scope.names L (cellsFrom (L + 1) (fnOf w.params 88).scope.names []) env G H h m cm G2 H2 h2 →
      H2.get? f = some ⟨.type "function", none, .func (fdL farL (Str.ofString "_law_far.<locals>.<lambda>") [(Str.ofString "one", L + 1)] c ct (pmV w.params)), #[]⟩ → h2.CodeRec (.ref c) nmF → c ∉ T0 →
      wpAny (model pg w) A' (call (.ref 57) [.ref f, .ref ax, .int 0 tz]) Q E' ⟨h2, g, d, tk2, os⟩ := by
    intro f c ct tk2 tz G2 H2 h2 m cm ecm S2 ef rc ncT
    obtain ⟨hce, hcT⟩ := S2.cell (Str.ofString "one") (L + 1) (by rw [S2.en.cs]; kernel_rfl!)
    rw [ecm] at hce
    refine callF S2 ?_ (red_call1 (R := fun i v => ∃ t, v = .int (farS ns one i) t) S2.fs.vw (lmono S2.fs.le hl) ⟨_, rfl⟩ gmFar ⟨⟨hce, hcT⟩, rc, ncT⟩ (far_step hI ef)) fun v G3 H3 h3 tk3 S3 l3 r3 => ?_
    · exact hA'.up (by decide)
    · rw [ints_len hI] at r3
      exact k v G3 H3 h3 tk3 S3.fs.drop r3
  refine wpAny_execs_cons (wpAny_Return_some (Call_ (ldG (.ref 57) S0 (callWith_def (o := ⟨.type "function", none, .func (fnOf w.params 57), #[]⟩) rfl (args_cons ?_)))))
  have h94 : 94 ≤ h₁.objs.size := Heap.lt_size (S0.fs.okh.K 93 _ (k93 _).choose_spec)
  rcases S0.fs.ok.t83 with e83 | ⟨cv, e83, hrc, lc⟩
  · refine lamNew (qn := qF) (q' := fun _ => q) S0 83 (hd87 S0.fs.okh.K) hcode hqn e83 (clos := [(Str.ofString "one", L + 1)]) (by kernel_rfl!) (by kernel_rfl!) trivial (by decide) (fun G' c' lc k1 k2 k3 => S0.fs.ok.put83 e83 k1 k2 k3 (Nat.le_trans h94 lc)) ?_ (by kernel_rfl!)
    intro f c ct G2 H2 h2 tk2 S2 l2 e2 r2
    refine args_cons (ldL (.ref ax) S2 (args_cons (wpAny_Constant_int (args_nil ⟨S2.fs.okh.K 57 _ (fn57 _), ?_⟩))))
    exact fin f c ct _ _ G2 H2 h2 _ _ rfl S2 e2 (r2.keeps S2.sub) (let ⟨_, _, _, _, q1, q2, _⟩ := r2; by cases q1; exact (S2.fs.at' _ _ q2).2.2.1)
  · refine lamHit (qn := qF) S0 83 cv (hd87 S0.fs.okh.K) hcode hqn e83 (clos := [(Str.ofString "one", L + 1)]) (by kernel_rfl!) (by kernel_rfl!) trivial ?_ (by kernel_rfl!)
    intro f ct h2' h2 tk2 S2 l2 e2
    refine args_cons (ldL (.ref ax) S2 (args_cons (wpAny_Constant_int (args_nil ⟨S2.fs.okh.K 57 _ (fn57 _), ?_⟩))))
    refine fin f cv ct _ _ G h2' h2 _ _ rfl S2 e2 (hrc.keeps fun b o e => (S2.fs.g b o e).1) fun hb => ?_
    have : ∀ a ∈ T0, a < 94 := by decide
    exact absurd (this _ hb) (Nat.not_lt.mpr lc)
end Mine

end R17_

section R18_
namespace Mine
/-- a list display -/
def MkL (Q : Value → Shared → Prop) (vs : List Value) (s : Shared) : Prop := Q (.ref s.heap.objs.size) { s with heap := s.heap.push (lsO vs) }
theorem listE {w : World} {A : Around} {E : Value → Shared → Prop} {s : Shared} {env : Env} {elts : List PySem.Expr} {pos : Pos} {Q : Value → Shared → Prop} (h : wpAny (model pg w) A (spliced (backTo pos (starEach elts env))) (fun vs s₁ => vs.length ≤ 1000 ∧ MkL Q vs s₁) E s) :
    wpAny (model pg w) A (eval (.List elts pos) env) Q E s :=
  wpAny_List (wpAny_mono h (fun vs s₁ ⟨h1, h2⟩ => ⟨by rw [sizeLine_eq]; lia, h2⟩) fun _ _ e => e)
theorem mkL {w : World} {q : QT} {X : List Addr} {Z : List (Addr × Obj)} {N : List (Str × NameKind)} {L : Addr} {cls : List (Str × Addr)} {env : Env} {G₀ H₀ h₀ G H h : Heap} {m cm : Str → Option Value} {g : Array GenState} {d : Drawn} {tk : Nat} {os : OsState} {vs : List Value} {Q : Value → Shared → Prop}
    (F : S w.params q X Z N L cls env G₀ H₀ h₀ m cm G H h) (k : ∀ r H' h', S w.params q X Z N L cls env G₀ H₀ h₀ m cm G H' h' → Le H H' → H'.get? r = some (lsO vs) → Q (.ref r) ⟨h', g, d, tk, os⟩) : MkL Q vs ⟨h, g, d, tk, os⟩ := by
  obtain ⟨H', l, e, F'⟩ := F.push (o := lsO vs) rfl
  exact k _ _ _ F' l e
theorem tests1 {w : World} {A : Around} {E : Value → Shared → Prop} {s : Shared} {env : Env} {c : PySem.Expr} {Q : Bool → Shared → Prop} (h : wpAny (model pg w) A (isTrue c env (eval c env)) Q E s) :
    wpAny (model pg w) A (forIn [c] true fun c r => if r = true then do let ok ← isTrue c env (eval c env); pure (ForInStep.yield ok) else pure (ForInStep.yield r)) Q E s := by
  simp only [List.forIn_cons, List.forIn_nil, if_true]
  exact wpAny_bind (wpAny_bind (wpAny_mono h (fun _ _ q => wpAny_pure (wpAny_pure q)) fun _ _ e => e))
theorem tests0 {w : World} {A : Around} {E : Value → Shared → Prop} {s : Shared} {env : Env} {Q : Bool → Shared → Prop} (h : Q true s) :
    wpAny (model pg w) A (forIn ([] : List PySem.Expr) true fun c r => if r = true then do let ok ← isTrue c env (eval c env); pure (ForInStep.yield ok) else pure (ForInStep.yield r)) Q E s := wpAny_pure h
theorem wp_if {w : World} {A : Around} {E : Value → Shared → Prop} {s : Shared} {Q : Value → Shared → Prop} {b : Bool} (h : Q (.bool b) s) : wpAny (model pg w) A (pure (.bool b)) Q E s := wpAny_pure h
/-- a call of a function of ours with one argument -/
theorem cwF {w : World} {A : Around} {E : Value → Shared → Prop} {s : Shared} {pos : Pos} {f : Addr} {fd : FuncData} {t : Sem Value} {Q : Value → Shared → Prop}
    (h : wpAny (model pg w) A t (fun v s₁ => s₁.heap.get? f = some ⟨.type "function", none, .func fd, #[]⟩ ∧ wpAny (model pg w) A (call (.ref f) [v]) Q E s₁) E s) : wpAny (model pg w) A (callWith pos (.ref f) [] [(false, t)] []) Q E s :=
  Calls.callWith_function (o := ⟨.type "function", none, .func fd, #[]⟩) (fd := fd) (Calls.evalArgs_plain (Calls.spliced_cons (wpAny_mono h (fun _ _ h₁ => Calls.spliced_nil ⟨⟨h₁.1, rfl⟩, h₁.2⟩) fun _ _ e => e)))
/-! _law_order -/
def cntL (μ : Int → Int) (ns : List Int) (k : Nat) (o : List Nat) : Nat := (o.filter fun j => decide (μ (ns.getD j 0) ≤ μ (ns.getD k 0))).length
def insL (μ : Int → Int) (ns : List Int) (o : List Nat) (k : Nat) : List Nat := o.take (cntL μ ns k o) ++ [k] ++ o.drop (cntL μ ns k o)
def ordN (μ : Int → Int) (ns : List Int) : Nat → List Nat
  | 0 => []
  | k + 1 => insL μ ns (ordN μ ns k) k
/-- values that are these numbers -/
abbrev Nats (us : List Value) (js : List Nat) : Prop := IntsAre us (js.map Int.ofNat)
theorem cntL_le {μ : Int → Int} {ns : List Int} {k : Nat} {o : List Nat} : cntL μ ns k o ≤ o.length := List.length_filter_le ..
theorem ordN_len {μ : Int → Int} {ns : List Int} : ∀ n, (ordN μ ns n).length = n
  | 0 => rfl
  | k + 1 => by
    have := cntL_le (μ := μ) (ns := ns) (k := k) (o := ordN μ ns k)
    have e := ordN_len (μ := μ) (ns := ns) k
    simp only [ordN, insL, List.length_append, List.length_take, List.length_drop, List.length_singleton]
    lia
theorem ordN_lt {μ : Int → Int} {ns : List Int} : ∀ n, ∀ j ∈ ordN μ ns n, j < n
  | 0, j, h => by simp [ordN] at h
  | k + 1, j, h => by
    simp only [ordN, insL, List.mem_append, List.mem_singleton] at h
    rcases h with (h | rfl) | h
    · exact Nat.lt_succ_of_lt (ordN_lt k j (List.mem_of_mem_take h))
    · exact Nat.lt_succ_self _
    · exact Nat.lt_succ_of_lt (ordN_lt k j (List.mem_of_mem_drop h))
theorem ints_append {a b : List Value} {x y : List Int} (h : IntsAre a x) (h' : IntsAre b y) : IntsAre (a ++ b) (x ++ y) := by
  induction h with
  | nil => exact h'
  | cons n t h ih => exact .cons n t ih
theorem ints_take {a : List Value} {x : List Int} (h : IntsAre a x) : ∀ n, IntsAre (a.take n) (x.take n) := by
  induction h with
  | nil => intro n; simpa using IntsAre.nil
  | cons m t h ih =>
    intro n
    cases n with
    | zero => exact .nil
    | succ n => exact .cons m t (ih n)
theorem ints_drop {a : List Value} {x : List Int} (h : IntsAre a x) : ∀ n, IntsAre (a.drop n) (x.drop n) := by
  induction h with
  | nil => intro n; simpa using IntsAre.nil
  | cons m t h ih =>
    intro n
    cases n with
    | zero => exact .cons m t h
    | succ n => exact ih n
theorem fn69 (P : Params) : (K1 P).lookup 69 = some ⟨.type "function", none, .func (fnOf P 69), #[]⟩ := by kernel_rfl!
theorem top69 (P : Params) : isTop P 69 = true := by kernel_rfl!
theorem body69 (P : Params) : (fnOf P 69).body = .stmts (pBody 10) := by kernel_rfl!
abbrev sN : Str := Str.ofString "numbers"
abbrev sM : Str := Str.ofString "mark"
abbrev sO : Str := Str.ofString "order"
set_option maxHeartbeats 2000000 in
theorem ord_call {w : World} {q : QT} {G H h : Heap} {ax f : Addr} {vs : List Value} {ns : List Int} {μ : Int → Int} (F : Vw w.params q G H h) (hl : H.IsList ax vs.toArray) (hI : IntsAre vs ns) (hm : Mark w H f μ) (hn : ns.length ≤ 1000) :
    Fun w q 380 (.ref 69) [.ref ax, .ref f] G H h (fun H' v => ∃ r us, v = .ref r ∧ H'.IsList r us.toArray ∧ Nats us (ordN μ ns ns.length)) := by
  intro A g d tk os Q E hA k
  refine enter (fun L => [L + 1, L + 2, L + 3]) (binds := [(sN, .ref ax), (sM, .ref f)]) (body := pBody 10) F hA (by decide) (F.okh.K 69 _ (fn69 _)) (isTop.rec (top69 _) F.okh.K) (body69 _) (by kernel_rfl!) (by kernel_rfl!) ?_ ?_ (by kernel_rfl!) (by kernel_rfl!) (by kernel_rfl!) (by kernel_rfl!) (by kernel_rfl!) ?_
  · intro x hx
    simp only [List.mem_cons, List.not_mem_nil, or_false] at hx
    rcases hx with rfl | rfl
    · exact .inr ⟨by kernel_rfl!, by kernel_rfl!⟩
    · exact .inr ⟨by kernel_rfl!, by kernel_rfl!⟩
  · intro L y hy
    simp only [List.mem_cons, List.not_mem_nil, or_false] at hy
    rcases hy with rfl | rfl | rfl
    · exact ⟨sN, by kernel_rfl!⟩
    · exact ⟨sM, by kernel_rfl!⟩
    · exact ⟨Str.ofString "k", by kernel_rfl!⟩
  intro L h₁ tk₁ E' env A' henv S0 hA' hL; clear henv
  refine wpAny_execs_cons (wpAny_Assign_Name (listE (args_nil ⟨by decide, ?_⟩)))
  refine mkL S0 fun r0 H2 h2 S2 l2 e2 => ?_
  refine stL S2 fun h3 S3 => ?_
  refine wpAny_execs_cons (forR (G₀ := G) (H₀ := H) (h₀ := h) (X := [L, L + 1, L + 2, L + 3]) (Z := []) (N := (fnOf w.params 69).scope.names) (L := L) (cls := cellsFrom (L + 1) (fnOf w.params 69).scope.names []) ns.length 0
    (fun i q' m' cm' H' => q' = q ∧ cm' sN = some (.ref ax) ∧ cm' sM = some (.ref f) ∧ ∃ r us, m' sO = some (.ref r) ∧ H'.IsList r us.toArray ∧ Nats us (ordN μ ns i)) ?_)
  have hl2 := lmono S3.fs.le hl
  refine Call_Name1 (ldB (.type "range") S3 (PySem.callWith_type1 ?_))
  refine Call_Name1 (ldB (.builtin "len") S3 (PySem.callWith_builtin1 (ldC (.ref ax) (L + 1) S3 ?_)))
  refine lenL S3 hl2 (by rw [ints_len hI]; lia) fun t tk4 => ?_
  rw [ints_len hI]
  refine srcR S3 hA'.1 (by lia) fun I o h5 tk5 S5 src5 => ?_
  refine ⟨I, _, q, _, _, G, H2, h5, tk5, o, rfl, rfl, src5, Nat.zero_le _, S5, ⟨rfl, rfl, rfl, r0, [], rfl, isL e2, .nil⟩, ?_, ?_⟩
  · rintro i v q2 m2 cm2 G2 H3 h4 tk4 o4 E4 hi ⟨tv, rfl⟩ le ⟨rfl, c1, c2, r, us, j1, j2, j3⟩ S6
    refine wpAny_assign_Name (stC (L + 3) S6 fun h7 S7 => ?_)
    have lus : us.length = i := by have := ints_len j3; rw [List.length_map, ordN_len] at this; exact this
    refine wpAny_execs_cons (wpAny_Assign_Name (Call_Name1 (ldB (.builtin "len") S7 (PySem.callWith_builtin1 ?_))))
    refine comp S7 [(sN, L + 1), (sM, L + 2), (Str.ofString "k", L + 3)] i (fun n H ys => ys.length = cntL μ ns i ((ordN μ ns i).take n)) (hA'.up (by decide)) (fun _ _ _ _ _ x => x) (fun n H ys e => ?_) ?_ (by kernel_rfl!) ?_
    · rw [e]; exact Nat.le_trans cntL_le (by rw [List.length_take]; lia)
    · refine ldL (.ref r) S7 ?_ j1
      refine srcL S7 hA'.1 j2 fun I8 o8 h8 S8 src8 => ?_
      refine ⟨I8, _, G2, H3, h8, _, o8, rfl, rfl, (lus ▸ src8), S8, ?_, ?_, ?_⟩
      · simp [cntL]
      · intro n v C env' ys G4 H4 h9 m' E5 tk9 hn9 hv le4 hJ hm' henv' S9 hce
        have hj := ints_at j3 hv
        obtain ⟨x, tx, rfl, hx⟩ := hj
        obtain ⟨j, hjo, rfl⟩ : ∃ j, (ordN μ ns i)[n]? = some j ∧ Int.ofNat j = x := by
          rw [List.getElem?_map] at hx
          cases e : (ordN μ ns i)[n]? with
          | none => rw [e] at hx; cases hx
          | some j => rw [e] at hx; exact ⟨j, rfl, Option.some.inj hx⟩
        have hjlt : j < ns.length := Nat.lt_trans (ordN_lt i j (List.mem_of_getElem? hjo)) hi
        have lvs := ints_len hI
        obtain ⟨vj, evj⟩ : ∃ v, vs[j]? = some v := ⟨vs[j]'(by lia), List.getElem?_eq_getElem _⟩
        obtain ⟨vi, evi⟩ : ∃ v, vs[i]? = some v := ⟨vs[i]'(by lia), List.getElem?_eq_getElem _⟩
        obtain ⟨xj, tj, rfl, exj⟩ := ints_at hI evj
        obtain ⟨xi, ti, rfl, exi⟩ := ints_at hI evi
        have le9 : Le H H4 := fun b o e => le4 _ _ (S7.fs.le _ _ e)
        obtain ⟨fd, hfd⟩ := hm.1
        refine tests1 (wpAny_isTrue_Compare1 ?_)
        refine Call_Name1 (ldC (.ref f) (L + 2) S9 ?_ (hv := c2))
        refine cwF (fd := fd) (Subscript_ (ldC (.ref ax) (L + 1) S9 (ldL (.int (Int.ofNat j) tx) S9 ?_ (hv := hm')) (hv := c1)))
        refine itemL (.int xj tj) S9 (lmono le9 hl) (Int.natCast_nonneg _) (by lia) evj ?_
        refine ⟨S9.sub _ _ (le9 _ _ hfd), ?_⟩
        refine callQ S9 (hA'.up (by decide)) ((hm.up le9).2 _ _ _ _ (fun _ _ e => e) S9.fs.vw xj tj) fun y1 H10 h10 tk10 S10 l10 ⟨t10, e10⟩ => ?_
        subst e10
        have le10 : Le H H10 := fun b o e => l10 _ _ (le9 _ _ e)
        refine Call_Name1 (ldC (.ref f) (L + 2) S10 ?_ (hv := c2))
        refine cwF (fd := fd) (Subscript_ (ldC (.ref ax) (L + 1) S10 (ldC (.int (i : Nat) tv) (L + 3) S10 ?_) (hv := c1)))
        refine itemL (.int xi ti) S10 (lmono le10 hl) (Int.natCast_nonneg _) (by lia) evi ?_
        refine ⟨S10.sub _ _ (le10 _ _ hfd), ?_⟩
        refine callQ S10 (hA'.up (by decide)) ((hm.up le10).2 _ _ _ _ (fun _ _ e => e) S10.fs.vw xi ti) fun y2 H11 h11 tk11 S11 l11 ⟨t11, e11⟩ => ?_
        subst e11
        refine le_int (wpAny_truthy_bool ?_)
        have cn : cntL μ ns i ((ordN μ ns i).take (n + 1)) = cntL μ ns i ((ordN μ ns i).take n) + (if μ xj ≤ μ xi then 1 else 0) := by
          unfold cntL
          rw [List.take_add_one, hjo, List.filter_append, List.length_append]
          congr 1
          have e1 : ns.getD j 0 = xj := by rw [List.getD_eq_getElem?_getD, exj]; rfl
          have e2 : ns.getD i 0 = xi := by rw [List.getD_eq_getElem?_getD, exi]; rfl
          simp only [Option.toList_some, List.filter_cons, List.filter_nil, e1, e2]
          by_cases hc : μ xj ≤ μ xi <;> simp [hc]
        by_cases hc : μ xj ≤ μ xi
        · rw [if_pos (by simpa using hc)]
          refine ldL (.int (Int.ofNat j) tx) S11 ?_ (hv := hm')
          exact ⟨_, _, _, _, rfl, S11.fs, by show (ys ++ _).length = _; rw [cn, if_pos hc, List.length_append, hJ]; rfl⟩
        · rw [if_neg (by simpa using hc)]
          exact ⟨_, _, _, _, rfl, S11.fs, by show ys.length = _; rw [cn, if_neg hc, hJ]; rfl⟩
      · intro D G4 H4 h9 tk9 ys S9 l9 e9 hJ
        have hJ : ys.length = cntL μ ns i (ordN μ ns i) := by rw [hJ, List.take_of_length_le (by rw [ordN_len]; lia)]
        have cle : cntL μ ns i (ordN μ ns i) ≤ us.length := by have := cntL_le (μ := μ) (ns := ns) (k := i) (o := ordN μ ns i); rw [ordN_len] at this; lia
        refine lenL S9 e9 ?_ fun t10 tk10 => ?_
        · rw [hJ]; lia
        rw [hJ]
        refine stL S9 fun h10 S10 => ?_
        refine wpAny_execs_cons (wpAny_Assign_Name (wpAny_BinOp (wpAny_BinOp (Subscript_ (ldL (.ref r) S10 ?_ (hv := j1))))))
        have j2' := lmono l9 j2
        refine wpAny_Slice (wpAny_pure ?_)
        refine ldL (.int (cntL μ ns i (ordN μ ns i) : Nat) t10) S10 (wpAny_pure ?_)
        refine slU S10 j2' cle (by lia) fun r1 H11 h11 S11 l11 e11 => ?_
        refine listE (args_cons (ldC (.int (i : Nat) tv) (L + 3) S11 (args_nil ⟨by simp, ?_⟩)))
        refine mkL S11 fun r2 H12 h12 S12 l12 e12 => ?_
        refine addL S12 (lmono l12 (isL e11)) (isL e12) (by simp; lia) fun r3 H13 h13 S13 l13 e13 => ?_
        refine Subscript_ (ldL (.ref r) S13 ?_ (hv := j1))
        refine wpAny_Slice ?_
        refine ldL (.int (cntL μ ns i (ordN μ ns i) : Nat) t10) S13 (wpAny_pure (wpAny_pure ?_))
        have l13' : Le H4 H13 := fun b o e => l13 _ _ (l12 _ _ (l11 _ _ e))
        refine slF S13 (lmono l13' j2') cle (by lia) fun r4 H14 h14 S14 l14 e14 => ?_
        refine addL S14 (lmono l14 (isL e13)) (isL e14) (by simp; lia) fun r5 H15 h15 S15 l15 e15 => ?_
        refine stL S15 fun h16 S16 => ?_
        have l16 : Le H3 H15 := fun b o e => l15 _ _ (l14 _ _ (l13' _ _ (l9 _ _ e)))
        refine wpAny_execs_nil ⟨.inl rfl, _, _, _, _, H15, h16, _, rfl, S16, l16, rfl, c1, c2, r5, _, rfl, isL e15, ?_⟩
        have n1 := ints_take j3 (cntL μ ns i (ordN μ ns i))
        have n2 := ints_drop j3 (cntL μ ns i (ordN μ ns i))
        have n3 : IntsAre [Value.int (i : Nat) tv] [Int.ofNat i] := .cons _ _ .nil
        have := ints_append (ints_append n1 n3) n2
        simpa [Nats, ordN, insL, List.map_take, List.map_drop] using this
    · intro nm c hh
      have := mem_of_lookup hh
      simp only [List.mem_cons, Prod.mk.injEq, List.not_mem_nil, or_false] at this
      rcases this with ⟨rfl, rfl⟩ | ⟨rfl, rfl⟩ | ⟨rfl, rfl⟩ <;> kernel_rfl!
  · rintro q2 m2 cm2 G2 H3 h4 tk4 S6 le ⟨rfl, c1, c2, r, us, j1, j2, j3⟩
    refine wpAny_execs_cons (wpAny_Return_some (ldL (.ref r) S6 ?_ j1))
    exact k _ _ _ _ _ S6.fs.drop ⟨r, us, rfl, j2, j3⟩
end Mine

end R18_

section R19_
namespace Mine
theorem KF.keep {K : Frag} {C ns m f1 f2 : Addr} {P : Params} (X : KF K C ns m f1 f2 P) : keepIn K (.ref C) = true := by
  obtain ⟨B, tn, qn, e1⟩ := X.c
  have e2 : specialIn K (.ref C) "__call__" = some (some (.builtin "type.__call__")) := by
    unfold specialIn typeIn
    dsimp only
    rw [e1]
    kernel_rfl!
  unfold keepIn
  dsimp only
  rw [e1]
  dsimp only
  rw [e2]
  simp
section
variable {w : World} {A : Around} {E : Value → Shared → Prop} {s : Shared} {Q : Value → Shared → Prop}
theorem cwK {K : Frag} {pos : Pos} {f : Value} {t : Sem Value} (hk : keepIn K f = true) (h : wpAny (model pg w) A t (fun v s₁ => K.In s₁.heap ∧ wpAny (model pg w) A (call f [v]) Q E s₁) E s) : wpAny (model pg w) A (callWith pos f [] [(false, t)] []) Q E s :=
  callWith_of rfl (keeps_K hk) (Calls.evalArgs_plain (Calls.spliced_cons (wpAny_mono h (fun _ _ h₁ => Calls.spliced_nil h₁) fun _ _ e => e)))
theorem isTrueSame {x : Addr} (h : Q (.bool true) s) : wpAny (model pg w) A (compareOp .Is (.ref x) (.ref x)) Q E s := by
  show wpAny _ A (do return .bool (← isSame (.ref x) (.ref x))) Q E s
  unfold isSame
  exact wpAny_bind (ite_t (by simp) (wpAny_pure (wpAny_pure h)))
theorem isNotSame {x y : Addr} {ox oy : Obj} (ne : x ≠ y) (ex : s.heap.get? x = some ox) (ey : s.heap.get? y = some oy) (hc : ox.cls ≠ .type "tuple") (h : Q (.bool false) s) : wpAny (model pg w) A (compareOp .Is (.ref x) (.ref y)) Q E s := by
  show wpAny _ A (do return .bool (← isSame (.ref x) (.ref y))) Q E s
  unfold isSame
  refine wpAny_bind (ite_f (by simpa using ne) ?_)
  refine wpAny_bind (wpAny_load ex ?_)
  refine wpAny_bind (wpAny_load ey ?_)
  split
  · rename_i e1 _ _ _; exact absurd e1 hc
  · exact wpAny_pure (wpAny_pure h)
end
/-- a comprehension that is kept in a cell -/
theorem noSwap {env : Env} {N : List (Str × NameKind)} {L : Addr} {cl : List (Str × Addr)} {elt : PySem.Expr} {gens : List Comprehension} {scope : Scope} {pos tp : Pos} {t : Str} {line : Nat} (e : En env N L cl) (hk : N.lookup t = some .cell) :
    swapsWith (.ListComp elt gens scope pos) (some (.Name t tp)) line env = pure false := by
  unfold swapsWith
  dsimp only
  rw [e.kf, hk]
  have : ((some NameKind.cell : Option NameKind) == some .local) = false := by decide
  simp [this]
/-- median_low, median_high: which one of the sorted row they give -/
def Mid (w : World) (mid : Addr) (pk : Nat → Nat) : Prop :=
  (∃ fd, (K1 w.params).lookup mid = some ⟨.type "function", none, .func fd, #[]⟩) ∧ ∀ {q : QT} {G H h : Heap} {D : Addr} {R : List Value → Prop} {n : Nat} {Γ : Heap → Prop}, Vw w.params q G H h → Γ h → Srt w q Γ H D R → (∀ vs, R vs → vs.length = n) → 1 ≤ n → n ≤ 1000 →
    Fun w q 400 (.ref mid) [.ref D] G H h (fun _ v => ∃ vs, R vs ∧ vs[pk n]? = some v)
theorem mid_low (w : World) : Mid w 34 (fun n => (n - 1) / 2) := ⟨⟨_, fn34 _⟩, fun F g hs hn h1 hz => ml_call F g hs hn h1 hz⟩
theorem mid_high (w : World) : Mid w 41 (fun n => n / 2) := ⟨⟨_, fn41 _⟩, fun F g hs hn h1 hz => mh_call F g hs hn h1 hz⟩
theorem fn74 (P : Params) : (K1 P).lookup 74 = some ⟨.type "function", none, .func (fnOf P 74), #[]⟩ := by kernel_rfl!
theorem top74 (P : Params) : isTop P 74 = true := by kernel_rfl!
theorem body74 (P : Params) : (fnOf P 74).body = .stmts (pBody 11) := by kernel_rfl!
abbrev sMid : Str := Str.ofString "middle"
abbrev sTh : Str := Str.ofString "things"
abbrev sCo : Str := Str.ofString "compared"
abbrev sKey : Str := Str.ofString "key"
abbrev sKeys : Str := Str.ofString "keys"
abbrev sTold : Str := Str.ofString "told"
/-- things, and the numbers in them -/
def Things (H : Heap) (tl : Addr) (ts : List (Addr × Int)) : Prop := H.IsList tl (ts.map fun p => Value.ref p.1).toArray ∧ ∀ p ∈ ts, Thing H p.1 p.2
theorem Things.up {H H' : Heap} {tl : Addr} {ts : List (Addr × Int)} (k : Le H H') (x : Things H tl ts) : Things H' tl ts := ⟨lmono k x.1, fun p hp => (x.2 p hp).up k⟩
def Inns (C : Addr) (ts : List (Addr × Int)) (i : Nat) (H : Heap) (ys : List Value) : Prop :=
  ∃ ks : List (Addr × Addr × Int), ys = ks.map (fun p => Value.ref p.1) ∧ ks.map (fun p : Addr × Addr × Int => p.2) = ts.take i ∧ (∀ p ∈ ks, Inst H C p.1 p.2.1) ∧ (ks.map fun p : Addr × Addr × Int => p.1).Nodup
theorem Inns.up {C : Addr} {ts : List (Addr × Int)} {i : Nat} {H H' : Heap} {ys : List Value} (le : Le H H') (x : Inns C ts i H ys) : Inns C ts i H' ys := let ⟨ks, a1, a2, a3, a4⟩ := x; ⟨ks, a1, a2, fun p hp => (a3 p hp).up le, a4⟩
theorem Inns.len {C : Addr} {ts : List (Addr × Int)} {i : Nat} {H : Heap} {ys : List Value} (x : Inns C ts i H ys) : ys.length ≤ i := by
  obtain ⟨ks, a1, a2, _⟩ := x
  have := congrArg List.length a2
  simp only [List.length_map, List.length_take] at this
  rw [a1, List.length_map]; lia
theorem Inns.step {C x : Addr} {ts : List (Addr × Int)} {i : Nat} {H H' : Heap} {ys : List Value} {pt : Addr × Int} (a : Inns C ts i H ys) (le : Le H H') (en : ts[i]? = some pt) (hx : Inst H' C x pt.1) (hn : H.get? x = none) : Inns C ts (i + 1) H' (ys ++ [.ref x]) := by
  obtain ⟨ks, a1, a2, a3, a4⟩ := a
  refine ⟨ks ++ [(x, pt)], by rw [a1]; simp, by rw [List.map_append, a2, List.take_add_one, en]; rfl, fun p hp => ?_, ?_⟩
  · rcases List.mem_append.mp hp with hp | hp
    · exact (a3 p hp).up le
    · rw [List.mem_singleton] at hp; subst hp; exact hx
  · rw [List.map_append, List.nodup_append]
    refine ⟨a4, by simp, fun a ha b hb e => ?_⟩
    simp only [List.map_cons, List.map_nil, List.mem_singleton] at hb
    obtain ⟨p, hp, rfl⟩ := List.mem_map.mp ha
    obtain ⟨dct, e1, _⟩ := a3 p hp
    rw [e, hb, hn] at e1; cases e1
def tkey (μ : Int → Int) (ts : List (Addr × Int)) (i : Nat) : Int := μ ((ts.getD i default).2)
theorem Srt.mono {w : World} {q : QT} {Γ : Heap → Prop} {H : Heap} {D : Addr} {R R' : List Value → Prop} (k : ∀ vs, R vs → R' vs) (x : Srt w q Γ H D R) : Srt w q Γ H D R' :=
  fun X Z N L cl env G₀ H₀ h₀ m cm G H' h A g d tk os Q E F lx hsz g0 le hA kk => x X Z N L cl env G₀ H₀ h₀ m cm G H' h A g d tk os Q E F lx hsz g0 le hA fun vs r tk' H'' h' hR => kk vs r tk' H'' h' (k vs hR)
/-- the sorted row of the instances -/
theorem srtInns {w : World} {q : QT} {Γ : Heap → Prop} (hΓ : Gm Γ) {H : Heap} {C ns mm f1 f2 c c1 c2 k D : Addr} {μ : Int → Int} (X : KClass H C ns mm f1 f2 c c1 c2 w.params) (hc : H.get? c = some (clO (.ref k))) (hk : Cmp w Γ H k μ)
    (ks : List (Addr × Addr × Int)) (hI : ∀ p ∈ ks, Inst H C p.1 p.2.1 ∧ Thing H p.2.1 p.2.2) (hD : H.IsList D (ks.map fun p => Value.ref p.1).toArray) (h1 : 1 ≤ ks.length) (h64 : ks.length < 64) (p : List Nat) (hp : SO (tkey μ (ks.map fun p : Addr × Addr × Int => p.2)) ks.length p) :
    Srt w q Γ H D (fun vs => vs = p.map fun i => (ks.map fun p => Value.ref p.1).getD i .none) := by
  have ek : kkey μ ks = tkey μ (ks.map fun p : Addr × Addr × Int => p.2) := by
    funext i
    unfold kkey tkey
    simp only [List.getD_eq_getElem?_getD, List.getElem?_map]
    cases ks[i]? <;> rfl
  by_cases h2 : 2 ≤ ks.length
  · exact sortK hΓ X ⟨_, hc, rfl⟩ hk ks hI hD h2 h64 p (ek ▸ hp)
  · match ks, h1, h2, hp, hD with
    | [k0], _, _, hp, hD =>
      have : p = [0] := by
        have := hp.1
        simp only [List.length_singleton] at this
        rw [show List.range 1 = [0] from rfl] at this
        exact List.perm_singleton.mp this
      subst this
      exact (sort1 hD).mono fun vs e => e
    | _ :: _ :: _, _, h2, _, _ => exact absurd (by simp) h2
set_option maxHeartbeats 2000000 in
theorem place_call {w : World} {q : QT} {G H h : Heap} {mid tl c : Addr} {pk : Nat → Nat} {ts : List (Addr × Int)} {μ : Int → Int} {Γ : Heap → Prop} {p : List Nat} {i₀ : Nat} (F : Vw w.params q G H h) (hM : Mid w mid pk) (hT : Things H tl ts) (hc : Cmp w Γ H c μ) (hΓ : Gm Γ) (g0 : Γ h) (h1 : 1 ≤ ts.length) (h64 : ts.length < 64)
    (hp : SO (tkey μ ts) ts.length p) (hi : p[pk ts.length]? = some i₀) :
    Fun w q 380 (.ref 74) [.ref mid, .ref tl, .ref c] G H h (fun H' v => ∃ r t, v = .ref r ∧ H'.IsList r [Value.int (i₀ : Nat) t].toArray) := by
  intro A g d tk os Q E hA k
  refine enter (fun L => [L + 1, L + 2, L + 3]) (binds := [(sMid, .ref mid), (sTh, .ref tl), (sCo, .ref c)]) (body := pBody 11) F hA (by decide) (F.okh.K 74 _ (fn74 _)) (isTop.rec (top74 _) F.okh.K) (body74 _) (by kernel_rfl!) (by kernel_rfl!) ?_ ?_ (by kernel_rfl!) (by kernel_rfl!) (by kernel_rfl!) (by kernel_rfl!) (by kernel_rfl!) ?_
  · intro x hx
    simp only [List.mem_cons, List.not_mem_nil, or_false] at hx
    rcases hx with rfl | rfl | rfl <;> exact .inl (by kernel_rfl!)
  · intro L y hy
    simp only [List.mem_cons, List.not_mem_nil, or_false] at hy
    rcases hy with rfl | rfl | rfl
    · exact ⟨sKey, by kernel_rfl!⟩
    · exact ⟨sKeys, by kernel_rfl!⟩
    · exact ⟨sTold, by kernel_rfl!⟩
  intro L h₁ tk₁ E' env A' henv S0 hA' hL; clear henv
  refine wpAny_execs_cons (wpAny_Assign_Name (Call_Name1 (ldG (.ref 48) S0 (cwF (fd := fnOf w.params 48) (ldL (.ref c) S0 ⟨S0.fs.okh.K 48 _ (isFn48 _), ?_⟩)))))
  refine callF S0 (hA'.up (by decide)) (ctk_call S0.fs.vw (.ref c)) fun v G1 H1 h1' tk1 S1 l1 ⟨C, ev, ns, mm, f1, f2, cc, c1, c2, KC, hcc⟩ => ?_
  subst ev
  refine stC (L + 1) S1 fun h2 S2 => ?_
  obtain ⟨K, XK, Y⟩ := kf_of KC
  refine wpAny_execs_cons (wpAny_Assign_Name ?_ (noSwap S2.en (by kernel_rfl!)))
  refine comp S2 [(sKey, L + 1)] ts.length (Inns C ts) (hA'.up (by decide)) (fun i H H' ys le x => x.up le) (fun i H ys x => x.len) ?_ (by kernel_rfl!) ?_
  · refine ldL (.ref tl) S2 ?_
    refine srcL S2 hA'.1 (hT.up S2.fs.le).1 fun I3 o3 h3 S3 src3 => ?_
    have src3' := src3
    rw [List.length_map] at src3'
    refine ⟨I3, _, G1, H1, h3, _, o3, rfl, rfl, src3', S3, ⟨[], rfl, rfl, fun p hp => absurd hp (by simp), by simp⟩, ?_, ?_⟩
    · intro n v Ca env' ys G4 H4 h4 m' E5 tk5 hn hv le4 hJ hm' henv' S4 hce
      rw [List.getElem?_map] at hv
      cases en : ts[n]? with
      | none => rw [en] at hv; cases hv
      | some pt =>
      rw [en] at hv; obtain rfl := Option.some.inj hv
      refine tests0 ?_
      rw [if_pos rfl]
      refine Call_Name1 (ldC (.ref C) (L + 1) S4 ?_)
      refine cwK Y.keep (ldL (.ref pt.1) S4 ⟨Frag.keepIn XK (fun b o e => S4.sub _ _ (le4 _ _ e)), ?_⟩ (hv := hm'))
      refine callQ S4 (hA'.up (by decide)) (key_call S4.fs.vw (KC.grow le4) pt.1) fun v H5 h5 tk6 S5 l5 ⟨x, ev, hx, hnone⟩ => ?_
      subst ev
      exact ⟨_, _, _, _, rfl, S5.fs, hJ.step l5 en hx hnone⟩
    · intro D G4 H4 h4 tk4 ys S4 l4 e4 ⟨ks, a1, a2, a3, a4⟩
      rw [List.take_length] at a2
      subst a1
      have lks : ks.length = ts.length := by rw [← a2, List.length_map]
      have hi0 : i₀ < ts.length := by
        have := hp.1.mem_iff.mp (List.mem_of_getElem? hi)
        simpa using this
      obtain ⟨k0, ek0⟩ : ∃ k0, ks[i₀]? = some k0 := ⟨ks[i₀]'(by lia), List.getElem?_eq_getElem _⟩
      refine stC (L + 2) S4 fun h5 S5 => ?_
      obtain ⟨fm, efm⟩ := hM.1
      have leH : Le H H4 := fun b o e => l4 _ _ (l1 _ _ e)
      refine wpAny_execs_cons (wpAny_Assign_Name (Call_Name1 (ldL (.ref mid) S5 ?_)))
      refine cwF (fd := fm) (ldC (.ref D) (L + 2) S5 ⟨S5.fs.okh.K _ _ efm, ?_⟩)
      refine callF S5 (hA'.up (by decide)) (hM.2 (n := ts.length) (Γ := Γ) (R := fun vs => vs = p.map fun i => (ks.map fun p => Value.ref p.1).getD i .none) S5.fs.vw (hΓ _ _ S5.fs.kp g0) (srtInns hΓ (KC.grow l4) (l4 _ _ hcc) (hc.up leH) ks (fun p hp => ⟨a3 p hp, ?_⟩) e4 (by lia) (by lia) p (by rw [lks, a2]; exact hp)) ?_ h1 (by lia)) fun v G6 H6 h6 tk6 S6 l6 ⟨vs, evs, hv⟩ => ?_
      · exact (hT.2 p.2 (a2 ▸ List.mem_map_of_mem (f := fun p : Addr × Addr × Int => p.2) hp)).up leH
      · intro vs e; rw [e, List.length_map, hp.1.length_eq, List.length_range]
      have ev : v = .ref k0.1 := by
        rw [evs, List.getElem?_map, hi] at hv
        simp only [Option.map_some, Option.some.injEq, List.getD_eq_getElem?_getD, List.getElem?_map, ek0, Option.getD_some] at hv
        exact hv.symm
      subst ev
      refine stC (L + 3) S6 fun h7 S7 => ?_
      refine wpAny_execs_cons (wpAny_Return_some ?_)
      refine comp S7 [(sTold, L + 3), (sKeys, L + 2)] ts.length (fun i H ys => if i₀ < i then ∃ t, ys = [Value.int (i₀ : Nat) t] else ys = []) (hA'.up (by decide)) (fun _ _ _ _ _ x => x) (fun i H ys x => ?_) ?_ (by kernel_rfl!) ?_
      · split at x
        · obtain ⟨t, rfl⟩ := x; simp; lia
        · rw [x]; simp
      · refine Call_Name1 (ldB (.type "range") S7 (PySem.callWith_type1 ?_))
        refine Call_Name1 (ldB (.builtin "len") S7 (PySem.callWith_builtin1 (ldC (.ref D) (L + 2) S7 ?_)))
        refine lenL S7 (lmono l6 e4) (by rw [List.length_map]; lia) fun t tk8 => ?_
        rw [List.length_map, lks]
        refine srcR S7 hA'.1 (by lia) fun I9 o9 h9 tk9 S9 src9 => ?_
        refine ⟨I9, _, G6, H6, h9, tk9, o9, rfl, rfl, src9, S9, by simp, ?_, ?_⟩
        · rintro n v Ca env' ys G10 H10 h10 m' E10 tk10 hn ⟨tn, rfl⟩ le10 hJ hm' henv' S10 hce
          obtain ⟨kn, ekn⟩ : ∃ kn, ks[n]? = some kn := ⟨ks[n]'(by lia), List.getElem?_eq_getElem _⟩
          refine tests1 (wpAny_isTrue_Compare1 ?_)
          refine Subscript_ (ldC (.ref D) (L + 2) S10 (ldL (.int (n : Nat) tn) S10 ?_ (hv := hm')))
          refine itemL (.ref kn.1) S10 (lmono le10 (lmono l6 e4)) (Int.natCast_nonneg _) (by rw [List.length_map]; lia) (by rw [Int.toNat_natCast, List.getElem?_map, ekn]; rfl) ?_
          refine ldC (.ref k0.1) (L + 3) S10 ?_
          have lt0 : i₀ < ks.length := by lia
          have ltn : n < ks.length := by lia
          by_cases e : n = i₀
          · subst e
            rw [ekn] at ek0; cases ek0
            refine isTrueSame (wpAny_truthy_bool ?_)
            rw [if_pos rfl]
            refine ldL (.int (n : Nat) tn) S10 ?_ (hv := hm')
            refine ⟨_, _, _, _, rfl, S10.fs, ?_⟩
            rw [if_neg (Nat.lt_irrefl _)] at hJ
            subst hJ
            show if n < n + 1 then _ else _
            rw [if_pos (Nat.lt_succ_self _)]
            exact ⟨tn, rfl⟩
          · have nk : kn.1 ≠ k0.1 := fun q => by
              obtain ⟨l1', g1⟩ := List.getElem?_eq_some_iff.mp ekn
              obtain ⟨l2', g2⟩ := List.getElem?_eq_some_iff.mp ek0
              have : (ks.map fun p : Addr × Addr × Int => p.1)[n]'(by rw [List.length_map]; lia) = (ks.map fun p : Addr × Addr × Int => p.1)[i₀]'(by rw [List.length_map]; lia) := by
                rw [List.getElem_map, List.getElem_map, g1, g2, q]
              exact e ((List.getElem_inj a4).mp this)
            obtain ⟨d1, x1, _⟩ := a3 kn (List.mem_of_getElem? ekn)
            obtain ⟨d2, x2, _⟩ := a3 k0 (List.mem_of_getElem? ek0)
            refine isNotSame nk (S10.sub _ _ (le10 _ _ (l6 _ _ x1))) (S10.sub _ _ (le10 _ _ (l6 _ _ x2))) (by simp) (wpAny_truthy_bool ?_)
            rw [if_neg (by simp)]
            refine ⟨_, _, _, _, rfl, S10.fs, ?_⟩
            show if i₀ < n + 1 then _ else _
            by_cases e2 : i₀ < n
            · rw [if_pos e2] at hJ; rw [if_pos (by lia)]; exact hJ
            · rw [if_neg e2] at hJ; rw [if_neg (by lia)]; exact hJ
        · intro D2 G10 H10 h10 tk10 ys S10 l10 e10 hJ
          rw [if_pos hi0] at hJ
          obtain ⟨t2, rfl⟩ := hJ
          exact k _ _ _ _ _ S10.fs.drop ⟨D2, t2, rfl, e10⟩
      · intro nm c hh
        have := mem_of_lookup hh
        simp only [List.mem_cons, Prod.mk.injEq, List.not_mem_nil, or_false] at this
        rcases this with ⟨rfl, rfl⟩ | ⟨rfl, rfl⟩ <;> kernel_rfl!
  · intro nm c hh
    have := mem_of_lookup hh
    simp only [List.mem_cons, Prod.mk.injEq, List.not_mem_nil, or_false] at this
    obtain ⟨rfl, rfl⟩ := this
    kernel_rfl!
end Mine

end R19_

section R20_
namespace Mine
/-! the exception's class -/
abbrev sSE : Str := Str.ofString "StatisticsError"
abbrev bmVE : List Value := [.type "ValueError", .type "Exception", .type "BaseException", .type "object"]
abbrev o24 : Obj := excClassObj sSE sSE 24 23 [.type "ValueError"] bmVE true [] [] false none none (some (.ref 15)) none (some (.str sSE 189)) (some (.str sSE 197)) (some (.bool true)) "ValueError.__new__"
theorem get24 (P : Params) : (K1 P).lookup 24 = some o24 := by kernel_rfl!
noncomputable def es23 (P : Params) : Array DictEntry := match (K1 P).lookup 23 with
  | some ⟨_, _, .dict es _, _⟩ => es
  | _ => #[]
noncomputable def ep23 (P : Params) : Nat := match (K1 P).lookup 23 with
  | some ⟨_, _, .dict _ n, _⟩ => n
  | _ => 0
noncomputable def o23 (P : Params) : Obj := ((K1 P).lookup 23).getD default
theorem get23 (P : Params) : (K1 P).lookup 23 = some (o23 P) := by kernel_rfl!
noncomputable def mN (P : Params) (x : Str) : Option Value := nsFind (es23 P) x
theorem strKeys_of {es : Array DictEntry} (h : (es.toList.all fun e => match e.key with | .str .. => true | _ => false) = true) : StrKeys es := fun e he => by
  have := List.all_eq_true.mp h e (by simpa using he)
  split at this
  · rename_i n t e2; exact ⟨n, t, e2⟩
  · cases this
theorem ns23 {P : Params} {h : Heap} (hK : (K1 P).In h) : h.Ns 23 (mN P) :=
  ⟨o23 P, es23 P, ep23 P, hK 23 _ (get23 P), by kernel_rfl!, strKeys_of (by kernel_rfl!), fun _ => rfl⟩
theorem own24 {P : Params} {h : Heap} (hK : (K1 P).In h) : OwnClsQ sSE 24 bmVE "ValueError.__new__" (fun _ => some (.ref 24)) h := by
  refine ⟨rfl, bmVE, 23, _, _, _, _, _, _, _, _, _, _, _, _, _, _, mN P, hK 24 _ (get24 P), ns23 hK, fun n hn => ?_, .base⟩
  simp only [quietNames, List.mem_cons, List.not_mem_nil, or_false] at hn
  rcases hn with rfl | rfl | rfl | rfl <;> kernel_rfl!
/-! str of it -/
section
variable {prog : Program} {w : World} {P : Params} {A : Around} {E : Value → Shared → Prop} {s : Shared} {e t0 : Addr}
theorem rdG {α : Type} {t : Sem α} (os : List Obj) (r : α) (l : List Addr) {Q : α → Shared → Prop} (e : feed ⟨prog, w.params⟩ 5000 os t = some (r, l)) (f : Fed s.heap l os) (h : Q r s) : wpAny (model prog w) A t Q E s := feed_wp (M := model prog w) rfl 5000 os t e f h
def ExcOwn (P : Params) (h : Heap) (e t0 : Addr) : Prop := (K1 P).In h ∧ ∃ o vs, h.get? e = some o ∧ o.cls = .ref 24 ∧ o.data = .fields vs ∧ vs[0]? = some (.ref t0)
theorem bexcArgs_own {items : List Value} {Q : Value × List Value → Shared → Prop} (x : ExcOwn P s.heap e t0) (ht : s.heap.TupAt t0 items) (hq : Q (.ref t0, items) s) : wpAny (model prog w) A (Builtin.BaseException.bexcArgs (.ref e)) Q E s := by
  obtain ⟨_, o, vs, ho, _, hd, h0⟩ := x
  obtain ⟨ot, k, hto, _, htd⟩ := ht
  unfold Builtin.BaseException.bexcArgs
  refine wpAny_bind (wpAny_field ho hd h0 (wpAny_bind (wpAny_seqItems hto htd ?_)))
  have : items.toArray.toList = items := by simp
  show wpAny _ A (pure (Value.ref t0, items.toArray.toList)) Q E s
  rw [this]; exact wpAny_pure hq
theorem callStr_own {m : Str} {tk : Tok} {Q : Value → Shared → Prop} (x : ExcOwn P s.heap e t0) (ht : s.heap.TupAt t0 [.str m tk]) (hq : Q (.str m tk) s) : wpAny (model prog w) A (call (.builtin "BaseException.__str__") [.ref e]) Q E s := by
  obtain ⟨hK, ⟨c0, d0, dt0, sl0⟩, vs, ho, hc, hd, h0⟩ := id x
  dsimp only at hc hd
  subst hc hd
  refine wpAny_call (codeAny_call_builtin (by kernel_rfl!) F.entry_bexc_str ?_)
  refine rdG [⟨.ref 24, d0, .fields vs, sl0⟩, o24] () [e, 24] (by kernel_rfl!) ⟨ho, hK 24 _ (get24 _), trivial⟩ ?_
  unfold Builtin.«BaseException.__str__»
  repeat (first | with_reducible refine bexcArgs_own x ht ?_ | wp_step)
  exact hq
theorem strOf_own {m : Str} {tk : Tok} {Q : Value → Shared → Prop} (hu : A.units < cLine) (x : ExcOwn P s.heap e t0) (ht : s.heap.TupAt t0 [.str m tk]) (hq : Q (.str m tk) s) : wpAny (model prog w) A (PySem.Builtin.Str.strOf (.ref e)) Q E s := by
  obtain ⟨hK, ⟨c0, d0, dt0, sl0⟩, vs, ho, hc, hd, h0⟩ := id x
  dsimp only at hc hd
  subst hc hd
  unfold PySem.Builtin.Str.strOf
  have cs : ∀ {Q : Option Value → Shared → Prop}, Q (some (.str m tk)) s → wpAny (model prog w) A (callSpecial? (.ref e) (Str.ofString "__str__")) Q E s := fun {Q} hq => by
    unfold callSpecial?
    refine wpAny_bind (rdG [⟨.ref 24, d0, .fields vs, sl0⟩, o24, o24, o23 P] (some (.builtin "BaseException.__str__")) [e, 24, 24, 23] (by kernel_rfl!) ⟨ho, hK 24 _ (get24 _), hK 24 _ (get24 _), hK 23 _ (get23 _), trivial⟩ ?_)
    refine wpAny_holding (wpAny_bind (rdG [] (.builtin "BaseException.__str__", [.ref e]) [] (by kernel_rfl!) trivial ?_))
    exact wpAny_bind (callStr_own x ht (wpAny_pure hq))
  repeat (first | with_reducible refine wpAny_cRoomFor hu ?_ | with_reducible refine cs ?_ | wp_step)
  exact hq
theorem str_own {m : Str} {tk : Tok} {Q : Value → Shared → Prop} (hu : A.units + 2 < cLine) (x : ExcOwn P s.heap e t0) (ht : s.heap.TupAt t0 [.str m tk]) (h : Q (.str m tk) s) : wpAny (model prog w) A (call (.type "str") [.ref e]) Q E s :=
  callType_new F.called_str (by decide) (F.typeCall_str_1 _) (F.newCall_str_1 _) (fun obj => F.args_object_init_2 obj _) F.entry_str_new
    (meets_str_new (S := fun A' R s' => A'.units + 1 < cLine ∧ ExcOwn P s'.heap e t0 ∧ s'.heap.TupAt t0 [.str m tk] ∧ R (.ok (.ret (.str m tk))) s')
      fun pr w' A' R' s' hq => strOf_own (A := A'.in1) (Q := fun r s' => R' (.ok (.ret r)) s') hq.1 hq.2.1 hq.2.2.1 hq.2.2.2)
    ⟨(show A.units + 1 + 1 < cLine from hu), x, ht, typeIs_str _ _ _, h⟩
end
end Mine

end R20_

section R21_
namespace Mine
section
variable {w : World} {A : Around} {q : QT} {G H h : Heap} {g : Array GenState} {d : Drawn} {tk : Nat} {os : OsState} {E : Value → Shared → Prop}
abbrev noZ (h : Heap) (Z : List (Addr × Obj)) : Heap := res h fun b => !(Z.any fun p => p.1 == b)
theorem noZ_get {h : Heap} {Z : List (Addr × Obj)} {b : Addr} (hb : ∀ p ∈ Z, p.1 ≠ b) : (noZ h Z).get? b = h.get? b := by
  rw [res_get, if_pos]
  rw [Bool.not_eq_true', List.any_eq_false]
  intro p hp
  simpa using hb p hp
theorem noZ_none {h : Heap} {Z : List (Addr × Obj)} {p : Addr × Obj} (hp : p ∈ Z) : (noZ h Z).get? p.1 = none := by
  rw [res_get, if_neg]
  simp only [Bool.not_eq_true', Bool.not_eq_false]
  exact List.any_eq_true.mpr ⟨p, hp, by simp⟩
theorem noZ_le {h : Heap} {Z : List (Addr × Obj)} {b : Addr} {o : Obj} (e : (noZ h Z).get? b = some o) : h.get? b = some o ∧ ∀ p ∈ Z, p.1 ≠ b := by
  rw [res_get] at e
  split at e
  · rename_i hp
    refine ⟨e, fun p hp' q => ?_⟩
    rw [Bool.not_eq_true', List.any_eq_false] at hp
    exact hp p hp' (by simpa using q)
  · cases e
/-- what raises leaves the frame -/
abbrev leavesTo (w : World) (A : Around) (env : Env) (E : Value → Shared → Prop) : Value → Shared → Prop := fun e s' => wpAny (model pg w) (A.deeper env) (leaving env e) (fun _ s'' => E e s'') (fun e' s'' => E e' s'') s'
theorem enterZ {Q : Value → Shared → Prop} {n : Nat} {a : Addr} {fd : FuncData} {body : List Stmt} {vals : List Value} {binds : List (Str × Value)} (Z : List (Addr × Obj)) (F : Vw w.params q G H h) (hZ : ∀ p ∈ Z, h.get? p.1 = some p.2 ∧ p.1 ∉ T0 ∧ H.get? p.1 = none ∧ G.get? p.1 = none) (hA : Ar A n) (hn : n ≤ 440)
    (ho : h.get? a = some ⟨.type "function", none, .func fd, #[]⟩) (hcd : h.CodeRec fd.code fd.qualname) (hbody : fd.body = .stmts body) (hbind : bindArgs fd ⟨vals, []⟩ = pure binds)
    (hcl : fd.closure = []) (hc : (fd.scope.names.all fun y => y.2 != .cell) = true) (hl : (binds.all fun y => fd.scope.names.lookup y.1 == some .local) = true)
    (hco : fd.scope.isCoroutine = false) (hgen : fd.scope.isGenerator = false) (hk : fd.scope.kind = .function) (hgl : fd.globals = 3) (hbl : fd.builtins = 0)
    (k : ∀ L h₁ tk₁ env, env = newEnv fd.scope L fd.globals fd.closure (fd.qualname ++ ".<locals>.") (some a) fd.code none fd.builtins → S w.params q [L] Z fd.scope.names L fd.closure env G H (noZ h Z) (fun x => binds.reverse.lookup x) (fun _ => none) G H h₁ → h.objs.size = L →
      wpAny (model pg w) (A.deeper env) (execs body env) (fun f s' => Q (match f with | .ret v => v | _ => .none) s') (leavesTo w A env E) ⟨h₁, g, d, tk₁, os⟩) :
    wpAny (model pg w) A (call (.ref a) vals) Q E ⟨h, g, d, tk, os⟩ := by
  refine wpAny_call (codeAny_call_function (fd := fd) (body := body) (by have := hA.2.1; show A.depth < 1000; lia) ho rfl hco hgen hbody hcd ?_)
  rw [hbind]
  refine wpAny_pure (frame0 F (fun _ => none) (fun n c e => by rw [hcl] at e; cases e) (fun n n' c e => by rw [hcl] at e; cases e) hc hl hk hgl hbl fun L h₁ tk₁ env henv hL S0 => ⟨S0.fs.noLimit, codeAny_func ?_⟩)
  have eL : h.get? L = none := hL ▸ Heap.get?_none_of_le (Nat.le_refl _)
  have kpall : Le h h₁ := fun b o e => by
    by_cases hb : b ∈ T0
    · obtain ⟨l, e1⟩ := F.ok.tabs hb
      have e2 := (F.g _ _ e1).1
      rw [e] at e2; cases e2
      exact (S0.fs.g _ _ e1).1
    · exact S0.fs.kp b o hb e
  have S1 : S w.params q [L] Z fd.scope.names L fd.closure env G H (noZ h Z) (fun x => binds.reverse.lookup x) (fun _ => none) G H h₁ := by
    refine ⟨S0.en, ⟨S0.fs.ok, fun b o e => ⟨(S0.fs.g b o e).1, (S0.fs.g b o e).2.1, .inl e⟩, fun _ _ e => e, fun b o e => ⟨(S0.fs.at' b o e).1, (S0.fs.at' b o e).2.1, (S0.fs.at' b o e).2.2.1, .inl e⟩, fun b o n e => kpall _ _ (noZ_le e).1, fun x hx => ?_, fun b hb => ?_⟩, S0.ns, S0.lt, S0.cell, S0.apart, fun p hp => ?_⟩
    · have hx' := List.mem_singleton.mp hx
      subst hx'
      refine ⟨?_, (S0.fs.xs _ hx).2⟩
      cases e : (noZ h Z).get? x with
      | none => rfl
      | some o => have := (noZ_le e).1; rw [eL] at this; cases this
    · obtain ⟨o, e⟩ := F.tt b hb
      exact ⟨o, (noZ_get fun p hp q => (hZ p hp).2.1 (q ▸ hb)).trans e⟩
    · obtain ⟨z1, z2, z3, z4⟩ := hZ p hp
      have nL : p.1 ∉ [L] := by
        intro hm
        rw [List.mem_singleton.mp hm, eL] at z1; cases z1
      exact ⟨kpall _ _ z1, nL, z2, z3, z4, noZ_none hp⟩
  exact k L h₁ tk₁ env henv S1 hL
end
abbrev msgT : Str := Str.ofString "no median for empty data"
/-- the exception as it reaches the frame of _law_refused -/
def Flies (w : World) (g : Array GenState) (d : Drawn) (os : OsState) (h : Heap) (er eL : Env) (Lr LL : Addr) (oR oL : Obj) (E : Value → Shared → Prop) : Prop :=
  ∀ e t tm bs h' tk', (∀ b o, b ≠ Lr → b ≠ LL → h.get? b = some o → bs.get? b = some o) → bs.get? Lr = none → bs.get? LL = none → Heap.FlyingW bs [er, eL] e (.ref 24) (.ref t) h' → h'.TupAt t [.str msgT tm] → bs.get? t = none →
    (∃ sl, h'.get? Lr = some { oR with slots := sl }) → (∃ sl, h'.get? LL = some { oL with slots := sl }) → E (.ref e) ⟨h', g, d, tk', os⟩
set_option maxHeartbeats 2000000 in
theorem med_raise34 {w : World} {A : Around} {q : QT} {G H h : Heap} {g : Array GenState} {d : Drawn} {tk : Nat} {os : OsState} {E : Value → Shared → Prop} {Q : Value → Shared → Prop} {er eL : Env} {Lr LL D : Addr} {oR oL : Obj}
    (F : Vw w.params q G H h) (hZ : ∀ p ∈ [(Lr, oR), (LL, oL)], h.get? p.1 = some p.2 ∧ p.1 ∉ T0 ∧ H.get? p.1 = none ∧ G.get? p.1 = none) (hA : Ar A 400) (hfr : A.frames = some [er, eL]) (fr : er.frame = some Lr) (fL : eL.frame = some LL) (kr : er.scope.kind ≠ .module) (kL : eL.scope.kind ≠ .module)
    (dR : ∀ vs, oR.data ≠ .fields vs) (dL : ∀ vs, oL.data ≠ .fields vs) (hD : H.IsList D ([] : List Value).toArray) (k : Flies w g d os h er eL Lr LL oR oL E) :
    wpAny (model pg w) A (call (.ref 34) [.ref D]) Q E ⟨h, g, d, tk, os⟩ := by
  refine enterZ (n := 400) [(Lr, oR), (LL, oL)] (binds := [(Str.ofString "data", .ref D)]) (body := pBody 2) F hZ hA (by decide) (F.okh.K 34 _ (fn34 _)) (isTop.rec (top34 _) F.okh.K) (by kernel_rfl!) (by kernel_rfl!) (by kernel_rfl!) (by kernel_rfl!) (by kernel_rfl!) (by kernel_rfl!) (by kernel_rfl!) (by kernel_rfl!) (by kernel_rfl!) (by kernel_rfl!) ?_
  intro L h₁ tk₁ env henv S0 hL
  have fe : env.frame = some L := by rw [henv]; kernel_rfl!
  have hA' : Ar (A.deeper env) 403 := hA.deeper (by decide)
  have hfr' : (A.deeper env).frames = some [env, er, eL] := Around.frames_deeper hfr
  clear henv
  refine wpAny_execs_cons (wpAny_Assign_Name (Call_Name1 (ldB (.builtin "sorted") S0 (PySem.callWith_builtin1 (ldL (.ref D) S0 ?_)))))
  refine sortI (Γ := fun _ => True) hD .nil (by decide) _ _ _ _ _ _ _ _ _ _ _ _ _ _ _ _ _ _ _ _ _ S0 List.mem_cons_self ?_ trivial (fun _ _ e => e) (hA'.up (by decide)) fun vs r tk2 H2 h2 ⟨ns', i1, i2, _⟩ S2 l2 e2 => ?_
  · rw [← hL]
    show (res h _).objs.size ≤ _
    unfold res
    simp
  have : vs = [] := by
    have := List.perm_nil.mp i2
    subst this
    cases i1; rfl
  subst this
  refine stL S2 fun h3 S3 => ?_
  refine wpAny_execs_cons (wpAny_Assign_Name (Call_Name1 (ldB (.builtin "len") S3 (PySem.callWith_builtin1 (ldL (.ref r) S3 ?_)))))
  refine lenL S3 e2 (by decide) fun t tk4 => ?_
  refine stL S3 fun h5 S5 => ?_
  refine wpAny_execs_cons (wpAny_If ?_)
  refine wpAny_isTrue_Compare1 (ldL (.int (0 : Nat) t) S5 (wpAny_Constant_int (eq_int (wpAny_truthy_bool ?_))))
  refine wpAny_execs_cons ?_
  refine wpAny_Raise_call_sub (nm := sSE) (q := sSE) (C := 24) (N := 23) (bs := [.type "ValueError"]) (bm := bmVE) (hdct := true) (sn := []) (sub := []) (ab := false) (col := none) (dd := none) (k0 := some (.ref 15)) (k1 := none) (k2 := some (.str sSE 189)) (k3 := some (.str sSE 197)) (k5 := some (.bool true)) (mN := mN w.params) PySem.F.excBase_ValueError hA'.1 rfl (by kernel_rfl!) ?_
  refine ldG (.ref 24) S5 ⟨rfl, ?_⟩
  refine Calls.evalArgs_plain (Calls.spliced_cons ?_)
  refine wpAny_Constant_str (k := 0) (pos := default) ?_
  refine Calls.spliced_nil ?_
  refine ⟨rfl, by rw [sizeLine_eq]; simp, S5.fs.okh.K 24 _ (get24 _), ns23 S5.fs.okh.K, fun h6 e hx => ?_⟩
  have zR := S5.fr (Lr, oR) (by simp)
  have zL := S5.fr (LL, oL) (by simp)
  dsimp only at zR zL
  obtain ⟨oM, esM, epM, eM, dM, _⟩ := id S5.ns
  rw [S5.en.lc] at eM
  have nM : h.get? L = none := hL ▸ Heap.get?_none_of_le (Nat.le_refl _)
  have nLR : L ≠ Lr := fun q => by have := (hZ (Lr, oR) (by simp)).1; dsimp only at this; rw [← q, nM] at this; cases this
  have nLL : L ≠ LL := fun q => by have := (hZ (LL, oL) (by simp)).1; dsimp only at this; rw [← q, nM] at this; cases this
  obtain ⟨bs, hbs⟩ : ∃ bs, bs = noZ h5 [(L, oM), (Lr, oR), (LL, oL)] := ⟨_, rfl⟩
  have bget : ∀ b, b ≠ L → b ≠ Lr → b ≠ LL → bs.get? b = h5.get? b := fun b h1 h2 h3 => by
    rw [hbs]
    refine noZ_get fun p hp => ?_
    simp only [List.mem_cons, List.not_mem_nil, or_false] at hp
    rcases hp with rfl | rfl | rfl
    · exact h1.symm
    · exact h2.symm
    · exact h3.symm
  have bM : bs.get? L = none := by rw [hbs]; exact noZ_none (p := (L, oM)) (by simp)
  have bR : bs.get? Lr = none := by rw [hbs]; exact noZ_none (p := (Lr, oR)) (by simp)
  have bL : bs.get? LL = none := by rw [hbs]; exact noZ_none (p := (LL, oL)) (by simp)
  refine wpAny_leaves_madeW (base := bs) hfr' fe (fun b o e2 => (noZ_le (hbs ▸ e2)).1) ⟨?_, ⟨L, oM, fe, bM, eM, fun vs q => by rw [dM] at q; cases q⟩, kr, ⟨Lr, oR, fr, bR, zR.1, dR⟩, kL, ⟨LL, oL, fL, bL, zL.1, dL⟩, trivial⟩ hx fun h7 t7 fl tup bt up => ?_
  · rw [S5.en.kind]; simp
  refine k e t7 _ bs h7 _ (fun b o n1 n2 e2 => ?_) bR bL fl tup bt ?_ ?_
  · have nb : b ≠ L := fun q => by rw [q, nM] at e2; cases e2
    rw [bget b nb n1 n2]
    by_cases hb : b ∈ T0
    · obtain ⟨l, e3⟩ := F.ok.tabs hb
      have e4 := (F.g _ _ e3).1
      rw [e2] at e4; cases e4
      exact (S5.fs.g _ _ e3).1
    · refine S5.fs.kp b o hb ((noZ_get fun p hp => ?_).trans e2)
      simp only [List.mem_cons, List.not_mem_nil, or_false] at hp
      rcases hp with rfl | rfl
      · exact n1.symm
      · exact n2.symm
  · exact up _ _ (hx.keeps _ _ zR.1) dR
  · exact up _ _ (hx.keeps _ _ zL.1) dL
end Mine

end R21_

section R22_
namespace Mine
set_option maxHeartbeats 2000000 in
theorem med_raise41 {w : World} {A : Around} {q : QT} {G H h : Heap} {g : Array GenState} {d : Drawn} {tk : Nat} {os : OsState} {E : Value → Shared → Prop} {Q : Value → Shared → Prop} {er eL : Env} {Lr LL D : Addr} {oR oL : Obj}
    (F : Vw w.params q G H h) (hZ : ∀ p ∈ [(Lr, oR), (LL, oL)], h.get? p.1 = some p.2 ∧ p.1 ∉ T0 ∧ H.get? p.1 = none ∧ G.get? p.1 = none) (hA : Ar A 400) (hfr : A.frames = some [er, eL]) (fr : er.frame = some Lr) (fL : eL.frame = some LL) (kr : er.scope.kind ≠ .module) (kL : eL.scope.kind ≠ .module)
    (dR : ∀ vs, oR.data ≠ .fields vs) (dL : ∀ vs, oL.data ≠ .fields vs) (hD : H.IsList D ([] : List Value).toArray) (k : Flies w g d os h er eL Lr LL oR oL E) :
    wpAny (model pg w) A (call (.ref 41) [.ref D]) Q E ⟨h, g, d, tk, os⟩ := by
  refine enterZ (n := 400) [(Lr, oR), (LL, oL)] (binds := [(Str.ofString "data", .ref D)]) (body := pBody 3) F hZ hA (by decide) (F.okh.K 41 _ (fn41 _)) (isTop.rec (top41 _) F.okh.K) (by kernel_rfl!) (by kernel_rfl!) (by kernel_rfl!) (by kernel_rfl!) (by kernel_rfl!) (by kernel_rfl!) (by kernel_rfl!) (by kernel_rfl!) (by kernel_rfl!) (by kernel_rfl!) ?_
  intro L h₁ tk₁ env henv S0 hL
  have fe : env.frame = some L := by rw [henv]; kernel_rfl!
  have hA' : Ar (A.deeper env) 403 := hA.deeper (by decide)
  have hfr' : (A.deeper env).frames = some [env, er, eL] := Around.frames_deeper hfr
  clear henv
  refine wpAny_execs_cons (wpAny_Assign_Name (Call_Name1 (ldB (.builtin "sorted") S0 (PySem.callWith_builtin1 (ldL (.ref D) S0 ?_)))))
  refine sortI (Γ := fun _ => True) hD .nil (by decide) _ _ _ _ _ _ _ _ _ _ _ _ _ _ _ _ _ _ _ _ _ S0 List.mem_cons_self ?_ trivial (fun _ _ e => e) (hA'.up (by decide)) fun vs r tk2 H2 h2 ⟨ns', i1, i2, _⟩ S2 l2 e2 => ?_
  · rw [← hL]
    show (res h _).objs.size ≤ _
    unfold res
    simp
  have : vs = [] := by
    have := List.perm_nil.mp i2
    subst this
    cases i1; rfl
  subst this
  refine stL S2 fun h3 S3 => ?_
  refine wpAny_execs_cons (wpAny_Assign_Name (Call_Name1 (ldB (.builtin "len") S3 (PySem.callWith_builtin1 (ldL (.ref r) S3 ?_)))))
  refine lenL S3 e2 (by decide) fun t tk4 => ?_
  refine stL S3 fun h5 S5 => ?_
  refine wpAny_execs_cons (wpAny_If ?_)
  refine wpAny_isTrue_Compare1 (ldL (.int (0 : Nat) t) S5 (wpAny_Constant_int (eq_int (wpAny_truthy_bool ?_))))
  refine wpAny_execs_cons ?_
  refine wpAny_Raise_call_sub (nm := sSE) (q := sSE) (C := 24) (N := 23) (bs := [.type "ValueError"]) (bm := bmVE) (hdct := true) (sn := []) (sub := []) (ab := false) (col := none) (dd := none) (k0 := some (.ref 15)) (k1 := none) (k2 := some (.str sSE 189)) (k3 := some (.str sSE 197)) (k5 := some (.bool true)) (mN := mN w.params) PySem.F.excBase_ValueError hA'.1 rfl (by kernel_rfl!) ?_
  refine ldG (.ref 24) S5 ⟨rfl, ?_⟩
  refine Calls.evalArgs_plain (Calls.spliced_cons ?_)
  refine wpAny_Constant_str (k := 0) (pos := default) ?_
  refine Calls.spliced_nil ?_
  refine ⟨rfl, by rw [sizeLine_eq]; simp, S5.fs.okh.K 24 _ (get24 _), ns23 S5.fs.okh.K, fun h6 e hx => ?_⟩
  have zR := S5.fr (Lr, oR) (by simp)
  have zL := S5.fr (LL, oL) (by simp)
  dsimp only at zR zL
  obtain ⟨oM, esM, epM, eM, dM, _⟩ := id S5.ns
  rw [S5.en.lc] at eM
  have nM : h.get? L = none := hL ▸ Heap.get?_none_of_le (Nat.le_refl _)
  have nLR : L ≠ Lr := fun q => by have := (hZ (Lr, oR) (by simp)).1; dsimp only at this; rw [← q, nM] at this; cases this
  have nLL : L ≠ LL := fun q => by have := (hZ (LL, oL) (by simp)).1; dsimp only at this; rw [← q, nM] at this; cases this
  obtain ⟨bs, hbs⟩ : ∃ bs, bs = noZ h5 [(L, oM), (Lr, oR), (LL, oL)] := ⟨_, rfl⟩
  have bget : ∀ b, b ≠ L → b ≠ Lr → b ≠ LL → bs.get? b = h5.get? b := fun b h1 h2 h3 => by
    rw [hbs]
    refine noZ_get fun p hp => ?_
    simp only [List.mem_cons, List.not_mem_nil, or_false] at hp
    rcases hp with rfl | rfl | rfl
    · exact h1.symm
    · exact h2.symm
    · exact h3.symm
  have bM : bs.get? L = none := by rw [hbs]; exact noZ_none (p := (L, oM)) (by simp)
  have bR : bs.get? Lr = none := by rw [hbs]; exact noZ_none (p := (Lr, oR)) (by simp)
  have bL : bs.get? LL = none := by rw [hbs]; exact noZ_none (p := (LL, oL)) (by simp)
  refine wpAny_leaves_madeW (base := bs) hfr' fe (fun b o e2 => (noZ_le (hbs ▸ e2)).1) ⟨?_, ⟨L, oM, fe, bM, eM, fun vs q => by rw [dM] at q; cases q⟩, kr, ⟨Lr, oR, fr, bR, zR.1, dR⟩, kL, ⟨LL, oL, fL, bL, zL.1, dL⟩, trivial⟩ hx fun h7 t7 fl tup bt up => ?_
  · rw [S5.en.kind]; simp
  refine k e t7 _ bs h7 _ (fun b o n1 n2 e2 => ?_) bR bL fl tup bt ?_ ?_
  · have nb : b ≠ L := fun q => by rw [q, nM] at e2; cases e2
    rw [bget b nb n1 n2]
    by_cases hb : b ∈ T0
    · obtain ⟨l, e3⟩ := F.ok.tabs hb
      have e4 := (F.g _ _ e3).1
      rw [e2] at e4; cases e4
      exact (S5.fs.g _ _ e3).1
    · refine S5.fs.kp b o hb ((noZ_get fun p hp => ?_).trans e2)
      simp only [List.mem_cons, List.not_mem_nil, or_false] at hp
      rcases hp with rfl | rfl
      · exact n1.symm
      · exact n2.symm
  · exact up _ _ (hx.keeps _ _ zR.1) dR
  · exact up _ _ (hx.keeps _ _ zL.1) dL
/-- what median_low and median_high do with nothing -/
def MedR (w : World) (mid : Addr) : Prop := (∃ fd, (K1 w.params).lookup mid = some ⟨.type "function", none, .func fd, #[]⟩) ∧ ∀ {A : Around} {q : QT} {G H h : Heap} {g : Array GenState} {d : Drawn} {tk : Nat} {os : OsState} {E : Value → Shared → Prop} {Q : Value → Shared → Prop} {er eL : Env} {Lr LL D : Addr} {oR oL : Obj},
    Vw w.params q G H h → (∀ p ∈ [(Lr, oR), (LL, oL)], h.get? p.1 = some p.2 ∧ p.1 ∉ T0 ∧ H.get? p.1 = none ∧ G.get? p.1 = none) → Ar A 400 → A.frames = some [er, eL] → er.frame = some Lr → eL.frame = some LL → er.scope.kind ≠ .module → eL.scope.kind ≠ .module →
    (∀ vs, oR.data ≠ .fields vs) → (∀ vs, oL.data ≠ .fields vs) → H.IsList D ([] : List Value).toArray → Flies w g d os h er eL Lr LL oR oL E → wpAny (model pg w) A (call (.ref mid) [.ref D]) Q E ⟨h, g, d, tk, os⟩
theorem medR34 (w : World) : MedR w 34 := ⟨⟨_, fn34 _⟩, fun a b c d e f g h i j k l => med_raise34 a b c d e f g h i j k l⟩
theorem medR41 (w : World) : MedR w 41 := ⟨⟨_, fn41 _⟩, fun a b c d e f g h i j k l => med_raise41 a b c d e f g h i j k l⟩
/-- the frames' slots have changed, and things were made -/
theorem S.frames {P : Params} {q : QT} {N : List (Str × NameKind)} {Lr LL : Addr} {oL oL' : Obj} {env : Env} {G₀ H₀ h₀ G H h h' : Heap} {m cm : Str → Option Value} (F : S P q [Lr] [(LL, oL)] N Lr [] env G₀ H₀ h₀ m cm G H h)
    (k : ∀ b o, b ≠ Lr → b ≠ LL → h.get? b = some o → h'.get? b = some o) (hns : h'.Ns Lr m) (hL : h'.get? LL = some oL') : S P q [Lr] [(LL, oL')] N Lr [] env G₀ H₀ h₀ m cm G H h' := by
  obtain ⟨z1, z2, z3, z4, z5, z6⟩ := F.fr (LL, oL) (by simp)
  dsimp only at z1 z2 z3 z4 z5 z6
  have ne : ∀ {b : Addr} {o : Obj} {K : Heap}, K.get? b = some o → K.get? LL = none → b ≠ LL := fun e n q => by rw [q, n] at e; cases e
  refine ⟨F.en, ⟨F.fs.ok, fun b o e => ⟨k b o (fun q => (F.fs.g b o e).2.1 (by simp [q])) (ne e z5) (F.fs.g b o e).1, (F.fs.g b o e).2⟩, F.fs.le, fun b o e => ⟨k b o (fun q => (F.fs.at' b o e).2.1 (by simp [q])) (ne e z4) (F.fs.at' b o e).1, (F.fs.at' b o e).2⟩,
    fun b o n e => k b o (fun q => by have := (F.fs.xs Lr (by simp)).1; rw [← q, e] at this; cases this) (ne e z6) (F.fs.kp b o n e), fun x hx => ⟨(F.fs.xs x hx).1, (F.fs.xs x hx).2.1, ?_⟩, F.fs.tt⟩, F.en.lc.symm ▸ hns, F.lt, (fun n c hc => by rw [F.en.cs] at hc; cases hc), F.apart, fun p hp => ?_⟩
  · rw [List.mem_singleton] at hx; subst hx
    obtain ⟨o, _, _, e, _⟩ := hns; exact ⟨o, e⟩
  · rw [List.mem_singleton] at hp; subst hp
    exact ⟨hL, z2, z3, z4, z5, z6⟩
theorem S.slots {P : Params} {q : QT} {X : List Addr} {N : List (Str × NameKind)} {L : Addr} {cl : List (Str × Addr)} {env : Env} {G₀ H₀ h₀ G H h h' : Heap} {m cm : Str → Option Value} (F : S P q X [] N L cl env G₀ H₀ h₀ m cm G H h) (lx : L ∈ X)
    (k : ∀ b o, b ≠ L → h.get? b = some o → h'.get? b = some o) (hns : h'.Ns L m) : S P q X [] N L cl env G₀ H₀ h₀ m cm G H h' := by
  have nl : ∀ b, b ∉ X → b ≠ L := fun b hb q => hb (q ▸ lx)
  refine ⟨F.en, F.fs.step (fun b o hb e => k b o (nl b hb) e) fun x hx => ?_, F.en.lc.symm ▸ hns, F.lt, fun n c hc => ⟨?_, (F.cell n c hc).2⟩, F.apart, fun p hp => absurd hp (by simp)⟩
  · by_cases e : x = L
    · subst e; obtain ⟨o, _, _, e, _⟩ := hns; exact ⟨o, e⟩
    · obtain ⟨o, e'⟩ := F.fs.nX hx; exact ⟨o, k _ _ e e'⟩
  · obtain ⟨o, e, d⟩ := (F.cell n c hc).1
    exact ⟨o, k _ _ (fun q => IsCell.nL F.ns (F.cell n c hc).1 (q.trans F.en.lc.symm)) e, d⟩
theorem fn81 (P : Params) : (K1 P).lookup 81 = some ⟨.type "function", none, .func (fnOf P 81), #[]⟩ := by kernel_rfl!
theorem top81 (P : Params) : isTop P 81 = true := by kernel_rfl!
theorem body81 (P : Params) : (fnOf P 81).body = .stmts (pBody 12) := by kernel_rfl!
end Mine

end R22_

section R23_
namespace Mine
set_option maxHeartbeats 2000000 in
theorem refused_call {w : World} {A : Around} {q : QT} {X : List Addr} {N : List (Str × NameKind)} {LL : Addr} {cl : List (Str × Addr)} {eL : Env} {G₀ H₀ h₀ G H h : Heap} {m cm : Str → Option Value} {g : Array GenState} {d : Drawn} {tk : Nat} {os : OsState} {E : Value → Shared → Prop} {Q : Value → Shared → Prop} {mid : Addr}
    (F : S w.params q X [] N LL cl eL G₀ H₀ h₀ m cm G H h) (lx : LL ∈ X) (hA : Ar A 380) (hfr : A.frames = some [eL]) (fL : eL.frame = some LL) (hM : MedR w mid)
    (k : ∀ t h' tk', S w.params q X [] N LL cl eL G₀ H₀ h₀ m cm G H h' → Q (.str msgT t) ⟨h', g, d, tk', os⟩) :
    wpAny (model pg w) A (call (.ref 81) [.ref mid]) Q E ⟨h, g, d, tk, os⟩ := by
  obtain ⟨oL, esL, epL, eoL, dL, rL⟩ := id F.ns
  rw [F.en.lc] at eoL
  have hLT : LL ∉ T0 := F.en.lc ▸ F.lt
  have dLn : ∀ vs, oL.data ≠ .fields vs := fun vs q => by rw [dL] at q; cases q
  have kL : eL.scope.kind ≠ .module := by rw [F.en.kind]; simp
  have nHL : H.get? LL = none := by
    cases e : H.get? LL with
    | none => rfl
    | some o => exact absurd lx (F.fs.at' _ _ e).2.1
  have nGL : G.get? LL = none := by
    cases e : G.get? LL with
    | none => rfl
    | some o => exact absurd lx (F.fs.g _ _ e).2.1
  refine enterZ (n := 380) [(LL, oL)] (binds := [(sMid, .ref mid)]) (body := pBody 12) F.fs.vw (fun p hp => by rw [List.mem_singleton] at hp; subst hp; exact ⟨eoL, hLT, nHL, nGL⟩) hA (by decide) (F.fs.okh.K 81 _ (fn81 _)) (isTop.rec (top81 _) F.fs.okh.K) (body81 _) (by kernel_rfl!) (by kernel_rfl!) (by kernel_rfl!) (by kernel_rfl!) (by kernel_rfl!) (by kernel_rfl!) (by kernel_rfl!) (by kernel_rfl!) (by kernel_rfl!) ?_
  intro Lr h1 tk1 er henv S1 hLr
  have fr : er.frame = some Lr := by rw [henv]; kernel_rfl!
  have kr : er.scope.kind ≠ .module := by rw [S1.en.kind]; simp
  have hA' : Ar (A.deeper er) 383 := hA.deeper (by decide)
  have hfr' : (A.deeper er).frames = some [er, eL] := Around.frames_deeper hfr
  clear henv
  have ec : (fnOf w.params 81).closure = [] := by kernel_rfl!
  rw [ec] at S1
  obtain ⟨fm, efm⟩ := hM.1
  refine wpAny_execs_cons (wpAny_Try_except ?_)
  refine wpAny_execs_cons (wpAny_Return_some (Call_Name1 (ldL (.ref mid) S1 ?_)))
  refine cwF (fd := fm) (listE (args_nil ⟨by decide, ?_⟩))
  refine mkL S1 fun D H2 h2 S2 l2 e2 => ⟨S2.fs.okh.K _ _ efm, ?_⟩
  obtain ⟨oR, esR, epR, eoR, dR, rR⟩ := id S2.ns
  rw [S2.en.lc] at eoR
  have hRT : Lr ∉ T0 := S2.en.lc ▸ S2.lt
  have zL := S2.fr (LL, oL) (by simp)
  dsimp only at zL
  have nHR : H2.get? Lr = none := by
    cases e : H2.get? Lr with
    | none => rfl
    | some o => exact absurd (List.mem_singleton.mpr rfl) (S2.fs.at' _ _ e).2.1
  have nGR : G.get? Lr = none := by
    cases e : G.get? Lr with
    | none => rfl
    | some o => exact absurd (List.mem_singleton.mpr rfl) (S2.fs.g _ _ e).2.1
  refine hM.2 S2.fs.vw (fun p hp => ?_) (hA'.up (by decide)) hfr' fr fL kr kL (fun vs q => by rw [dR] at q; cases q) dLn (isL e2) ?_
  · simp only [List.mem_cons, List.not_mem_nil, or_false] at hp
    rcases hp with rfl | rfl
    · exact ⟨eoR, hRT, nHR, nGR⟩
    · exact ⟨zL.1, zL.2.2.1, zL.2.2.2.1, zL.2.2.2.2.1⟩
  intro e t tm bs h5 tk5 kb bR bL fl tup bt ⟨slR, eR⟩ ⟨slL, eL5⟩
  have nfR : ∀ sl : Array (Option Value), ∀ vs, ({ oR with slots := sl } : Obj).data ≠ .fields vs := fun sl vs q => by dsimp only at q; rw [dR] at q; cases q
  have nfL : ∀ sl : Array (Option Value), ∀ vs, ({ oL with slots := sl } : Obj).data ≠ .fields vs := fun sl vs q => dLn vs q
  refine wpAny_looks_onW hfr' fr fl fun h6 hd6 up6 => ?_
  refine wpAny_landsW hd6 fun h7 fl7 up7 => ?_
  obtain ⟨sl6, eR6⟩ := up6 _ _ eR (nfR _)
  obtain ⟨sl7, eR7⟩ := up7 _ _ eR6 (nfR _)
  obtain ⟨sm6, eL6⟩ := up6 _ _ eL5 (nfL _)
  obtain ⟨sm7, eL7⟩ := up7 _ _ eL6 (nfL _)
  have nsR : ∀ {hh : Heap} {sl : Array (Option Value)}, hh.get? Lr = some { oR with slots := sl } → hh.Ns Lr _ := fun e => ⟨_, esR, epR, e, dR, rR⟩
  have S7 := S2.frames (h' := h7) (fun b o n1 n2 e' => fl7.1 _ _ (kb b o n1 n2 e')) (nsR eR7) eL7
  refine handleBy_own_as (C := 24) (x := sSE) (bmB := bmVE) (newId := "ValueError.__new__") (mg := fun _ => some (.ref 24)) (by decide) ?_
  refine ldG (.ref 24) S7 ⟨rfl, own24 S7.fs.okh.K, fl7.there, ?_⟩
  refine wpAny_setFlight_noneW (base := bs) (l := [er, eL]) (cls := .ref 24) (a0 := .ref t) fl7.1 fl7.2.2.1 fl7.2.2.2.at fun h8 st8 ff8 tr8 kp8 => ?_
  have eR8 := kp8 _ _ eR7 (nfR _)
  have eL8 := kp8 _ _ eL7 (nfL _)
  have S8 := S2.frames (h' := h8) (fun b o n1 n2 e' => st8 _ _ (kb b o n1 n2 e')) (nsR eR8) eL8
  have tup8 : h8.TupAt t [.str msgT tm] := by
    have t6 := tup.of_slots up6
    have t7 := t6.of_slots up7
    obtain ⟨o, n, ho, hc, hd⟩ := t7
    exact ⟨o, n, kp8 _ _ ho (fun vs q => by rw [hd] at q; cases q), hc, hd⟩
  obtain ⟨oe, vs, T, oT, ts, he, ⟨hcls, h0⟩, hd, _⟩ := tr8
  refine wpAny_storeName_local ((S8.en.kf _).trans (by kernel_rfl!)) S8.ns (fun h9 hn9 hs9 => ?_) (by rw [S8.en.kind]; rfl)
  have S9 := S8.stL (S8.en.lc.symm ▸ List.mem_singleton.mpr rfl) hn9 hs9
  have neR : ∀ {b : Addr} {o : Obj}, h8.get? b = some o → (∀ es n, o.data ≠ .dict es n) → b ≠ er.locals := fun e1 n q => by
    rw [q, S8.en.lc, eR8] at e1
    cases e1
    exact n _ _ dR
  have he9 : h9.get? e = some oe := (hs9.2 _ (neR he (fun es n q => by rw [hd] at q; cases q))).trans he
  have tup9 : h9.TupAt t [.str msgT tm] := by
    obtain ⟨o, n, ho, hc, hd2⟩ := tup8
    exact ⟨o, n, (hs9.2 _ (neR ho (fun es n q => by rw [hd2] at q; cases q))).trans ho, hc, hd2⟩
  refine wpAny_execs_cons (wpAny_Return_some (Call_Name1 (ldB (.type "str") S9 ?_)))
  refine PySem.callWith_type1 (ldL (.ref e) S9 ?_)
  refine str_own (P := w.params) ?_ ⟨S9.fs.okh.K, oe, vs, he9, hcls, hd, h0⟩ tup9 ?_
  · have := hA'.2.2; show A.units + 3 + 2 < 9900; have := hA.2.2; lia
  refine wpAny_nameGoes ((S9.en.kf _).trans (by kernel_rfl!)) S9.ns (by rw [S9.en.kind]; rfl) fun h10 m' hn10 hs10 => ?_
  have S10 := S9.stL (S9.en.lc.symm ▸ List.mem_singleton.mpr rfl) hn10 hs10
  have zz := (S10.fr _ (List.mem_singleton.mpr rfl)).1
  refine k _ h10 _ (F.slots lx (fun b o n e' => ?_) ⟨_, esL, epL, zz, dL, rL⟩)
  by_cases hb : b ∈ T0
  · obtain ⟨l, e3⟩ := F.fs.ok.tabs hb
    have e4 := (F.fs.g _ _ e3).1
    rw [e'] at e4; cases e4
    exact (S10.fs.g _ _ e3).1
  · refine S10.fs.kp b o hb ((noZ_get fun p hp => ?_).trans e')
    rw [List.mem_singleton] at hp; subst hp; exact n.symm
end Mine

end R23_

section R24_
namespace Mine
section
variable {w : World} {A : Around} {q : QT} {X : List Addr} {Z : List (Addr × Obj)} {N : List (Str × NameKind)} {L : Addr} {cls : List (Str × Addr)} {env : Env} {G₀ H₀ h₀ G H h : Heap} {m cm : Str → Option Value} {g : Array GenState} {d : Drawn} {tk : Nat} {os : OsState} {E : Value → Shared → Prop}
theorem sumL {a : Addr} {vs : List Value} {ns : List Int} {Q : Value → Shared → Prop} (F : S w.params q X Z N L cls env G₀ H₀ h₀ m cm G H h) (hA : A.handled = none) (hl : H.IsList a vs.toArray) (hi : IntsAre vs ns)
    (k : ∀ t h' tk', S w.params q X Z N L cls env G₀ H₀ h₀ m cm G H h' → Q (.int ns.sum t) ⟨h', g, d, tk', os⟩) : wpAny (model pg w) A (call (.builtin "sum") [.ref a]) Q E ⟨h, g, d, tk, os⟩ := by
  obtain ⟨xs, hx⟩ := hi.allInts.items
  have hl' := lmono F.sub hl
  rw [hx] at hl'
  refine sum_intListG hA hl' fun h' tk t' hk => ?_
  have e1 : ns = xs.toList.map (·.1) := by
    rw [← nums_intItems, ← hx]
    exact (show numsOf vs.toArray.toList = ns from hi.numsOf).symm
  have e2 : preSum (numAt xs) xs.size = ns.sum := by
    rw [preSum_eq, List.take_of_length_le (by simp), e1]
  rw [e2]
  exact k _ _ _ (F.keep hk)
theorem minL {l : Addr} {vs : List Value} {ns : List Int} {Q : Value → Shared → Prop} (F : S w.params q X Z N L cls env G₀ H₀ h₀ m cm G H h) (hh : A.handled = none) (hl : H.IsList l vs.toArray) (hi : IntsAre vs ns) (hne : 0 < ns.length)
    (k : ∀ M t h' tk', M ∈ ns → (∀ a, a ∈ ns → M ≤ a) → S w.params q X Z N L cls env G₀ H₀ h₀ m cm G H h' → Q (.int M t) ⟨h', g, d, tk', os⟩) : wpAny (model pg w) A (call (.builtin "min") [.ref l]) Q E ⟨h, g, d, tk, os⟩ := by
  obtain ⟨xs, e⟩ := hi.allInts.items
  have hl' := lmono F.sub hl
  have hns : ns = xs.toList.map (·.1) := by
    rw [← hi.numsOf, ← nums_intItems, ← e]
  have hsz : 0 < xs.size := by
    have h3 := hne; rw [hns, List.length_map, Array.length_toList] at h3; exact h3
  rw [e] at hl'
  refine min_intList hh hl' hsz fun v h' tk hv hk => ?_
  obtain ⟨t, rfl⟩ := intItems_at hv
  obtain ⟨h1, h2⟩ := argBest_lt (numAt xs) (xs.size - 1)
  refine k _ t _ _ ?_ (fun a ha => ?_) (F.keep hk)
  · rw [hns, numAt_eq]; exact getD_mem (by rw [List.length_map, Array.length_toList]; lia)
  · rw [hns] at ha
    obtain ⟨j, hj, rfl⟩ := mem_getD ha
    rw [List.length_map, Array.length_toList] at hj
    rw [← numAt_eq]; exact h2 j (by lia)
theorem maxL {l : Addr} {vs : List Value} {ns : List Int} {Q : Value → Shared → Prop} (F : S w.params q X Z N L cls env G₀ H₀ h₀ m cm G H h) (hh : A.handled = none) (hl : H.IsList l vs.toArray) (hi : IntsAre vs ns) (hne : 0 < ns.length)
    (k : ∀ M t h' tk', M ∈ ns → (∀ a, a ∈ ns → a ≤ M) → S w.params q X Z N L cls env G₀ H₀ h₀ m cm G H h' → Q (.int M t) ⟨h', g, d, tk', os⟩) : wpAny (model pg w) A (call (.builtin "max") [.ref l]) Q E ⟨h, g, d, tk, os⟩ := by
  obtain ⟨xs, e⟩ := hi.allInts.items
  have hl' := lmono F.sub hl
  have hns : ns = xs.toList.map (·.1) := by
    rw [← hi.numsOf, ← nums_intItems, ← e]
  have hsz : 0 < xs.size := by
    have h3 := hne; rw [hns, List.length_map, Array.length_toList] at h3; exact h3
  rw [e] at hl'
  refine max_intList hh hl' hsz fun v h' tk hv hk => ?_
  obtain ⟨t, rfl⟩ := intItems_at hv
  obtain ⟨h1, h2⟩ := argBest_gt (numAt xs) (xs.size - 1)
  refine k _ t _ _ ?_ (fun a ha => ?_) (F.keep hk)
  · rw [hns, numAt_eq]; exact getD_mem (by rw [List.length_map, Array.length_toList]; lia)
  · rw [hns] at ha
    obtain ⟨j, hj, rfl⟩ := mem_getD ha
    rw [List.length_map, Array.length_toList] at hj
    rw [← numAt_eq]; exact h2 j (by lia)
theorem mulL {l : Addr} {vs : List Value} {x : Int} {u : Tok} {Q : Value → Shared → Prop} (F : S w.params q X Z N L cls env G₀ H₀ h₀ m cm G H h) (hl : H.get? l = some (lsO vs)) (hne : vs ≠ []) (hlo : 0 ≤ x) (hhi : x < 1000) (hsz : vs.length ≤ 1000)
    (k : ∀ r H' h', S w.params q X Z N L cls env G₀ H₀ h₀ m cm G H' h' → Le H H' → H'.get? r = some (lsO (List.replicate x.toNat vs).flatten) → Q (.ref r) ⟨h', g, d, tk, os⟩) : wpAny (model pg w) A (binaryOp .Mult (.ref l) (.int x u)) Q E ⟨h, g, d, tk, os⟩ := by
  have hl' := F.sub _ _ hl
  have hb : vs.length * x.toNat ≤ 1000 * 1000 := Nat.mul_le_mul hsz (by lia)
  have hb2 : vs.toArray.size * x.toNat ≤ 1000 * 1000 := by rw [List.size_toArray]; exact hb
  refine wpAny_binaryOp_repeat_ref (T := "list") (U := "int") (by decide) ⟨_, hl', rfl⟩ (fun s' => typeIs_int s' x u) noFill_list_mul PySem.F.fills_int_mul PySem.F.slot_int_rmul repeat_list PySem.F.slot_int_index.lookup
    (call_meets PySem.F.slot_int_rmul (typeIs_int _ x u) PySem.F.entry_int_rmul (PySem.F.args_int_rmul_2 _ _) (int___rmul___int_list x u l vs.toArray 0)
      ⟨hl', rfl, ⟨_, hl', rfl⟩, call_meets PySem.F.slot_list_mul ⟨_, hl', rfl⟩ PySem.F.entry_list_mul (PySem.F.args_list_mul_2 _ _)
        (AutoListH.list___mul___list_int_3 l vs.toArray 0 x u (by simp [Builtin.List.listFitsIndex]; lia) (by lia) (by simp [Builtin.List.listTooLong, sizeLine]; lia))
        ⟨hl', ?_⟩⟩)
  have e : List.foldl (fun x1 x2 => x1 ++ x2) #[] (List.replicate (if vs.toArray.isEmpty = true then 0 else x.toNat) vs.toArray) = (List.replicate x.toNat vs).flatten.toArray := by
    rw [if_neg (by simpa using hne), listMul_foldl]
    simp
  rw [e]
  obtain ⟨H', l', e', F'⟩ := F.push (o := lsO (List.replicate x.toNat vs).flatten) rfl
  exact k _ _ _ F' l' e'
end
end Mine

end R24_

section R25_
namespace Mine
section
variable {w : World} {A : Around} {q : QT} {X : List Addr} {Z : List (Addr × Obj)} {N : List (Str × NameKind)} {L : Addr} {cls : List (Str × Addr)} {env : Env} {G₀ H₀ h₀ G H h : Heap} {m cm : Str → Option Value} {g : Array GenState} {d : Drawn} {tk : Nat} {os : OsState} {E : Value → Shared → Prop}
theorem slT {value up : Expr} {sp : Pos} {a : Addr} {vs : List Value} {b : Nat} {u : Tok} {Q : Value → Shared → Prop} (F : S w.params q X Z N L cls env G₀ H₀ h₀ m cm G H h) (ha : H.IsList a vs.toArray) (hz : vs.length ≤ 100000)
    (k : ∀ r H' h', S w.params q X Z N L cls env G₀ H₀ h₀ m cm G H' h' → Le H H' → H'.get? r = some (lsO (vs.take b)) → Q (.ref r) ⟨h', g, d, tk, os⟩)
    (hs : ∀ sl, subscripted (.Slice none (some up) none sp) false (.ref a) (.ref sl) = operate [.ref sl, .ref a] (getItem (.ref a) (.ref sl)) := by intro _; with_unfolding_all rfl) (ht : ∀ r, letTemporaryGo value (.ref a) r = pure () := by intro _; with_unfolding_all rfl) :
    wpAny (model pg w) A (subscriptTail value (.Slice none (some up) none sp) (.ref a) (.ref h.objs.size)) Q E ⟨h.push { cls := .type "slice", data := .fields #[.none, .int b u, .none] }, g, d, tk, os⟩ := by
  have F1 := F.keep (h' := h.push { cls := .type "slice", data := .fields #[.none, .int b u, .none] }) fun b o e => Heap.get?_push_of_some _ e
  have hl := lmono F1.sub ha
  refine subscriptTail_ops hl.typeIs list_getitem_lookup (wpAny_getItem_list_slice hl (Heap.IsSliceOf.new ..) .none (.int b u) .none (by simp) ?_ (by rw [sizeLine_eq]; simp; lia)) (hs _) ht
  rw [slicePick_upto']
  obtain ⟨H', l, e, F'⟩ := F1.push (o := lsO (vs.take b)) rfl
  simpa using k _ _ _ F' l e
end
/-! law -/
theorem fn93 (P : Params) : (K1 P).lookup 93 = some ⟨.type "function", none, .func (fnOf P 93), #[]⟩ := by kernel_rfl!
theorem top93 (P : Params) : isTop P 93 = true := by kernel_rfl!
theorem body93 (P : Params) : (fnOf P 93).body = .stmts lawB := by kernel_rfl!
noncomputable abbrev LN (P : Params) := (fnOf P 93).scope.names
noncomputable abbrev LC (P : Params) (L : Addr) := cellsFrom (L + 1) (LN P) []
abbrev LX (L : Addr) : List Addr := [L, L + 1, L + 2, L + 3, L + 4, L + 5, L + 6, L + 7, L + 8]
abbrev sScr : Str := Str.ofString "script"
abbrev sMany : Str := Str.ofString "many"
abbrev sSize : Str := Str.ofString "size"
abbrev sSums : Str := Str.ofString "sums"
abbrev sInner : Str := Str.ofString "inner"
def fold (x : Int) : Int := (x + 1000000).fmod 2000000 - 1000000
theorem fold_eq (x : Int) : fold x = (x + 1000000).fmod 2000000 - 1000000 := rfl
def numsOfScript (xs : List Int) : List Int := (xs.take 6).map fold ++ [4, 9, 1, 6, 11]
theorem pow6 {w : World} {A : Around} {E : Value → Shared → Prop} {s : Shared} {t u : Tok} {Q : Value → Shared → Prop} (h : Q (.int 1000000 s.toks) { s with toks := s.toks + 1 }) : wpAny (model pg w) A (binaryOp .Pow (.int 10 t) (.int 6 u)) Q E s := by
  refine pow_int_small (by decide) (by decide) (by decide) ?_
  rw [show (10 : Int) ^ (6 : Int).toNat = 1000000 from rfl]
  exact h
theorem step_map {f : Int → Int} {ys : List Value} {xs : List Int} {i : Nat} {x y : Int} {t : Tok} (hJ : IntsAre ys ((xs.take i).map f)) (hx : xs[i]? = some x) (hy : f x = y) : IntsAre (ys ++ [.int y t]) ((xs.take (i + 1)).map f) := by
  subst hy
  rw [List.take_add_one, hx, List.map_append]
  exact ints_append hJ (IntsAre.cons _ _ .nil)
theorem step_num {ys : List Value} {xs : List Int} {i : Nat} {x : Int} {t : Tok} (hJ : IntsAre ys ((xs.take i).map fold)) (hx : xs[i]? = some x) : IntsAre (ys ++ [.int ((x + 1000000).fmod 2000000 - 1000000) t]) ((xs.take (i + 1)).map fold) := step_map hJ hx (fold_eq x)
theorem mok : IntMulOk 2 1000000 := by unfold IntMulOk; decide +kernel
theorem mul2 {w : World} {A : Around} {E : Value → Shared → Prop} {s : Shared} {t u : Tok} {Q : Value → Shared → Prop} (h : Q (.int 2000000 s.toks) { s with toks := s.toks + 1 }) : wpAny (model pg w) A (binaryOp .Mult (.int 2 t) (.int 1000000 u)) Q E s := by
  refine PyProof.Rows.mul_int ?_ mok
  rw [show (2 : Int) * 1000000 = 2000000 from by decide]
  exact h
set_option maxHeartbeats 1000000 in
/-- the first statement: the numbers -/
theorem law1 {w : World} {A : Around} {q : QT} {L : Addr} {env : Env} {G₀ H₀ h₀ G H h : Heap} {m cm : Str → Option Value} {g : Array GenState} {d : Drawn} {tk : Nat} {os : OsState} {E : Value → Shared → Prop} {Q : Flow → Shared → Prop} {P : Params} {sl : Addr} {vs : List Value} {xs : List Int}
    (hP : P = w.params) (F : S w.params q (LX L) [] (LN P) L (LC P L) env G₀ H₀ h₀ m cm G H h) (hA : Ar A 400) (mS : m sScr = some (.ref sl)) (hl : H.IsList sl vs.toArray) (hI : IntsAre vs xs) (h64 : xs.length ≤ 1000)
    (k : ∀ nl us G' H' h' tk', S w.params q (LX L) [] (LN P) L (LC P L) env G₀ H₀ h₀ m (fun y => if y = sN then some (.ref nl) else cm y) G' H' h' → Le H H' → H'.IsList nl us.toArray → IntsAre us (numsOfScript xs) →
      wpAny (model pg w) A (execs (lawB.drop 1) env) Q E ⟨h', g, d, tk', os⟩) :
    wpAny (model pg w) A (execs lawB env) Q E ⟨h, g, d, tk, os⟩ := by
  subst hP
  refine wpAny_execs_cons (wpAny_Assign_Name (wpAny_BinOp ?_))
  refine comp F [] (vs.take 6).length (fun i H ys => IntsAre ys ((xs.take i).map fold)) (hA.up (by decide)) (fun _ _ _ _ _ x => x) (fun i H ys x => ?_) ?_ (by kernel_rfl!) (fun nm c hh => by cases hh) (hn := by rw [List.length_take]; lia)
  · rw [ints_len x, List.length_map, List.length_take]; lia
  · refine Subscript_ (ldL (.ref sl) F ?_ (hv := mS))
    refine wpAny_Slice (wpAny_pure ?_)
    refine wpAny_Constant_int (k := 0) (pos := default) (wpAny_pure ?_)
    refine slT (b := 6) F hl (by rw [ints_len hI]; lia) fun r H2 h2 S2 l2 e2 => ?_
    refine srcL S2 hA.1 (isL e2) fun I3 o3 h3 S3 src3 => ?_
    refine ⟨I3, _, G, H2, h3, _, o3, rfl, rfl, src3, S3, .nil, ?_, ?_⟩
    · intro i v C env' ys G4 H4 h4 m' E5 tk5 hi hv le4 hJ hm' henv' S4 hce
      rw [List.getElem?_take, if_pos (by rw [List.length_take] at hi; lia)] at hv
      obtain ⟨x, tx, rfl, hx⟩ := ints_at hI hv
      refine tests0 ?_
      rw [if_pos rfl]
      refine wpAny_BinOp (wpAny_BinOp (wpAny_BinOp (ldL (.int x tx) S4 ?_ (hv := hm'))))
      refine wpAny_BinOp (wpAny_Constant_int (wpAny_Constant_int ?_))
      refine pow6 ?_
      refine wpAny_add_int ?_
      refine wpAny_BinOp (wpAny_Constant_int ?_)
      refine wpAny_BinOp (wpAny_Constant_int (wpAny_Constant_int ?_))
      refine pow6 ?_
      refine mul2 ?_
      refine mod_int' (by decide) ?_
      refine wpAny_BinOp (wpAny_Constant_int (wpAny_Constant_int ?_))
      refine pow6 ?_
      refine sub_int ?_
      refine ⟨_, _, _, _, rfl, S4.fs.vw, ?_⟩
      exact step_num hJ hx
    · intro D G4 H4 h4 tk4 ys S4 l4 e4 hJ
      refine listE ?_
      refine args_cons (wpAny_Constant_int ?_)
      refine args_cons (wpAny_Constant_int ?_)
      refine args_cons (wpAny_Constant_int ?_)
      refine args_cons (wpAny_Constant_int ?_)
      refine args_cons (wpAny_Constant_int ?_)
      refine args_nil ⟨by simp, ?_⟩
      refine mkL S4 fun r5 H5 h5 S5 l5 e5 => ?_
      have ly : ys.length ≤ 6 := by rw [ints_len hJ, List.length_map, List.length_take, List.length_take]; lia
      refine addL S5 (lmono l5 e4) (isL e5) (by simp; lia) fun r6 H6 h6 S6 l6 e6 => ?_
      refine stC (L + 1) S6 fun h7 S7 => ?_
      refine k r6 _ _ H6 h7 _ S7 (fun b o e => l6 _ _ (l5 _ _ (l4 _ _ (l2 _ _ e)))) (isL e6) ?_
      have e8 : (xs.take (vs.take 6).length) = xs.take 6 := by
        rw [List.length_take, ints_len hI]
        rcases Nat.le_total 6 xs.length with z | z
        · rw [Nat.min_eq_left z]
        · rw [Nat.min_eq_right z, List.take_of_length_le (Nat.le_refl _), List.take_of_length_le z]
      rw [e8] at hJ
      exact ints_append hJ (.cons _ _ (.cons _ _ (.cons _ _ (.cons _ _ (.cons _ _ .nil)))))
end Mine

end R25_

section R26_
namespace Mine
theorem extLe {h h' : Heap} (x : Heap.ExtBut h.objs.size h h') : Le h h' := fun b o e => x b o (Nat.ne_of_lt (Heap.lt_size e)) e
/-- things i of the numbers' list -/
def ThJ (ns : List Int) (i : Nat) (H : Heap) (ys : List Value) : Prop := ∃ ts : List (Addr × Int), ys = ts.map (fun p => Value.ref p.1) ∧ ts.map (fun p : Addr × Int => p.2) = ns.take i ∧ (∀ p ∈ ts, Thing H p.1 p.2) ∧ (ts.map fun p : Addr × Int => p.1).Nodup
theorem ThJ.up {ns : List Int} {i : Nat} {H H' : Heap} {ys : List Value} (k : Le H H') (x : ThJ ns i H ys) : ThJ ns i H' ys := let ⟨ts, a1, a2, a3, a4⟩ := x; ⟨ts, a1, a2, fun p hp => (a3 p hp).up k, a4⟩
theorem ThJ.len {ns : List Int} {i : Nat} {H : Heap} {ys : List Value} (x : ThJ ns i H ys) : ys.length ≤ i := by
  obtain ⟨ts, a1, a2, _⟩ := x
  have := congrArg List.length a2
  simp only [List.length_map, List.length_take] at this
  rw [a1, List.length_map]; lia
theorem ThJ.step {ns : List Int} {i : Nat} {H H' : Heap} {ys : List Value} {a : Addr} {x : Int} (j : ThJ ns i H ys) (k : Le H H') (hx : ns[i]? = some x) (ha : Thing H' a x) (hn : H.get? a = none) : ThJ ns (i + 1) H' (ys ++ [.ref a]) := by
  obtain ⟨ts, a1, a2, a3, a4⟩ := j
  refine ⟨ts ++ [(a, x)], by rw [a1]; simp, by rw [List.map_append, a2, List.take_add_one, hx]; rfl, fun p hp => ?_, ?_⟩
  · rcases List.mem_append.mp hp with hp | hp
    · exact (a3 p hp).up k
    · rw [List.mem_singleton] at hp; subst hp; exact ha
  · rw [List.map_append, List.nodup_append]
    refine ⟨a4, by simp, fun b hb c hc e => ?_⟩
    simp only [List.map_cons, List.map_nil, List.mem_singleton] at hc
    obtain ⟨p, hp, rfl⟩ := List.mem_map.mp hb
    obtain ⟨t, o, e1, _⟩ := a3 p hp
    rw [e, hc, hn] at e1; cases e1
/-- a new list, with the fact that it is new -/
theorem mkLn {w : World} {q : QT} {X : List Addr} {Z : List (Addr × Obj)} {N : List (Str × NameKind)} {L : Addr} {cls : List (Str × Addr)} {env : Env} {G₀ H₀ h₀ G H h : Heap} {m cm : Str → Option Value} {g : Array GenState} {d : Drawn} {tk : Nat} {os : OsState} {vs : List Value} {Q : Value → Shared → Prop}
    (F : S w.params q X Z N L cls env G₀ H₀ h₀ m cm G H h) (k : ∀ r H' h', S w.params q X Z N L cls env G₀ H₀ h₀ m cm G H' h' → Le H H' → H'.get? r = some (lsO vs) → H.get? r = none → Q (.ref r) ⟨h', g, d, tk, os⟩) : MkL Q vs ⟨h, g, d, tk, os⟩ := by
  obtain ⟨H', l, e, F'⟩ := F.push (o := lsO vs) rfl
  refine k _ _ _ F' l e ?_
  cases e1 : H.get? h.objs.size with
  | none => rfl
  | some o => exact absurd (Heap.lt_size (F.sub _ _ e1)) (Nat.lt_irrefl _)
end Mine

end R26_

section R27_
namespace Mine
set_option maxHeartbeats 1000000 in
/-- the second statement: things, many -/
theorem law2 {w : World} {A : Around} {q : QT} {L : Addr} {env : Env} {G₀ H₀ h₀ G H h : Heap} {m cm : Str → Option Value} {g : Array GenState} {d : Drawn} {tk : Nat} {os : OsState} {E : Value → Shared → Prop} {Q : Flow → Shared → Prop} {P : Params} {nl : Addr} {us : List Value} {ns : List Int}
    (hP : P = w.params) (F : S w.params q (LX L) [] (LN P) L (LC P L) env G₀ H₀ h₀ m cm G H h) (hA : Ar A 400) (mN : cm sN = some (.ref nl)) (hl : H.IsList nl us.toArray) (hI : IntsAre us ns) (h64 : ns.length ≤ 1000)
    (k : ∀ tl ts t G' H' h' tk', S w.params q (LX L) [] (LN P) L (LC P L) env G₀ H₀ h₀ (fun y => if y = sMany then some (.int (ns.length : Nat) t) else m y) (fun y => if y = sTh then some (.ref tl) else cm y) G' H' h' → Le H H' → Things H' tl ts → ts.map (fun p : Addr × Int => p.2) = ns → (ts.map fun p : Addr × Int => p.1).Nodup →
      wpAny (model pg w) A (execs (lawB.drop 2) env) Q E ⟨h', g, d, tk', os⟩) :
    wpAny (model pg w) A (execs (lawB.drop 1) env) Q E ⟨h, g, d, tk, os⟩ := by
  subst hP
  refine wpAny_execs_cons (Assign_Tuple ?_ (by rfl) ?_)
  · refine wpAny_Tuple (args_cons ?_)
    refine comp F [] us.length (ThJ ns) (hA.up (by decide)) (fun _ _ _ _ l x => x.up l) (fun _ _ _ x => x.len) ?_ (by kernel_rfl!) (fun nm c hh => by cases hh) (hn := by rw [ints_len hI]; lia)
    refine ldC (.ref nl) (L + 1) F ?_ (hv := mN)
    refine srcL F hA.1 hl fun I3 o3 h3 S3 src3 => ?_
    refine ⟨I3, _, G, H, h3, _, o3, rfl, rfl, src3, S3, ⟨[], rfl, rfl, fun p hp => absurd hp (by simp), by simp⟩, ?_, ?_⟩
    · intro i v C env' ys G4 H4 h4 m' E5 tk5 hi hv le4 hJ hm' henv' S4 hce
      obtain ⟨x, tx, rfl, hx⟩ := ints_at hI hv
      refine tests0 ?_
      rw [if_pos rfl]
      refine listE ?_
      refine args_cons (ldL (.int x tx) S4 ?_ (hv := hm'))
      refine args_nil ⟨by simp, ?_⟩
      refine mkLn S4 fun r H5 h5 S5 l5 e5 n5 => ?_
      exact ⟨_, _, _, _, rfl, S5.fs, hJ.step l5 hx ⟨tx, isL e5⟩ n5⟩
    · intro D G4 H4 h4 tk4 ys S4 l4 e4 ⟨ts, a1, a2, a3, a4⟩
      subst a1
      have ea : ts.map (fun p : Addr × Int => p.2) = ns := by rw [a2, ints_len hI, List.take_length]
      refine args_cons (Call_Name1 (ldB (.builtin "len") S4 ?_))
      refine PySem.callWith_builtin1 (ldC (.ref nl) (L + 1) S4 ?_ (hv := mN))
      refine lenL S4 (lmono l4 hl) (by rw [ints_len hI]; lia) fun t tk5 => ?_
      rw [ints_len hI]
      refine args_nil ⟨by rw [sizeLine_eq]; simp, ?_⟩
      obtain ⟨H6, l6, e6, S6⟩ := S4.push (o := { cls := .type "tuple", data := .seq [Value.ref D, .int (ns.length : Nat) t].toArray }) rfl
      refine wpAny_assign_Tuple (items := [Value.ref D, .int (ns.length : Nat) t].toArray) hA.1 ⟨_, S6.sub _ _ e6, rfl, 0, rfl⟩ (by rfl) (by rfl) fun h7 x7 => ?_
      have S7 := S6.keep (extLe x7)
      refine wpAny_bind (wpAny_assign_Name (stC (L + 2) S7 fun h8 S8 => ?_))
      refine wpAny_bind (wpAny_assign_Name (stL S8 fun h9 S9 => ?_))
      refine wpAny_pure ?_
      exact k D ts t G4 H6 h9 _ S9 (fun b o e => l6 _ _ (l4 _ _ e)) ⟨lmono l6 e4, fun p hp => (a3 p hp).up l6⟩ ea a4
  · unfold swappedStores Env.blockKind
    rw [F.en.kind, show env.kindOf = fun x => (LN w.params).lookup x from funext F.en.kf]
    kernel_rfl!
end Mine

end R27_

section PM_
namespace Mine
/-! plain: the order that _law_order gives is the stable order -/
def nkey (μ : Int → Int) (ns : List Int) (i : Nat) : Int := μ (ns.getD i 0)
theorem lex_total {key : Nat → Int} {a b : Nat} (h : a ≠ b) : lex key a b ∨ lex key b a := by unfold lex; lia
/-- the elements that are not above k stand first -/
theorem take_cnt {p : Nat → Bool} : ∀ (o : List Nat), o.Pairwise (fun a b => p b = true → p a = true) → (∀ a ∈ o.take (o.filter p).length, p a = true) ∧ ∀ a ∈ o.drop (o.filter p).length, p a = false
  | [], _ => by simp
  | a :: o, h => by
    obtain ⟨h1, h2⟩ := List.pairwise_cons.mp h
    have ih := take_cnt o h2
    cases e : p a with
    | true =>
      rw [List.filter_cons_of_pos e, List.length_cons, List.take_succ_cons, List.drop_succ_cons]
      refine ⟨fun b hb => ?_, ih.2⟩
      rcases List.mem_cons.mp hb with rfl | hb
      · exact e
      · exact ih.1 b hb
    | false =>
      have all : ∀ b ∈ o, p b = false := fun b hb => by
        cases e2 : p b with
        | false => rfl
        | true => rw [h1 b hb e2] at e; cases e
      have z : (a :: o).filter p = [] := by
        rw [List.filter_eq_nil_iff]
        intro b hb
        rcases List.mem_cons.mp hb with rfl | hb
        · simp [e]
        · simp [all b hb]
      rw [z]
      refine ⟨by simp, fun b hb => ?_⟩
      rcases List.mem_cons.mp (by simpa using hb) with rfl | hb
      · exact e
      · exact all b hb
theorem ord_SO {μ : Int → Int} {ns : List Int} : ∀ n, SO (nkey μ ns) n (ordN μ ns n)
  | 0 => ⟨by simp [ordN], by simp [ordN]⟩
  | k + 1 => by
    obtain ⟨hp, hw⟩ := ord_SO (μ := μ) (ns := ns) k
    have lt := ordN_lt (μ := μ) (ns := ns) k
    have pw : (ordN μ ns k).Pairwise (fun a b => decide (nkey μ ns b ≤ nkey μ ns k) = true → decide (nkey μ ns a ≤ nkey μ ns k) = true) := hw.imp fun {a b} h => by
      unfold lex at h
      simp only [decide_eq_true_eq]
      lia
    obtain ⟨t1, t2⟩ := take_cnt (p := fun j => decide (nkey μ ns j ≤ nkey μ ns k)) _ pw
    have ec : cntL μ ns k (ordN μ ns k) = ((ordN μ ns k).filter fun j => decide (nkey μ ns j ≤ nkey μ ns k)).length := rfl
    generalize hc : cntL μ ns k (ordN μ ns k) = c at *
    have e : ordN μ ns (k + 1) = (ordN μ ns k).take c ++ k :: (ordN μ ns k).drop c := by
      show insL μ ns (ordN μ ns k) k = _
      unfold insL; rw [hc]; simp
    rw [← ec] at t1 t2
    refine ⟨?_, ?_⟩
    · rw [e, List.range_succ]
      refine List.perm_middle.trans ?_
      rw [List.take_append_drop]
      exact (List.Perm.cons k hp).trans (List.perm_append_singleton k _).symm
    · rw [e, List.pairwise_append]
      have hw' := hw
      rw [← List.take_append_drop c (ordN μ ns k), List.pairwise_append] at hw'
      obtain ⟨w1, w2, w3⟩ := hw'
      refine ⟨w1, List.pairwise_cons.mpr ⟨fun b hb => .inl ?_, w2⟩, fun a ha b hb => ?_⟩
      · have := t2 b hb
        simp only [decide_eq_false_iff_not] at this
        lia
      · rcases List.mem_cons.mp hb with rfl | hb
        · have h1 := of_decide_eq_true (t1 a ha)
          have h2 := lt a (List.mem_of_mem_take ha)
          unfold lex; lia
        · exact w3 a ha b hb
theorem SO.congr {k k' : Nat → Int} {n : Nat} {l : List Nat} (h : SO k n l) (e : ∀ i, i < n → k i = k' i) : SO k' n l := by
  refine ⟨h.1, h.2.imp_of_mem fun {a b} ha hb hl => ?_⟩
  have ia : a < n := by simpa using h.1.mem_iff.mp ha
  have ib : b < n := by simpa using h.1.mem_iff.mp hb
  unfold lex at *
  rw [← e a ia, ← e b ib]; exact hl
/-! the first and the last of the order -/
theorem SO.head {key : Nat → Int} {n j : Nat} {l : List Nat} (h : SO key n l) (hj : j < n) (hm : ∀ k, k < n → k ≠ j → lex key j k) : l[0]? = some j := by
  obtain ⟨hp, hw⟩ := h
  cases l with
  | nil => have := hp.length_eq; simp at this; lia
  | cons a r =>
    have ha : a < n := by simpa using hp.mem_iff.mp (List.mem_cons_self)
    have hjm : j ∈ a :: r := hp.mem_iff.mpr (by simpa using hj)
    rcases List.mem_cons.mp hjm with rfl | hr
    · rfl
    · have h1 := (List.pairwise_cons.mp hw).1 j hr
      by_cases e : a = j
      · rw [e]; rfl
      · exact absurd h1 (lex_asymm (hm a ha e))
theorem SO.last {key : Nat → Int} {n j : Nat} {l : List Nat} (h : SO key n l) (hj : j < n) (hm : ∀ k, k < n → k ≠ j → lex key k j) : l[n - 1]? = some j := by
  obtain ⟨hp, hw⟩ := h
  have hl : l.length = n := by rw [hp.length_eq, List.length_range]
  rcases List.eq_nil_or_concat l with rfl | ⟨r, a, rfl⟩
  · simp at hl; lia
  · rw [List.concat_eq_append] at *
    have ha : a < n := by simpa using hp.mem_iff.mp (by simp)
    have hjm : j ∈ r ++ [a] := hp.mem_iff.mpr (by simpa using hj)
    have hr : r.length = n - 1 := by simp at hl; lia
    rw [← hr, List.getElem?_append_right (Nat.le_refl _), Nat.sub_self]
    rcases List.mem_append.mp hjm with hm' | hm'
    · have h1 := (List.pairwise_append.mp hw).2.2 j hm' a (by simp)
      by_cases e : a = j
      · rw [e]; rfl
      · exact absurd h1 (lex_asymm (hm a ha e))
    · rw [List.mem_singleton] at hm'; subst hm'; rfl
/-! the inner things -/
def innerL (n a b : Nat) : List Nat := (List.range n).filter fun k => !(k == a || k == b)
theorem idx_lt {l : List Nat} (hs : l.Pairwise (· < ·)) {a b : Nat} (ha : a ∈ l) (hb : b ∈ l) (h : a < b) : l.idxOf a < l.idxOf b := by
  have ia := List.idxOf_lt_length_of_mem ha
  have ib := List.idxOf_lt_length_of_mem hb
  have ga := List.getElem_idxOf ia
  have gb := List.getElem_idxOf ib
  rcases Nat.lt_trichotomy (l.idxOf a) (l.idxOf b) with h1 | h1 | h1
  · exact h1
  · have : l[l.idxOf a]'ia = l[l.idxOf b]'ib := by simp [h1]
    rw [ga, gb] at this; lia
  · have := List.pairwise_iff_getElem.mp hs _ _ ib ia h1
    rw [ga, gb] at this; lia
theorem inner_SO {key : Nat → Int} {n : Nat} {l : List Nat} {a b : Nat} (h : SO key n l) (h3 : 3 ≤ n) (ha : l[0]? = some a) (hb : l[n - 1]? = some b) :
    ∃ p, SO (fun j => key ((innerL n a b).getD j 0)) (n - 2) p ∧ (innerL n a b).length = n - 2 ∧ ∀ i, i < n - 2 → ∃ q, p[i]? = some q ∧ (innerL n a b)[q]? = l[i + 1]? := by
  obtain ⟨hp, hw⟩ := h
  have hl : l.length = n := by rw [hp.length_eq, List.length_range]
  obtain ⟨mid, rfl⟩ : ∃ mid, l = a :: (mid ++ [b]) := by
    cases l with
    | nil => simp at hl; lia
    | cons a' r =>
      simp at ha; subst ha
      rcases List.eq_nil_or_concat r with rfl | ⟨m, b', rfl⟩
      · simp at hl; lia
      · rw [List.concat_eq_append] at *
        refine ⟨m, ?_⟩
        have e : n - 1 = m.length + 1 := by simp at hl; lia
        rw [e, List.getElem?_cons_succ, List.getElem?_append_right (Nat.le_refl _), Nat.sub_self] at hb
        simp at hb; rw [hb]
  have hm : mid.length = n - 2 := by simp at hl; lia
  have nd : (a :: (mid ++ [b])).Nodup := hp.nodup_iff.mpr List.nodup_range
  obtain ⟨na, nd2⟩ := List.nodup_cons.mp nd
  obtain ⟨ndm, _, ndb⟩ := List.nodup_append.mp nd2
  have memI : ∀ x, x ∈ innerL n a b ↔ x ∈ mid := fun x => by
    unfold innerL
    rw [List.mem_filter]
    have hx := hp.mem_iff (a := x)
    rw [List.mem_cons, List.mem_append, List.mem_singleton] at hx
    constructor
    · rintro ⟨h1, h2⟩
      simp only [Bool.not_eq_true', Bool.or_eq_false_iff, beq_eq_false_iff_ne] at h2
      rcases hx.mpr h1 with e | e | e
      · exact absurd e h2.1
      · exact e
      · exact absurd e h2.2
    · intro h1
      refine ⟨hx.mp (.inr (.inl h1)), ?_⟩
      simp only [Bool.not_eq_true', Bool.or_eq_false_iff, beq_eq_false_iff_ne]
      exact ⟨fun e => na (e ▸ List.mem_append_left _ h1), fun e => ndb x h1 b (by simp) e⟩
  have sI : (innerL n a b).Pairwise (· < ·) := List.pairwise_lt_range.filter _
  have ndI : (innerL n a b).Nodup := sI.imp fun h => Nat.ne_of_lt h
  have pI : mid.Perm (innerL n a b) := (List.perm_ext_iff_of_nodup ndm ndI).mpr fun x => (memI x).symm
  have lI : (innerL n a b).length = n - 2 := by rw [← pI.length_eq, hm]
  have gI : ∀ x ∈ mid, (innerL n a b).idxOf x < n - 2 ∧ (innerL n a b)[(innerL n a b).idxOf x]? = some x := fun x hx => by
    have h1 := List.idxOf_lt_length_of_mem ((memI x).mpr hx)
    exact ⟨lI ▸ h1, by rw [List.getElem?_eq_getElem h1, List.getElem_idxOf h1]⟩
  have gD' : ∀ x ∈ mid, (innerL n a b).getD ((innerL n a b).idxOf x) 0 = x := fun x hx => by rw [List.getD_eq_getElem?_getD, (gI x hx).2]; rfl
  refine ⟨mid.map (innerL n a b).idxOf, ⟨?_, ?_⟩, lI, fun i hi => ?_⟩
  · have e : (innerL n a b).map (innerL n a b).idxOf = List.range (n - 2) := by
      refine List.ext_getElem? fun i => ?_
      rw [List.getElem?_map]
      by_cases hi : i < n - 2
      · rw [List.getElem?_eq_getElem (by lia), List.getElem?_range hi, Option.map_some]
        congr 1
        exact ndI.idxOf_getElem i (by lia)
      · rw [List.getElem?_eq_none (by lia), List.getElem?_eq_none (by simp; lia)]; rfl
    rw [← e]
    exact pI.map _
  · rw [List.pairwise_map]
    have hw2 := (List.pairwise_append.mp (List.pairwise_cons.mp hw).2).1
    refine hw2.imp_of_mem fun {x y} hx hy hl => ?_
    have lt := idx_lt sI ((memI x).mpr hx) ((memI y).mpr hy)
    unfold lex at *
    dsimp only
    rw [gD' x hx, gD' y hy]
    rcases hl with hl | ⟨h1, h2⟩
    · exact .inl hl
    · exact .inr ⟨h1, lt h2⟩
  · have hi' : i < mid.length := by lia
    refine ⟨(innerL n a b).idxOf mid[i], by rw [List.getElem?_map, List.getElem?_eq_getElem hi']; rfl, ?_⟩
    rw [(gI _ (List.getElem_mem hi')).2, List.getElem?_cons_succ, List.getElem?_append_left hi', List.getElem?_eq_getElem hi']
/-! medians are the nearest -/
def dist (s : List Int) (x : Int) : Int := (s.map fun a => absF (a - x)).sum
theorem dist_perm {s t : List Int} (h : s.Perm t) (x : Int) : dist s x = dist t x := by
  unfold dist
  induction h with
  | nil => rfl
  | cons a h ih => simp [ih]
  | swap a b l => simp only [List.map_cons, List.sum_cons]; lia
  | trans _ _ i1 i2 => exact i1.trans i2
theorem near_aux : ∀ (k : Nat) (s : List Int), s.length ≤ k → 1 ≤ s.length → s.Pairwise (· ≤ ·) → ∀ lo hi, s[(s.length - 1) / 2]? = some lo → s[s.length / 2]? = some hi →
    ∃ c, (∀ x, c ≤ dist s x) ∧ ∀ x, dist s x = c ↔ lo ≤ x ∧ x ≤ hi
  | 0, s, h, h1, _, _, _, _, _ => by lia
  | k + 1, s, h, h1, hs, lo, hi, elo, ehi => by
    cases s with
    | nil => simp at h1
    | cons a r =>
      rcases List.eq_nil_or_concat r with rfl | ⟨m, b, rfl⟩
      · simp at elo ehi; subst elo ehi
        refine ⟨0, fun x => ?_, fun x => ?_⟩ <;> simp only [dist, List.map_cons, List.map_nil, List.sum_cons, List.sum_nil, absF] <;> split <;> lia
      · rw [List.concat_eq_append] at *
        obtain ⟨ha, hs2⟩ := List.pairwise_cons.mp hs
        obtain ⟨hm, _, hb⟩ := List.pairwise_append.mp hs2
        have hab : a ≤ b := ha b (by simp)
        have ed : ∀ x, dist (a :: (m ++ [b])) x = absF (a - x) + (dist m x + absF (b - x)) := fun x => by
          unfold dist; simp
        cases m with
        | nil =>
          simp at elo ehi; subst elo ehi
          refine ⟨b - a, fun x => ?_, fun x => ?_⟩ <;> rw [ed] <;> simp only [dist, List.map_nil, List.sum_nil, absF] <;> split <;> split <;> lia
        | cons m0 mr =>
          have ll : (a :: (m0 :: mr ++ [b])).length = (m0 :: mr).length + 2 := by simp
          have e1 : ((m0 :: mr).length + 2 - 1) / 2 = ((m0 :: mr).length - 1) / 2 + 1 := by simp
          have e2 : ((m0 :: mr).length + 2) / 2 = (m0 :: mr).length / 2 + 1 := by lia
          have i1 : ((m0 :: mr).length - 1) / 2 < (m0 :: mr).length := by simp; lia
          have i2 : (m0 :: mr).length / 2 < (m0 :: mr).length := by simp; lia
          rw [ll, e1, List.getElem?_cons_succ, List.getElem?_append_left i1] at elo
          rw [ll, e2, List.getElem?_cons_succ, List.getElem?_append_left i2] at ehi
          obtain ⟨c, c1, c2⟩ := near_aux k (m0 :: mr) (by rw [ll] at h; lia) (by simp) hm lo hi elo ehi
          have mlo := List.mem_of_getElem? elo
          have mhi := List.mem_of_getElem? ehi
          have alo := ha lo (List.mem_append_left _ mlo)
          have hib := hb hi mhi b (by simp)
          refine ⟨c + (b - a), fun x => ?_, fun x => ?_⟩
          · have := c1 x
            rw [ed]; simp only [absF]; split <;> split <;> lia
          · have h1 := c1 x
            have h2 := c2 x
            rw [ed]; simp only [absF]; split <;> split <;> lia
theorem near_low {s ns : List Int} (hp : s.Perm ns) (hs : s.Pairwise (· ≤ ·)) {lo : Int} (elo : s[(s.length - 1) / 2]? = some lo) : lo ∈ ns ∧ (∀ x, dist ns lo ≤ dist ns x) ∧ ∀ x, dist ns x ≤ dist ns lo → lo ≤ x := by
  have h1 : 1 ≤ s.length := by
    rcases Nat.eq_zero_or_pos s.length with e | e
    · rw [List.getElem?_eq_none (by lia)] at elo; cases elo
    · exact e
  obtain ⟨hi, ehi⟩ : ∃ hi, s[s.length / 2]? = some hi := ⟨s[s.length / 2]'(by lia), List.getElem?_eq_getElem _⟩
  obtain ⟨c, c1, c2⟩ := near_aux s.length s (Nat.le_refl _) h1 hs lo hi elo ehi
  have le : lo ≤ hi := by
    by_cases e : (s.length - 1) / 2 = s.length / 2
    · rw [e, ehi] at elo; cases elo; lia
    · have i2 : s.length / 2 < s.length := by lia
      have i1 : (s.length - 1) / 2 < s.length := by lia
      have := List.pairwise_iff_getElem.mp hs _ _ i1 i2 (by lia)
      rw [List.getElem?_eq_getElem i1] at elo
      rw [List.getElem?_eq_getElem i2] at ehi
      cases elo; cases ehi; exact this
  have el := (c2 lo).mpr ⟨Int.le_refl _, le⟩
  simp only [dist_perm hp] at *
  exact ⟨hp.mem_iff.mp (List.mem_of_getElem? elo), fun x => el ▸ c1 x, fun x hx => ((c2 x).mp (by have := c1 x; lia)).1⟩
theorem near_high {s ns : List Int} (hp : s.Perm ns) (hs : s.Pairwise (· ≤ ·)) {hi : Int} (ehi : s[s.length / 2]? = some hi) : hi ∈ ns ∧ (∀ x, dist ns hi ≤ dist ns x) ∧ ∀ x, dist ns x ≤ dist ns hi → x ≤ hi := by
  have h1 : 1 ≤ s.length := by
    rcases Nat.eq_zero_or_pos s.length with e | e
    · rw [List.getElem?_eq_none (by lia)] at ehi; cases ehi
    · exact e
  obtain ⟨lo, elo⟩ : ∃ lo, s[(s.length - 1) / 2]? = some lo := ⟨s[(s.length - 1) / 2]'(by lia), List.getElem?_eq_getElem _⟩
  obtain ⟨c, c1, c2⟩ := near_aux s.length s (Nat.le_refl _) h1 hs lo hi elo ehi
  have le : lo ≤ hi := by
    by_cases e : (s.length - 1) / 2 = s.length / 2
    · rw [e, ehi] at elo; cases elo; lia
    · have i2 : s.length / 2 < s.length := by lia
      have i1 : (s.length - 1) / 2 < s.length := by lia
      have := List.pairwise_iff_getElem.mp hs _ _ i1 i2 (by lia)
      rw [List.getElem?_eq_getElem i1] at elo
      rw [List.getElem?_eq_getElem i2] at ehi
      cases elo; cases ehi; exact this
  have el := (c2 hi).mpr ⟨le, Int.le_refl _⟩
  simp only [dist_perm hp] at *
  exact ⟨hp.mem_iff.mp (List.mem_of_getElem? ehi), fun x => el ▸ c1 x, fun x hx => ((c2 x).mp (by have := c1 x; lia)).2⟩
/-- the nearest numbers, as the law picks them -/
def nearL (ns : List Int) (M : Int) : List Int := ns.filter fun x => decide (dist ns x = M)
theorem near_min {s ns : List Int} (hp : s.Perm ns) (hs : s.Pairwise (· ≤ ·)) {lo M m : Int} (elo : s[(s.length - 1) / 2]? = some lo) (hM : ∃ x ∈ ns, dist ns x = M) (hM' : ∀ x ∈ ns, M ≤ dist ns x)
    (hm : m ∈ nearL ns M) (hm' : ∀ x ∈ nearL ns M, m ≤ x) : lo = m := by
  obtain ⟨a1, a2, a3⟩ := near_low hp hs elo
  obtain ⟨x, hx, ex⟩ := hM
  have e : dist ns lo = M := by have := a2 x; have := hM' lo a1; lia
  obtain ⟨b1, b2⟩ := List.mem_filter.mp hm
  have h1 := hm' lo (List.mem_filter.mpr ⟨a1, by simpa using e⟩)
  have h2 := a3 m (by have := of_decide_eq_true b2; lia)
  lia
theorem near_max {s ns : List Int} (hp : s.Perm ns) (hs : s.Pairwise (· ≤ ·)) {hi M m : Int} (ehi : s[s.length / 2]? = some hi) (hM : ∃ x ∈ ns, dist ns x = M) (hM' : ∀ x ∈ ns, M ≤ dist ns x)
    (hm : m ∈ nearL ns M) (hm' : ∀ x ∈ nearL ns M, x ≤ m) : hi = m := by
  obtain ⟨a1, a2, a3⟩ := near_high hp hs ehi
  obtain ⟨x, hx, ex⟩ := hM
  have e : dist ns hi = M := by have := a2 x; have := hM' hi a1; lia
  obtain ⟨b1, b2⟩ := List.mem_filter.mp hm
  have h1 := hm' hi (List.mem_filter.mpr ⟨a1, by simpa using e⟩)
  have h2 := a3 m (by have := of_decide_eq_true b2; lia)
  lia
end Mine

end PM_

section L1_
namespace Mine
theorem isNotSame0 {w : World} {A : Around} {E : Value → Shared → Prop} {s : Shared} {Q : Value → Shared → Prop} {x : Addr} (h : Q (.bool false) s) : wpAny (model pg w) A (compareOp .IsNot (.ref x) (.ref x)) Q E s := by
  show wpAny _ A (do return .bool (!(← isSame (.ref x) (.ref x)))) Q E s
  unfold isSame
  exact wpAny_bind (ite_t (by simp) (wpAny_pure (wpAny_pure h)))
/-! the codes of law's lambdas -/
abbrev qL : Str := Str.ofString "law.<locals>."
abbrev nmL : Str := Str.ofString "law.<locals>.<lambda>"
def ent : List Addr → List Value
  | [] => []
  | [a] => [rawInt 86, rawInt 19, .ref a]
  | [a, b] => [rawInt 86, rawInt 19, .ref a, rawInt 91, rawInt 23, .ref b]
  | a :: b :: c :: _ => [rawInt 86, rawInt 19, .ref a, rawInt 91, rawInt 23, .ref b, rawInt 92, rawInt 22, .ref c]
def posL (j : Nat) : Pos := match j with
  | 0 => ⟨86, 19, 86, 63⟩
  | 1 => ⟨91, 23, 91, 78⟩
  | _ => ⟨92, 22, 92, 77⟩
theorem ent_new : ∀ (cs : List Addr) (j : Nat), cs.length = j → j < 3 → codeAmong (posL j) (ent cs) = none ∧ ∀ c, ent (cs ++ [c]) = ent cs ++ [rawInt (posL j).line, rawInt (posL j).col, .ref c]
  | [], 0, _, _ => ⟨by kernel_rfl!, fun c => rfl⟩
  | [a], 1, _, _ => ⟨by kernel_rfl!, fun c => rfl⟩
  | [a, b], 2, _, _ => ⟨by kernel_rfl!, fun c => rfl⟩
theorem ent_hit : ∀ (cs : List Addr) (j : Nat), cs.length = 3 → j < 3 → ∃ c ∈ cs, codeAmong (posL j) (ent cs) = some (.ref c)
  | [a, b, c], 0, _, _ => ⟨a, by simp, by kernel_rfl!⟩
  | [a, b, c], 1, _, _ => ⟨b, by simp, by kernel_rfl!⟩
  | [a, b, c], 2, _, _ => ⟨c, by simp, by kernel_rfl!⟩
theorem ent_ok : ∀ cs : List Addr, TriplesOk (ent cs)
  | [] => trivial
  | [_] => trivial
  | [_, _] => trivial
  | _ :: _ :: _ :: _ => trivial
def C90 (H : Heap) (l : List Value) (j : Nat) : Prop := ∃ cs : List Addr, l = ent cs ∧ (cs.length = j ∨ cs.length = 3) ∧ ∀ c ∈ cs, H.CodeRec (.ref c) nmL
theorem C90.up {H H' : Heap} {l : List Value} {j : Nat} (k : Le H H') (x : C90 H l j) : C90 H' l j := let ⟨cs, a, b, c⟩ := x; ⟨cs, a, b, fun y hy => (c y hy).keeps k⟩
theorem lam90 {w : World} {A : Around} {E : Value → Shared → Prop} {q : QT} {X : List Addr} {Z : List (Addr × Obj)} {N : List (Str × NameKind)} {L : Addr} {cl : List (Str × Addr)} {env : Env} {G₀ H₀ h₀ G H h : Heap} {m cm : Str → Option Value} {g : Array GenState} {d : Drawn} {tk : Nat} {os : OsState} {Q : Value → Shared → Prop}
    {params : Arguments} {body : PySem.Expr} {scope : Scope} {clos : List (Str × Addr)} (j : Nat) (F : S w.params q X Z N L cl env G₀ H₀ h₀ m cm G H h) (hcode : env.code = .ref 92) (hqn : env.qual = qL) (C : C90 H q.2 j) (hj : j < 3) (hcl : closureFor scope (cE cl) = pure clos)
    (k : ∀ f c ct q' G' H' h' tk', S w.params q' X Z N L cl env G₀ H₀ h₀ m cm G' H' h' → Le H H' → H'.get? f = some (lamO params body scope (posL j) nmL clos c ct (pmV w.params)) → H'.CodeRec (.ref c) nmL → C90 H' q'.2 (j + 1) → Q (.ref f) ⟨h', g, d, tk', os⟩)
    (hdef : defaultsOf params env = ([], []) := by rfl) :
    wpAny (model pg w) A (eval (.Lambda params body scope (posL j)) env) Q E ⟨h, g, d, tk, os⟩ := by
  obtain ⟨cs, e, hl, hr⟩ := C
  have e90 := F.fs.ok.t90
  rw [e] at e90
  have eq : qL ++ "<lambda>" = nmL := by kernel_rfl!
  by_cases h3 : cs.length = 3
  · obtain ⟨c, hc, hit⟩ := ent_hit cs j h3 hj
    refine lamHit (qn := qL) F 90 c (hd92 F.fs.okh.K) hcode hqn e90 hcl hit (ent_ok cs) (fun f ct H' h' tk' S' l' e' => ?_) hdef
    rw [eq] at e'
    exact k f c ct q G H' h' tk' S' l' e' ((hr c hc).keeps l') ⟨cs, e, .inr h3, fun y hy => (hr y hy).keeps l'⟩
  · obtain ⟨hn, he⟩ := ent_new cs j (hl.resolve_right h3) hj
    refine lamNew (qn := qL) (q' := fun c => (q.1, ent (cs ++ [c]))) F 90 (hd92 F.fs.okh.K) hcode hqn e90 hcl hn (ent_ok cs) (by decide) (fun G' c' _ k1 k2 _ => ?_) (fun f c ct G' H' h' tk' S' l' e' r' => ?_) hdef
    · rw [← he] at k2; exact F.fs.ok.put90 k1 k2
    · rw [eq] at e' r'
      refine k f c ct _ G' H' h' tk' S' l' e' r' ⟨cs ++ [c], rfl, .inl (by rw [List.length_append, hl.resolve_right h3]; rfl), fun y hy => ?_⟩
      rcases List.mem_append.mp hy with hy | hy
      · exact (hr y hy).keeps l'
      · rw [List.mem_singleton] at hy; subst hy; exact r'
/-! the two reductions -/
def lamLe : PySem.Expr := match lawB with
  | _ :: _ :: .For _ _ (_ :: _ :: .Assign _ (.Call _ (a :: _) _ _) _ :: _) .. :: _ => a
  | _ => default
def lamMo : PySem.Expr := match lawB with
  | _ :: _ :: .For _ _ (_ :: _ :: _ :: .Assign _ (.Call _ (a :: _) _ _) _ :: _) .. :: _ => a
  | _ => default
def RLe (μ : Int → Int) (ts : List (Addr × Int)) (i : Nat) (v : Value) : Prop := ∃ j, j < i ∧ v = .ref (ts.getD j default).1 ∧ ∀ k, k < i → k ≠ j → lex (tkey μ ts) j k
def RMo (μ : Int → Int) (ts : List (Addr × Int)) (i : Nat) (v : Value) : Prop := ∃ j, j < i ∧ v = .ref (ts.getD j default).1 ∧ ∀ k, k < i → k ≠ j → lex (tkey μ ts) k j
theorem things_at {ts : List (Addr × Int)} {i : Nat} {v : Value} (h : (ts.map fun p => Value.ref p.1)[i]? = some v) : i < ts.length ∧ v = .ref (ts.getD i default).1 ∧ ts.getD i default ∈ ts := by
  rw [List.getElem?_map] at h
  cases e : ts[i]? with
  | none => rw [e] at h; cases h
  | some p =>
    rw [e] at h; cases h
    have lt := (List.getElem?_eq_some_iff.mp e).1
    have ed : ts.getD i default = p := by rw [List.getD_eq_getElem?_getD, e]; rfl
    exact ⟨lt, by rw [ed], by rw [ed]; exact List.mem_of_getElem? e⟩
theorem things_mem {ts : List (Addr × Int)} {i : Nat} (h : i < ts.length) : ts.getD i default ∈ ts := by
  rw [List.getD_eq_getElem?_getD, List.getElem?_eq_getElem h]; exact List.getElem_mem h
theorem rle_next {μ : Int → Int} {ts : List (Addr × Int)} {i j : Nat} (hj : j < i) (hm : ∀ k, k < i → k ≠ j → lex (tkey μ ts) j k) (b : Bool) (hb : b = decide (tkey μ ts i - tkey μ ts j < 0)) : RLe μ ts (i + 1) (if b then .ref (ts.getD i default).1 else .ref (ts.getD j default).1) := by
  subst hb
  by_cases h : tkey μ ts i - tkey μ ts j < 0
  · rw [if_pos (by simpa using h)]
    refine ⟨i, Nat.lt_succ_self _, rfl, fun k hk nk => ?_⟩
    by_cases e : k = j
    · subst e; exact .inl (by lia)
    · have := hm k (by lia) e
      unfold lex at *; lia
  · rw [if_neg (by simpa using h)]
    refine ⟨j, Nat.lt_succ_of_lt hj, rfl, fun k hk nk => ?_⟩
    by_cases e : k = i
    · subst e; unfold lex; lia
    · exact hm k (by lia) nk
theorem rmo_next {μ : Int → Int} {ts : List (Addr × Int)} {i j : Nat} (hj : j < i) (hm : ∀ k, k < i → k ≠ j → lex (tkey μ ts) k j) (b : Bool) (hb : b = decide (tkey μ ts i - tkey μ ts j < 0)) : RMo μ ts (i + 1) (if b then .ref (ts.getD j default).1 else .ref (ts.getD i default).1) := by
  subst hb
  by_cases h : tkey μ ts i - tkey μ ts j < 0
  · rw [if_pos (by simpa using h)]
    refine ⟨j, Nat.lt_succ_of_lt hj, rfl, fun k hk nk => ?_⟩
    by_cases e : k = i
    · subst e; exact .inl (by lia)
    · exact hm k (by lia) nk
  · rw [if_neg (by simpa using h)]
    refine ⟨i, Nat.lt_succ_self _, rfl, fun k hk nk => ?_⟩
    by_cases e : k = j
    · subst e; unfold lex; lia
    · have := hm k (by lia) e
      unfold lex at *; lia
set_option maxHeartbeats 2000000 in
theorem le_step {w : World} {Γ : Heap → Prop} {H : Heap} {f c cc k : Addr} {ct pm : Value} {μ : Int → Int} {ts : List (Addr × Int)} (e : H.get? f = some ⟨.type "function", none, .func (fdL lamLe nmL [(Str.ofString "compared", cc)] c ct pm), #[]⟩) (hr : H.CodeRec (.ref c) nmL)
    (hG : Gm Γ) (hk : Cmp w Γ H k μ) (hΓ : ∀ h, Γ h → h.IsCell cc (some (.ref k)) ∧ cc ∉ T0) (hT : ∀ p ∈ ts, Thing H p.1 p.2) : Step w Γ H f (ts.map fun p => Value.ref p.1) (RLe μ ts) := by
  refine ⟨⟨_, e⟩, fun i v x hR hx q G H' h l F hg => ?_⟩
  obtain ⟨j, hj, rfl, hm⟩ := hR
  obtain ⟨li, rfl, mi⟩ := things_at hx
  have mj := things_mem (ts := ts) (i := j) (by lia)
  obtain ⟨fd, hfd⟩ := hk.1
  intro A g d tk os Q E hA kk
  refine enterE (fun _ => some (.ref k)) (body := lamBody lamLe) (binds := [(Str.ofString "one", .ref (ts.getD j default).1), (Str.ofString "two", .ref (ts.getD i default).1)]) F hA (by decide) (F.sub _ _ (l _ _ e)) ((hr.keeps l).keeps F.sub) (by kernel_rfl!) (by kernel_rfl!) (fun n c' hh => ?_) (fun n n' c' hh hh' => ?_) (by kernel_rfl!) (by kernel_rfl!) (by kernel_rfl!) (by kernel_rfl!) (by kernel_rfl!) (by kernel_rfl!) (by kernel_rfl!) ?_
  · obtain ⟨_, rfl⟩ := cellClo (nm := Str.ofString "compared") (cm := cc) (by kernel_rfl!) hh
    exact hΓ _ hg
  · rw [(cellClo (nm := Str.ofString "compared") (cm := cc) (by kernel_rfl!) hh).1, (cellClo (nm := Str.ofString "compared") (cm := cc) (by kernel_rfl!) hh').1]
  intro L h₁ tk₁ E' env A' henv S0 hA' hL; clear henv
  refine wpAny_IfExp (wpAny_isTrue_Compare1 (Call_ (ldF (.ref k) cc S0 (callWith_def (o := ⟨.type "function", none, .func fd, #[]⟩) rfl (args_cons (ldL (.ref (ts.getD i default).1) S0 (args_cons (ldL (.ref (ts.getD j default).1) S0 (args_nil ⟨S0.sub _ _ (l _ _ hfd), ?_⟩)))))))))
  refine callQ S0 (hA'.up (by decide)) (hk.2 q G H' h₁ l S0.fs.vw (hG _ _ S0.fs.kp hg) _ _ _ _ ((hT _ mi).up l) ((hT _ mj).up l)) fun r H2 h2 tk2 S2 l2 ⟨t2, er⟩ => ?_
  subst er
  refine wpAny_Constant_int (lt_int (wpAny_truthy_bool ?_))
  have nx := rle_next hj hm _ rfl
  cases hb : decide (tkey μ ts i - tkey μ ts j < 0) with
  | true =>
    rw [hb] at nx
    rw [if_pos (show decide (μ (ts.getD i default).2 - μ (ts.getD j default).2 < 0) = true from hb)]
    refine ldL (.ref (ts.getD i default).1) S2 ?_
    exact kk _ _ _ _ S2.fs.drop nx
  | false =>
    rw [hb] at nx
    rw [if_neg (by rw [show decide (μ (ts.getD i default).2 - μ (ts.getD j default).2 < 0) = false from hb]; simp)]
    refine ldL (.ref (ts.getD j default).1) S2 ?_
    exact kk _ _ _ _ S2.fs.drop nx
set_option maxHeartbeats 2000000 in
theorem mo_step {w : World} {Γ : Heap → Prop} {H : Heap} {f c cc k : Addr} {ct pm : Value} {μ : Int → Int} {ts : List (Addr × Int)} (e : H.get? f = some ⟨.type "function", none, .func (fdL lamMo nmL [(Str.ofString "compared", cc)] c ct pm), #[]⟩) (hr : H.CodeRec (.ref c) nmL)
    (hG : Gm Γ) (hk : Cmp w Γ H k μ) (hΓ : ∀ h, Γ h → h.IsCell cc (some (.ref k)) ∧ cc ∉ T0) (hT : ∀ p ∈ ts, Thing H p.1 p.2) : Step w Γ H f (ts.map fun p => Value.ref p.1) (RMo μ ts) := by
  refine ⟨⟨_, e⟩, fun i v x hR hx q G H' h l F hg => ?_⟩
  obtain ⟨j, hj, rfl, hm⟩ := hR
  obtain ⟨li, rfl, mi⟩ := things_at hx
  have mj := things_mem (ts := ts) (i := j) (by lia)
  obtain ⟨fd, hfd⟩ := hk.1
  intro A g d tk os Q E hA kk
  refine enterE (fun _ => some (.ref k)) (body := lamBody lamMo) (binds := [(Str.ofString "one", .ref (ts.getD j default).1), (Str.ofString "two", .ref (ts.getD i default).1)]) F hA (by decide) (F.sub _ _ (l _ _ e)) ((hr.keeps l).keeps F.sub) (by kernel_rfl!) (by kernel_rfl!) (fun n c' hh => ?_) (fun n n' c' hh hh' => ?_) (by kernel_rfl!) (by kernel_rfl!) (by kernel_rfl!) (by kernel_rfl!) (by kernel_rfl!) (by kernel_rfl!) (by kernel_rfl!) ?_
  · obtain ⟨_, rfl⟩ := cellClo (nm := Str.ofString "compared") (cm := cc) (by kernel_rfl!) hh
    exact hΓ _ hg
  · rw [(cellClo (nm := Str.ofString "compared") (cm := cc) (by kernel_rfl!) hh).1, (cellClo (nm := Str.ofString "compared") (cm := cc) (by kernel_rfl!) hh').1]
  intro L h₁ tk₁ E' env A' henv S0 hA' hL; clear henv
  refine wpAny_IfExp (wpAny_isTrue_Compare1 (Call_ (ldF (.ref k) cc S0 (callWith_def (o := ⟨.type "function", none, .func fd, #[]⟩) rfl (args_cons (ldL (.ref (ts.getD i default).1) S0 (args_cons (ldL (.ref (ts.getD j default).1) S0 (args_nil ⟨S0.sub _ _ (l _ _ hfd), ?_⟩)))))))))
  refine callQ S0 (hA'.up (by decide)) (hk.2 q G H' h₁ l S0.fs.vw (hG _ _ S0.fs.kp hg) _ _ _ _ ((hT _ mi).up l) ((hT _ mj).up l)) fun r H2 h2 tk2 S2 l2 ⟨t2, er⟩ => ?_
  subst er
  refine wpAny_Constant_int (lt_int (wpAny_truthy_bool ?_))
  have nx := rmo_next hj hm _ rfl
  cases hb : decide (tkey μ ts i - tkey μ ts j < 0) with
  | true =>
    rw [hb] at nx
    rw [if_pos (show decide (μ (ts.getD i default).2 - μ (ts.getD j default).2 < 0) = true from hb)]
    refine ldL (.ref (ts.getD j default).1) S2 ?_
    exact kk _ _ _ _ S2.fs.drop nx
  | false =>
    rw [hb] at nx
    rw [if_neg (by rw [show decide (μ (ts.getD i default).2 - μ (ts.getD j default).2 < 0) = false from hb]; simp)]
    refine ldL (.ref (ts.getD i default).1) S2 ?_
    exact kk _ _ _ _ S2.fs.drop nx
end Mine

end L1_

section L2_
namespace Mine
def forB : List Stmt := match lawB with
  | _ :: _ :: .For _ _ b .. :: _ => b
  | _ => []
/-- what law knows of its numbers and things -/
structure LawF (tl nl : Addr) (us : List Value) (ns : List Int) (ts : List (Addr × Int)) (t : Tok) (m cm : Str → Option Value) (H : Heap) : Prop where
  mN : cm sN = some (.ref nl)
  mT : cm sTh = some (.ref tl)
  mMany : m sMany = some (.int (ns.length : Nat) t)
  l : H.IsList nl us.toArray
  i : IntsAre us ns
  th : Things H tl ts
  e : ts.map (fun p : Addr × Int => p.2) = ns
theorem LawF.up {tl nl : Addr} {us : List Value} {ns : List Int} {ts : List (Addr × Int)} {t : Tok} {m cm : Str → Option Value} {H H' : Heap} (k : Le H H') (x : LawF tl nl us ns ts t m cm H) : LawF tl nl us ns ts t m cm H' :=
  ⟨x.mN, x.mT, x.mMany, lmono k x.l, x.i, x.th.up k, x.e⟩
/-- the two mutable cells that a turn's comparison reads -/
def GL (L f k : Addr) (h : Heap) : Prop := (h.IsCell (L + 8) (some (.ref f)) ∧ L + 8 ∉ T0) ∧ (h.IsCell (L + 7) (some (.ref k)) ∧ L + 7 ∉ T0)
theorem gmGL {L f k : Addr} : Gm (GL L f k) := fun h h' kp ⟨⟨⟨o, e, r⟩, n⟩, ⟨⟨o2, e2, r2⟩, n2⟩⟩ => ⟨⟨⟨o, kp _ _ n e, r⟩, n⟩, ⟨⟨o2, kp _ _ n2 e2, r2⟩, n2⟩⟩
structure TurnF (w : World) (L f k : Addr) (μ : Int → Int) (cm : Str → Option Value) (H : Heap) : Prop where
  mM : cm sM = some (.ref f)
  mC : cm sCo = some (.ref k)
  mark : Mark w H f μ
  cmp : Cmp w (GL L f k) H k μ
theorem TurnF.up {w : World} {L f k : Addr} {μ : Int → Int} {cm : Str → Option Value} {H H' : Heap} (l : Le H H') (x : TurnF w L f k μ cm H) : TurnF w L f k μ cm H' := ⟨x.mM, x.mC, x.mark.up l, x.cmp.up l⟩
theorem LC_at (P : Params) (L : Addr) : (LC P L).lookup sM = some (L + 8) ∧ (LC P L).lookup sCo = some (L + 7) := ⟨by kernel_rfl!, by kernel_rfl!⟩
theorem TurnF.gl {w : World} {P : Params} {L f k : Addr} {μ : Int → Int} {cm : Str → Option Value} {H h : Heap} (x : TurnF w L f k μ cm H) (hc : ∀ nm c, (LC P L).lookup nm = some c → h.IsCell c (cm nm) ∧ c ∉ T0) : GL L f k h := by
  have h1 := hc sM _ (LC_at P L).1
  have h2 := hc sCo _ (LC_at P L).2
  rw [x.mM] at h1; rw [x.mC] at h2
  exact ⟨h1, h2⟩
theorem S.cells {P : Params} {q : QT} {X : List Addr} {Z : List (Addr × Obj)} {N : List (Str × NameKind)} {L : Addr} {cl : List (Str × Addr)} {env : Env} {G₀ H₀ h₀ G H h : Heap} {m cm : Str → Option Value} (F : S P q X Z N L cl env G₀ H₀ h₀ m cm G H h) : ∀ nm c, cl.lookup nm = some c → h.IsCell c (cm nm) ∧ c ∉ T0 :=
  fun nm c hc => F.cell nm c (by rw [F.en.cs]; exact hc)
theorem tkey_eq (μ : Int → Int) (ts : List (Addr × Int)) : tkey μ ts = nkey μ (ts.map fun p : Addr × Int => p.2) := by
  funext i
  unfold tkey nkey
  simp only [List.getD_eq_getElem?_getD, List.getElem?_map]
  cases ts[i]? <;> rfl
theorem nats_at {us : List Value} {p : List Nat} (h : Nats us p) {i x : Nat} (e : p[i]? = some x) : ∃ t, us[i]? = some (.int (x : Nat) t) := by
  have hl := ints_len h
  rw [List.length_map] at hl
  have lt := (List.getElem?_eq_some_iff.mp e).1
  obtain ⟨y, t, e1, e2⟩ := ints_at h (List.getElem?_eq_getElem (l := us) (i := i) (by lia))
  rw [List.getElem?_map, e] at e2
  cases e2
  exact ⟨t, by rw [List.getElem?_eq_getElem (l := us) (i := i) (by lia), e1]; rfl⟩
theorem half_at {p : List Nat} {n : Nat} (h : p.length = n) (h1 : 1 ≤ n) : (∃ x, p[(n - 1) / 2]? = some x) ∧ ∃ x, p[n / 2]? = some x :=
  ⟨⟨p[(n - 1) / 2]'(by lia), List.getElem?_eq_getElem _⟩, ⟨p[n / 2]'(by lia), List.getElem?_eq_getElem _⟩⟩
theorem fdiv2 (n : Nat) : ((n : Nat) : Int).fdiv 2 = ((n / 2 : Nat) : Int) := by rw [Int.fdiv_eq_ediv_of_nonneg _ (by decide)]; lia
theorem pred_nat {n : Nat} (h : 1 ≤ n) : ((n : Nat) : Int) - 1 = ((n - 1 : Nat) : Int) := by lia
/-- the sizes of the loop -/
theorem sizes_at {n i : Nat} {t1 t2 tn : Tok} {v : Value} (hn : 2 ≤ n) (h : [Value.int 1 t1, Value.int 2 t2, Value.int (n : Nat) tn][i]? = some v) : ∃ (s : Nat) (t : Tok), v = .int (s : Nat) t ∧ 1 ≤ s ∧ s ≤ n ∧ (i + 1 = 3 → s = n) := by
  match i, h with
  | 0, h => cases h; exact ⟨1, _, rfl, by lia, by lia, by lia⟩
  | 1, h => cases h; exact ⟨2, _, rfl, by lia, by lia, by lia⟩
  | 2, h => cases h; exact ⟨n, _, rfl, by lia, by lia, by lia⟩
  | _ + 3, h => cases h
/-- the two places that a turn's size row holds -/
def PlJ (lo hi : Nat) (i : Nat) (H : Heap) (ys : List Value) : Prop :=
  (i = 0 ∧ ys = []) ∨ (i = 1 ∧ ∃ r t, ys = [.ref r] ∧ H.IsList r [Value.int (lo : Nat) t].toArray) ∨ (i = 2 ∧ ∃ r t r' t', ys = [.ref r, .ref r'] ∧ H.IsList r [Value.int (lo : Nat) t].toArray ∧ H.IsList r' [Value.int (hi : Nat) t'].toArray)
theorem PlJ.up {lo hi i : Nat} {H H' : Heap} {ys : List Value} (k : Le H H') (x : PlJ lo hi i H ys) : PlJ lo hi i H' ys := by
  rcases x with x | ⟨a, r, t, b, c⟩ | ⟨a, r, t, r', t', b, c, d⟩
  · exact .inl x
  · exact .inr (.inl ⟨a, r, t, b, lmono k c⟩)
  · exact .inr (.inr ⟨a, r, t, r', t', b, lmono k c, lmono k d⟩)
theorem PlJ.len {lo hi i : Nat} {H : Heap} {ys : List Value} (x : PlJ lo hi i H ys) : ys.length ≤ i := by
  rcases x with ⟨a, b⟩ | ⟨a, r, t, b, c⟩ | ⟨a, r, t, r', t', b, c, d⟩ <;> simp [a, b]
theorem reads1 {h : Heap} {r : Addr} {x : Int} {t : Tok} (e : h.IsList r [Value.int x t].toArray) : ∃ as, Reads h (.ref r) (.list [.int x]) as := by
  obtain ⟨o, e1, e2, n, e3⟩ := e
  exact ⟨_, .list e1 e2 e3 (.cons (.int _ _) .nil)⟩
/-- two rows of one number each, compared -/
theorem ne_pairs {w : World} {A : Around} {E : Value → Shared → Prop} {s : Shared} {Q : Value → Shared → Prop} {a b r r' u u' : Addr} {x y : Int} {t1 t2 t3 t4 : Tok} (hu : A.units ≤ 400) (ha : s.heap.IsList a [Value.ref r, .ref r'].toArray) (hb : s.heap.IsList b [Value.ref u, .ref u'].toArray)
    (h1 : s.heap.IsList r [Value.int x t1].toArray) (h2 : s.heap.IsList r' [Value.int y t2].toArray) (h3 : s.heap.IsList u [Value.int x t3].toArray) (h4 : s.heap.IsList u' [Value.int y t4].toArray) (k : Q (.bool false) s) : wpAny (model pg w) A (compareOp .NotEq (.ref a) (.ref b)) Q E s := by
  obtain ⟨a1, r1⟩ := reads1 h1
  obtain ⟨a2, r2⟩ := reads1 h2
  obtain ⟨a3, r3⟩ := reads1 h3
  obtain ⟨a4, r4⟩ := reads1 h4
  obtain ⟨o, e1, e2, n, e3⟩ := ha
  obtain ⟨o', e1', e2', n', e3'⟩ := hb
  refine ne_dataH (.list e1 e2 e3 (.cons r1 (.cons r2 .nil))) (.list e1' e2' e3' (.cons r3 (.cons r4 .nil))) (by rfl) (by rfl) (by show A.units + 64 < 9900; lia) ?_
  have : PyData.eqv (.list [.list [.int x], .list [.int y]]) (.list [.list [.int x], .list [.int y]]) = true := by simp [PyData.eqv, PyData.eqvAll]
  rw [this]; exact k
end Mine

end L2_

section L3_
namespace Mine
def sizeB : List Stmt := match forB with
  | _ :: .For _ _ b .. :: _ => b
  | _ => []
theorem cmN {cm : Str → Option Value} {x y : Str} {v r : Option Value} (e : cm x = r) (h : x ≠ y := by decide +kernel) : (if x = y then v else cm x) = r := (if_neg h).trans e
theorem plJ_mid {w : World} {lo hi i : Nat} {p : List Nat} {sz : Nat} {v : Value} {H : Heap} {ys : List Value} (hv : [Value.ref 34, .ref 41][i]? = some v) (elo : p[(sz - 1) / 2]? = some lo) (ehi : p[sz / 2]? = some hi) (hJ : PlJ lo hi i H ys) :
    ∃ mid pk x, v = .ref mid ∧ Mid w mid pk ∧ p[pk sz]? = some x ∧ ∀ H' r t, Le H H' → H'.IsList r [Value.int (x : Nat) t].toArray → PlJ lo hi (i + 1) H' (ys ++ [.ref r]) := by
  match i, hv with
  | 0, hv =>
    cases hv
    refine ⟨34, _, lo, rfl, mid_low w, elo, fun H' r t l e => ?_⟩
    rcases hJ with ⟨_, rfl⟩ | ⟨h, _⟩ | ⟨h, _⟩
    · exact .inr (.inl ⟨rfl, r, t, rfl, e⟩)
    · cases h
    · cases h
  | 1, hv =>
    cases hv
    refine ⟨41, _, hi, rfl, mid_high w, ehi, fun H' r t l e => ?_⟩
    rcases hJ with ⟨h, _⟩ | ⟨_, r0, t0, rfl, e0⟩ | ⟨h, _⟩
    · cases h
    · exact .inr (.inr ⟨rfl, r0, t0, r, t, rfl, lmono l e0, e⟩)
    · cases h
  | _ + 2, hv => cases hv
set_option maxHeartbeats 2000000 in
theorem size_turn {w : World} {A : Around} {E : Value → Shared → Prop} {q : QT} {Z : List (Addr × Obj)} {L : Addr} {env : Env} {G₀ H₀ h₀ G H h : Heap} {m cm : Str → Option Value} {g : Array GenState} {d : Drawn} {tk : Nat} {os : OsState} {Q : Flow → Shared → Prop} {P : Params}
    {tl nl f k : Addr} {us : List Value} {ns : List Int} {ts : List (Addr × Int)} {tn t : Tok} {μ : Int → Int} {sz : Nat} (hP : P = w.params) (F : S w.params q (LX L) Z (LN P) L (LC P L) env G₀ H₀ h₀ m cm G H h) (hA : Ar A 380) (B : LawF tl nl us ns ts tn m cm H) (T : TurnF w L f k μ cm H) (h60 : ns.length ≤ 60)
    (mS : cm sSize = some (.int (sz : Nat) t)) (h1 : 1 ≤ sz) (hs : sz ≤ ns.length)
    (kk : ∀ r vs G' H' h' tk', S w.params q (LX L) Z (LN P) L (LC P L) env G₀ H₀ h₀ m (fun y => if y = sO then some (.ref r) else cm y) G' H' h' → Le H H' → H'.IsList r vs.toArray → Nats vs (ordN μ (ns.take sz) sz) → Q .next ⟨h', g, d, tk', os⟩) :
    wpAny (model pg w) A (execs sizeB env) Q E ⟨h, g, d, tk, os⟩ := by
  subst hP
  obtain ⟨mN, mT, mMany, hl, hI, hT, eT⟩ := B
  have ls : (ns.take sz).length = sz := by rw [List.length_take]; lia
  have lts : ts.length = ns.length := by rw [← eT, List.length_map]
  have lts' : (ts.take sz).length = sz := by rw [List.length_take]; lia
  refine wpAny_execs_cons (wpAny_Assign_Name (Call_ (ldG (.ref 69) F ?_)))
  refine callWith_def (o := ⟨.type "function", none, .func (fnOf w.params 69), #[]⟩) rfl (args_cons ?_)
  refine Subscript_ (ldC (.ref nl) (L + 1) F ?_ (hv := mN))
  refine wpAny_Slice (wpAny_pure ?_)
  refine ldC (.int (sz : Nat) t) (L + 3) F (wpAny_pure ?_) (hv := mS)
  refine slT (b := sz) F hl (by rw [ints_len hI]; lia) fun r1 H1 h1' S1 l1 e1 => ?_
  refine args_cons (ldC (.ref f) (L + 8) S1 (args_nil ⟨S1.fs.okh.K 69 _ (fn69 _), ?_⟩) (hv := T.mM))
  refine callF S1 hA (ord_call S1.fs.vw (isL e1) (ints_take hI sz) (T.mark.up l1) (by rw [ls]; lia)) fun v G2 H2 h2 tk2 S2 l2 ⟨r2, us2, ev, e2, n2⟩ => ?_
  subst ev
  rw [ls] at n2
  refine stC (L + 4) S2 fun h3 S3 => ?_
  have le2 : Le H H2 := fun b o e => l2 _ _ (l1 _ _ e)
  have hp : SO (tkey μ (ts.take sz)) (ts.take sz).length (ordN μ (ns.take sz) sz) := by
    rw [tkey_eq, List.map_take, eT, lts']; exact ord_SO sz
  obtain ⟨⟨lo, elo⟩, hi, ehi⟩ := half_at (ordN_len (μ := μ) (ns := ns.take sz) sz) h1
  refine wpAny_execs_cons (wpAny_If ?_)
  refine wpAny_isTrue_Compare1 ?_
  refine comp S3 [(sTh, L + 2), (sSize, L + 3), (sCo, L + 7)] 2 (PlJ lo hi) (hA.up (by decide)) (fun _ _ _ _ l x => x.up l) (fun _ _ _ x => x.len) ?_ (by kernel_rfl!) ?_
  · refine listE ?_
    refine args_cons (ldG (.ref 34) S3 ?_)
    refine args_cons (ldG (.ref 41) S3 ?_)
    refine args_nil ⟨by simp, ?_⟩
    refine mkL S3 fun r4 H4 h4 S4 l4 e4 => ?_
    refine srcL S4 hA.1 (isL e4) fun I5 o5 h5 S5 src5 => ?_
    refine ⟨I5, _, G2, H4, h5, _, o5, rfl, rfl, src5, S5, .inl ⟨rfl, rfl⟩, ?_, ?_⟩
    · intro i v C env' ys G6 H6 h6 m' E6 tk6 hi' hv le6 hJ hm' henv' S6 hce
      have le6' : Le H H6 := fun b o e => le6 _ _ (l4 _ _ (le2 _ _ e))
      obtain ⟨mid, pk, x, ev, hM, hx, hstep⟩ := plJ_mid (w := w) hv elo ehi hJ
      subst ev
      refine tests0 ?_
      rw [if_pos rfl]
      refine Call_ (ldG (.ref 74) S6 ?_)
      refine callWith_def (o := ⟨.type "function", none, .func (fnOf w.params 74), #[]⟩) rfl ?_
      refine args_cons (ldL (.ref mid) S6 ?_ (hv := hm'))
      refine args_cons (Subscript_ (ldC (.ref tl) (L + 2) S6 ?_ (hv := cmN mT)))
      refine wpAny_Slice (wpAny_pure ?_)
      refine ldC (.int (sz : Nat) t) (L + 3) S6 (wpAny_pure ?_) (hv := cmN mS)
      refine slT (b := sz) S6 (lmono le6' hT.1) (by rw [List.length_map]; lia) fun r7 H7 h7 S7 l7 e7 => ?_
      refine args_cons (ldC (.ref k) (L + 7) S7 (args_nil ⟨S7.fs.okh.K 74 _ (fn74 _), ?_⟩) (hv := cmN T.mC))
      have le7 : Le H H7 := fun b o e => l7 _ _ (le6' _ _ e)
      have gl : GL L f k h6 := TurnF.gl (P := w.params) (cm := fun y => if y = sO then some (.ref r2) else cm y) ⟨cmN T.mM, cmN T.mC, T.mark, T.cmp⟩ hce
      refine callF S7 hA (place_call (i₀ := x) S7.fs.vw hM ⟨by rw [List.map_take]; exact isL e7, fun p hp => (hT.2 p (List.mem_of_mem_take hp)).up le7⟩ (T.cmp.up le7) gmGL (gmGL _ _ S7.fs.kp gl) (by lia) (by lia) hp (by rw [lts']; exact hx)) fun v G8 H8 h8 tk8 S8 l8 ⟨r8, t8, ev, e8⟩ => ?_
      subst ev
      exact ⟨_, _, _, _, rfl, S8.fs, hstep H8 r8 t8 (fun b o e => l8 _ _ (l7 _ _ e)) e8⟩
    · intro D G9 H9 h9 tk9 ys S9 l9 e9 hJ
      rcases hJ with ⟨hz, _⟩ | ⟨hz, _⟩ | ⟨_, ra, ta, rb, tb, rfl, ea, eb⟩
      · cases hz
      · cases hz
      have le9 : Le H2 H9 := fun b o e => l9 _ _ (l4 _ _ e)
      obtain ⟨tlo, glo⟩ := nats_at n2 elo
      obtain ⟨thi, ghi⟩ := nats_at n2 ehi
      have lus : us2.length ≤ 100000 := by have := ints_len n2; rw [List.length_map, ordN_len] at this; lia
      refine listE ?_
      refine args_cons (listE ?_)
      refine args_cons (Subscript_ (ldC (.ref r2) (L + 4) S9 ?_))
      refine wpAny_BinOp (wpAny_BinOp (ldC (.int (sz : Nat) t) (L + 3) S9 ?_ (hv := cmN mS)))
      refine wpAny_Constant_int (sub_int ?_)
      refine wpAny_Constant_int (floordiv_int (by decide) ?_)
      rw [pred_nat h1, fdiv2]
      refine itemL (.int (lo : Nat) tlo) S9 (lmono le9 e2) (Int.natCast_nonneg _) lus (by rw [Int.toNat_natCast]; exact glo) ?_
      refine args_nil ⟨by simp, ?_⟩
      refine mkL S9 fun u1 H10 h10 S10 l10 e10 => ?_
      refine args_cons (listE ?_)
      refine args_cons (Subscript_ (ldC (.ref r2) (L + 4) S10 ?_))
      refine wpAny_BinOp (ldC (.int (sz : Nat) t) (L + 3) S10 ?_ (hv := cmN mS))
      refine wpAny_Constant_int (floordiv_int (by decide) ?_)
      rw [fdiv2]
      refine itemL (.int (hi : Nat) thi) S10 (lmono l10 (lmono le9 e2)) (Int.natCast_nonneg _) lus (by rw [Int.toNat_natCast]; exact ghi) ?_
      refine args_nil ⟨by simp, ?_⟩
      refine mkL S10 fun u2 H11 h11 S11 l11 e11 => ?_
      refine args_nil ⟨by simp, ?_⟩
      refine mkL S11 fun u3 H12 h12 S12 l12 e12 => ?_
      have l1012 : Le H10 H12 := fun b o e => l12 _ _ (l11 _ _ e)
      have l912 : Le H9 H12 := fun b o e => l1012 _ _ (l10 _ _ e)
      refine ne_pairs (by have := hA.2.2; lia) (lmono S12.sub (lmono l912 e9)) (lmono S12.sub (isL e12)) (lmono S12.sub (lmono l912 ea)) (lmono S12.sub (lmono l912 eb)) (lmono S12.sub (lmono l1012 (isL e10))) (lmono S12.sub (lmono l12 (isL e11))) (wpAny_truthy_bool ?_)
      refine wpAny_execs_nil (wpAny_execs_nil ?_)
      exact kk r2 us2 G9 H12 h12 _ S12 (fun b o e => l912 _ _ (le9 _ _ (le2 _ _ e))) (lmono l912 (lmono le9 e2)) n2
  · intro nm c hh
    have := mem_of_lookup hh
    simp only [List.mem_cons, Prod.mk.injEq, List.not_mem_nil, or_false] at this
    rcases this with ⟨rfl, rfl⟩ | ⟨rfl, rfl⟩ | ⟨rfl, rfl⟩ <;> kernel_rfl!
end Mine

end L3_

section L4_
namespace Mine
theorem LawF.cm {tl nl : Addr} {us : List Value} {ns : List Int} {ts : List (Addr × Int)} {t : Tok} {m cm m' cm' : Str → Option Value} {H : Heap} (x : LawF tl nl us ns ts t m cm H) (e1 : cm' sN = cm sN) (e2 : cm' sTh = cm sTh) (e3 : m' sMany = m sMany) : LawF tl nl us ns ts t m' cm' H :=
  ⟨e1.trans x.mN, e2.trans x.mT, e3.trans x.mMany, x.l, x.i, x.th, x.e⟩
theorem TurnF.cm {w : World} {L f k : Addr} {μ : Int → Int} {cm cm' : Str → Option Value} {H : Heap} (x : TurnF w L f k μ cm H) (e1 : cm' sM = cm sM) (e2 : cm' sCo = cm sCo) : TurnF w L f k μ cm' H := ⟨e1.trans x.mM, e2.trans x.mC, x.mark, x.cmp⟩
/-- all but size and order stand as they stood -/
def ButSO (cm cm' : Str → Option Value) : Prop := ∀ x, x ≠ sSize → x ≠ sO → cm' x = cm x
set_option maxHeartbeats 2000000 in
theorem size_loop {w : World} {A : Around} {E : Value → Shared → Prop} {q : QT} {Z : List (Addr × Obj)} {L : Addr} {env : Env} {G₀ H₀ h₀ G H h : Heap} {m cm : Str → Option Value} {g : Array GenState} {d : Drawn} {tk : Nat} {os : OsState} {Q : Flow → Shared → Prop} {P : Params}
    {tl nl f k : Addr} {us : List Value} {ns : List Int} {ts : List (Addr × Int)} {tn : Tok} {μ : Int → Int} (hP : P = w.params) (F : S w.params q (LX L) Z (LN P) L (LC P L) env G₀ H₀ h₀ m cm G H h) (hA : Ar A 380) (B : LawF tl nl us ns ts tn m cm H) (T : TurnF w L f k μ cm H) (h5 : 5 ≤ ns.length) (h60 : ns.length ≤ 60)
    (kk : ∀ r vs cm' G' H' h' tk', S w.params q (LX L) Z (LN P) L (LC P L) env G₀ H₀ h₀ m cm' G' H' h' → Le H H' → ButSO cm cm' → cm' sO = some (.ref r) → H'.IsList r vs.toArray → Nats vs (ordN μ ns ns.length) → wpAny (model pg w) A (execs (forB.drop 2) env) Q E ⟨h', g, d, tk', os⟩) :
    wpAny (model pg w) A (execs (forB.drop 1) env) Q E ⟨h, g, d, tk, os⟩ := by
  subst hP
  refine wpAny_execs_cons (forR (G₀ := G₀) (H₀ := H₀) (h₀ := h₀) (X := LX L) (Z := Z) (N := LN w.params) (L := L) (cls := LC w.params L) 3 0
    (fun i q' m' cm' H' => q' = q ∧ m' = m ∧ ButSO cm cm' ∧ (i = 3 → ∃ r vs, cm' sO = some (.ref r) ∧ H'.IsList r vs.toArray ∧ Nats vs (ordN μ ns ns.length))) ?_)
  refine listE ?_
  refine args_cons (wpAny_Constant_int ?_)
  refine args_cons (wpAny_Constant_int ?_)
  refine args_cons (ldL (.int (ns.length : Nat) tn) F ?_ (hv := B.mMany))
  refine args_nil ⟨by simp, ?_⟩
  refine mkL F fun r1 H1 h1 S1 l1 e1 => ?_
  refine srcL S1 hA.1 (isL e1) fun I2 o2 h2 S2 src2 => ?_
  refine ⟨I2, _, q, m, cm, G, H1, h2, _, o2, rfl, rfl, src2, Nat.zero_le _, S2, ⟨rfl, rfl, fun _ _ _ => rfl, fun e => absurd e (by decide)⟩, ?_, ?_⟩
  · rintro i v q3 m3 cm3 G3 H3 h3 tk3 o3 E3 hi hv le ⟨rfl, rfl, bt, _⟩ S3
    obtain ⟨sz, t, rfl, s1, s2, s3⟩ := sizes_at (by lia) hv
    refine wpAny_assign_Name (stC (L + 3) S3 fun h4 S4 => ?_)
    have le3 : Le H H3 := fun b o e => le _ _ (l1 _ _ e)
    have b4 : ∀ x, x ≠ sSize → x ≠ sO → (if x = sSize then some (Value.int (sz : Nat) t) else cm3 x) = cm x := fun x h1 h2 => (if_neg h1).trans (bt x h1 h2)
    refine size_turn (sz := sz) (t := t) rfl S4 hA ((B.up le3).cm (b4 _ (by decide +kernel) (by decide +kernel)) (b4 _ (by decide +kernel) (by decide +kernel)) rfl) ((T.up le3).cm (b4 _ (by decide +kernel) (by decide +kernel)) (b4 _ (by decide +kernel) (by decide +kernel))) h60 (if_pos rfl) s1 s2 fun r vs G5 H5 h5 tk5 S5 l5 e5 n5 => ?_
    refine ⟨.inl rfl, q3, m3, _, G5, H5, h5, tk5, rfl, S5, l5, rfl, rfl, fun x h1 h2 => (if_neg h2).trans (b4 x h1 h2), fun e => ⟨r, vs, if_pos rfl, e5, ?_⟩⟩
    have := s3 e
    subst this
    rw [List.take_length] at n5; exact n5
  · rintro q3 m3 cm3 G3 H3 h3 tk3 S3 le ⟨rfl, rfl, bt, z⟩
    obtain ⟨r, vs, e1, e2, e3⟩ := z rfl
    exact kk r vs cm3 G3 H3 h3 tk3 S3 (fun b o e => le _ _ (l1 _ _ e)) bt e1 e2 e3
end Mine

end L4_

section L5_
namespace Mine
theorem itemN {w : World} {A : Around} {q : QT} {X : List Addr} {Z : List (Addr × Obj)} {N : List (Str × NameKind)} {L : Addr} {cls : List (Str × Addr)} {env : Env} {G₀ H₀ h₀ G H h : Heap} {m cm : Str → Option Value} {g : Array GenState} {d : Drawn} {tk : Nat} {os : OsState} {E : Value → Shared → Prop}
    {value slice : PySem.Expr} {a : Addr} {vs : List Value} {u : Tok} (v : Value) {Q : Value → Shared → Prop} (F : S w.params q X Z N L cls env G₀ H₀ h₀ m cm G H h) (ha : H.IsList a vs.toArray) (hv : vs[vs.length - 1]? = some v)
    (k : Q v ⟨h, g, d, tk, os⟩) (hs : subscripted slice false (.ref a) (.int (-1) u) = operate [.ref a, .int (-1) u] (getItem (.ref a) (.int (-1) u)) := by with_unfolding_all rfl) (ht : ∀ r, letTemporaryGo value (.ref a) r = pure () := by intro _; with_unfolding_all rfl) :
    wpAny (model pg w) A (subscriptTail value slice (.ref a) (.int (-1) u)) Q E ⟨h, g, d, tk, os⟩ := by
  have h1 := (List.getElem?_eq_some_iff.mp hv).1
  have hl := lmono F.sub ha
  refine subscriptTail_builtin hl.typeIs slot_list_getitem.lookup (wpAny_getItem_list_neg hl (by decide) (by rw [List.size_toArray]; lia) (by decide) ?_ k) hs ht
  rw [List.size_toArray, show (-1 + (vs.length : Int)).toNat = vs.length - 1 by lia]
  simpa using hv
abbrev sLe : Str := Str.ofString "least"
abbrev sMo : Str := Str.ofString "most"
theorem zero_lt_at {ts : List (Addr × Int)} (h : 1 ≤ ts.length) : (ts.map fun p => Value.ref p.1)[0]? = some (.ref (ts.getD 0 default).1) := by
  cases ts with
  | nil => simp at h
  | cons p r => rfl
theorem thing_get {ts : List (Addr × Int)} {j : Nat} (h : j < ts.length) : (ts.map fun p => Value.ref p.1)[j]? = some (.ref (ts.getD j default).1) := by
  rw [List.getElem?_map, List.getElem?_eq_getElem h, List.getD_eq_getElem?_getD, List.getElem?_eq_getElem h]; rfl
set_option maxHeartbeats 2000000 in
/-- from the mark to the order of all -/
theorem turnA {w : World} {A : Around} {E : Value → Shared → Prop} {q : QT} {Z : List (Addr × Obj)} {L : Addr} {env : Env} {G₀ H₀ h₀ G H h : Heap} {m cm : Str → Option Value} {g : Array GenState} {d : Drawn} {tk : Nat} {os : OsState} {Q : Flow → Shared → Prop} {P : Params}
    {tl nl f : Addr} {us : List Value} {ns : List Int} {ts : List (Addr × Int)} {tn : Tok} {μ : Int → Int} (hP : P = w.params) (F : S w.params q (LX L) Z (LN P) L (LC P L) env G₀ H₀ h₀ m cm G H h) (hA : Ar A 380) (hcode : env.code = .ref 92) (hqn : env.qual = qL) (B : LawF tl nl us ns ts tn m cm H)
    (mM : cm sM = some (.ref f)) (hm : Mark w H f μ) (C : C90 H q.2 0) (h5 : 5 ≤ ns.length) (h60 : ns.length ≤ 60)
    (kk : ∀ k r vs q' cm' G' H' h' tk', S w.params q' (LX L) Z (LN P) L (LC P L) env G₀ H₀ h₀ m cm' G' H' h' → Le H H' → LawF tl nl us ns ts tn m cm' H' → TurnF w L f k μ cm' H' → C90 H' q'.2 1 → cm' sO = some (.ref r) → H'.IsList r vs.toArray → Nats vs (ordN μ ns ns.length) → wpAny (model pg w) A (execs (forB.drop 2) env) Q E ⟨h', g, d, tk', os⟩) :
    wpAny (model pg w) A (execs forB env) Q E ⟨h, g, d, tk, os⟩ := by
  subst hP
  refine wpAny_execs_cons (wpAny_Assign_Name ?_)
  refine lam90 0 F hcode hqn C (by decide) (clos := [(sM, L + 8)]) (by kernel_rfl!) (fun k1 c1 ct1 q1 G1 H1 h1 tk1 S1 l1 e1 r1 C1 => ?_) (by kernel_rfl!)
  refine stC (L + 7) S1 fun h2 S2 => ?_
  have hc : Cmp w (GL L f k1) H1 k1 μ := cmp_of e1 r1 (hm.up l1) fun h x => x.1
  refine size_loop rfl S2 hA ((B.up l1).cm (if_neg (by decide +kernel)) (if_neg (by decide +kernel)) rfl) ⟨cmN mM, if_pos rfl, hm.up l1, hc⟩ h5 h60 fun r vs cm3 G3 H3 h3 tk3 S3 l3 b3 o3 e3 n3 => ?_
  have b3' : ∀ x, x ≠ sSize → x ≠ sO → x ≠ sCo → cm3 x = cm x := fun x a b c => (b3 x a b).trans (if_neg c)
  refine kk k1 r vs q1 cm3 G3 H3 h3 tk3 S3 (fun b o e => l3 _ _ (l1 _ _ e)) (((B.up l1).up l3).cm (b3' _ (by decide +kernel) (by decide +kernel) (by decide +kernel)) (b3' _ (by decide +kernel) (by decide +kernel) (by decide +kernel)) rfl) ⟨(b3' _ (by decide +kernel) (by decide +kernel) (by decide +kernel)).trans mM, (b3 _ (by decide +kernel) (by decide +kernel)).trans (if_pos rfl), (hm.up l1).up l3, hc.up l3⟩ (C1.up l3) o3 e3 n3
set_option maxHeartbeats 2000000 in
/-- the least and the most -/
theorem turnB {w : World} {A : Around} {E : Value → Shared → Prop} {q : QT} {Z : List (Addr × Obj)} {L : Addr} {env : Env} {G₀ H₀ h₀ G H h : Heap} {m cm : Str → Option Value} {g : Array GenState} {d : Drawn} {tk : Nat} {os : OsState} {Q : Flow → Shared → Prop} {P : Params}
    {tl nl f k r : Addr} {us vs : List Value} {ns : List Int} {ts : List (Addr × Int)} {tn : Tok} {μ : Int → Int} (hP : P = w.params) (F : S w.params q (LX L) Z (LN P) L (LC P L) env G₀ H₀ h₀ m cm G H h) (hA : Ar A 380) (hcode : env.code = .ref 92) (hqn : env.qual = qL) (B : LawF tl nl us ns ts tn m cm H)
    (T : TurnF w L f k μ cm H) (C : C90 H q.2 1) (h5 : 5 ≤ ns.length) (h60 : ns.length ≤ 60) (mO : cm sO = some (.ref r)) (hv : H.IsList r vs.toArray) (hn : Nats vs (ordN μ ns ns.length))
    (kk : ∀ q' m' G' H' h' tk', S w.params q' (LX L) Z (LN P) L (LC P L) env G₀ H₀ h₀ m' cm G' H' h' → Le H H' → m' sMany = m sMany → C90 H' q'.2 3 → wpAny (model pg w) A (execs (forB.drop 5) env) Q E ⟨h', g, d, tk', os⟩) :
    wpAny (model pg w) A (execs (forB.drop 2) env) Q E ⟨h, g, d, tk, os⟩ := by
  subst hP
  have lts : ts.length = ns.length := by rw [← B.e, List.length_map]
  have hp : SO (tkey μ ts) ts.length (ordN μ ns ns.length) := by rw [tkey_eq, B.e, lts]; exact ord_SO _
  have lvs : vs.length = ns.length := by have := ints_len hn; rw [List.length_map, ordN_len] at this; exact this
  refine wpAny_execs_cons (wpAny_Assign_Name (Call_ (ldG (.ref 57) F ?_)))
  refine callWith_def (o := ⟨.type "function", none, .func (fnOf w.params 57), #[]⟩) rfl (args_cons ?_)
  refine lam90 1 F hcode hqn C (by decide) (clos := [(sCo, L + 7)]) (by kernel_rfl!) (fun k1 c1 ct1 q1 G1 H1 h1 tk1 S1 l1 e1 r1 C1 => ?_) (by kernel_rfl!)
  refine args_cons (ldC (.ref tl) (L + 2) S1 (args_nil ⟨S1.fs.okh.K 57 _ (fn57 _), ?_⟩) (hv := B.mT))
  refine callF S1 (hA.up (by decide)) (red_call0 (R := RLe μ ts) (Γ := GL L f k) S1.fs.vw (B.th.up l1).1 (zero_lt_at (by lia)) ⟨0, by lia, rfl, fun j h1 h2 => absurd h1 (by lia)⟩ gmGL (T.gl S1.cells) (le_step e1 r1 gmGL (T.cmp.up l1) (fun h x => x.2) fun p hp => (B.th.2 p hp).up l1)) fun v G2 H2 h2 tk2 S2 l2 r2 => ?_
  obtain ⟨j, hj, rfl, jm⟩ := r2
  rw [List.length_map] at hj jm
  refine stL S2 fun h3 S3 => ?_
  have l02 : Le H H2 := fun b o e => l2 _ _ (l1 _ _ e)
  refine wpAny_execs_cons (wpAny_Assign_Name (Call_ (ldG (.ref 57) S3 ?_)))
  refine callWith_def (o := ⟨.type "function", none, .func (fnOf w.params 57), #[]⟩) rfl (args_cons ?_)
  refine lam90 2 S3 hcode hqn (C1.up l2) (by decide) (clos := [(sCo, L + 7)]) (by kernel_rfl!) (fun k4 c4 ct4 q4 G4 H4 h4 tk4 S4 l4 e4 r4 C4 => ?_) (by kernel_rfl!)
  refine args_cons (ldC (.ref tl) (L + 2) S4 (args_nil ⟨S4.fs.okh.K 57 _ (fn57 _), ?_⟩) (hv := B.mT))
  have l04 : Le H H4 := fun b o e => l4 _ _ (l02 _ _ e)
  refine callF S4 (hA.up (by decide)) (red_call0 (R := RMo μ ts) (Γ := GL L f k) S4.fs.vw (B.th.up l04).1 (zero_lt_at (by lia)) ⟨0, by lia, rfl, fun j h1 h2 => absurd h1 (by lia)⟩ gmGL (T.gl S4.cells) (mo_step e4 r4 gmGL (T.cmp.up l04) (fun h x => x.2) fun p hp => (B.th.2 p hp).up l04)) fun v G5 H5 h5 tk5 S5 l5 r5 => ?_
  obtain ⟨i, hi, rfl, im⟩ := r5
  rw [List.length_map] at hi im
  refine stL S5 fun h6 S6 => ?_
  have l05 : Le H H5 := fun b o e => l5 _ _ (l04 _ _ e)
  obtain ⟨t0, g0⟩ := nats_at hn (hp.head hj jm)
  obtain ⟨t9, g9⟩ := nats_at hn (hp.last hi im)
  rw [lts, ← lvs] at g9
  refine wpAny_execs_cons (wpAny_If (wpAny_isTrue_BoolOp (wpAny_allTrue_Or_cons ?_)))
  refine wpAny_isTrue_Compare1 (ldL (.ref (ts.getD j default).1) S6 ?_)
  refine Subscript_ (ldC (.ref tl) (L + 2) S6 ?_ (hv := B.mT))
  refine Subscript_ (ldC (.ref r) (L + 4) S6 ?_ (hv := mO))
  refine wpAny_Constant_int ?_
  refine itemL (.int (j : Nat) t0) S6 (lmono l05 hv) (by decide) (by lia) g0 ?_
  refine itemL (.ref (ts.getD j default).1) S6 (lmono l05 B.th.1) (Int.natCast_nonneg _) (by rw [List.length_map]; lia) (by rw [Int.toNat_natCast]; exact thing_get hj) ?_
  refine isNotSame0 (wpAny_truthy_bool ?_)
  refine wpAny_allTrue_Or_cons ?_
  refine wpAny_isTrue_Compare1 (ldL (.ref (ts.getD i default).1) S6 ?_)
  refine Subscript_ (ldC (.ref tl) (L + 2) S6 ?_ (hv := B.mT))
  refine Subscript_ (ldC (.ref r) (L + 4) S6 ?_ (hv := mO))
  refine wpAny_UnaryOp (wpAny_Constant_int (PyProof.Rows.neg_int ?_))
  refine itemN (.int (i : Nat) t9) S6 (lmono l05 hv) g9 ?_
  refine itemL (.ref (ts.getD i default).1) S6 (lmono l05 B.th.1) (Int.natCast_nonneg _) (by rw [List.length_map]; lia) (by rw [Int.toNat_natCast]; exact thing_get hi) ?_
  refine isNotSame0 (wpAny_truthy_bool ?_)
  refine wpAny_allTrue_Or_nil ?_
  refine wpAny_execs_nil ?_
  refine kk q4 _ G5 H5 h6 _ S6 l05 ((if_neg (by decide +kernel)).trans (if_neg (by decide +kernel))) (C4.up l5)
end Mine

end L5_

section L6_
namespace Mine
theorem innerL_succ (i a b : Nat) : innerL (i + 1) a b = innerL i a b ++ (if !(i == a || i == b) then [i] else []) := by
  unfold innerL
  rw [List.range_succ, List.filter_append, List.filter_cons]
  rfl
theorem innerL_lt {n a b x : Nat} (h : x ∈ innerL n a b) : x < n := by
  unfold innerL at h
  simpa using (List.mem_filter.mp h).1
theorem notIn2 {w : World} {A : Around} {E : Value → Shared → Prop} {s : Shared} {Q : Value → Shared → Prop} {r : Addr} {a b x : Nat} {t1 t2 t : Tok} (hu : A.units ≤ 400) (e : s.heap.IsList r [Value.int (a : Nat) t1, .int (b : Nat) t2].toArray) (k : Q (.bool (!(x == a || x == b))) s) :
    wpAny (model pg w) A (compareOp .NotIn (.int (x : Nat) t) (.ref r)) Q E s := by
  obtain ⟨o, e1, e2, n, e3⟩ := e
  refine SeqAt.notIn_list_reads (.list e1 e2 e3 (.cons (.int _ _) (.cons (.int _ _) .nil))) (.int _ _) (by rfl) (by rfl) (by show A.units + 1 + 0 < 9900; lia) ?_
  have : ([PyData.int (a : Nat), .int (b : Nat)].any fun y => PyData.eqv y (.int (x : Nat))) = (x == a || x == b) := by
    simp only [List.any_cons, List.any_nil, Bool.or_false, PyData.eqv]
    rw [Bool.eq_iff_iff]
    simp only [Bool.or_eq_true, beq_iff_eq]
    lia
  rw [this]; exact k
/-- the inner things -/
def innT (n a b : Nat) (ts : List (Addr × Int)) : List (Addr × Int) := (innerL n a b).map fun x => ts.getD x default
theorem innT_SO {μ : Int → Int} {ts : List (Addr × Int)} {l : List Nat} {n a b : Nat} (hn : ts.length = n) (h : SO (tkey μ ts) n l) (h3 : 3 ≤ n) (ha : l[0]? = some a) (hb : l[n - 1]? = some b) :
    (innT n a b ts).length = n - 2 ∧ (innerL n a b).length = n - 2 ∧ ∃ p, SO (tkey μ (innT n a b ts)) (n - 2) p ∧ ∃ q0 q1 x0 x1, p[(n - 2 - 1) / 2]? = some q0 ∧ p[(n - 2) / 2]? = some q1 ∧ (innerL n a b)[q0]? = some x0 ∧ (innerL n a b)[q1]? = some x1 ∧ l[(n - 1) / 2]? = some x0 ∧ l[n / 2]? = some x1 := by
  obtain ⟨p, hp, hl, hq⟩ := inner_SO h h3 ha hb
  have ll : l.length = n := by rw [h.1.length_eq, List.length_range]
  obtain ⟨q0, e0, i0⟩ := hq ((n - 2 - 1) / 2) (by lia)
  obtain ⟨q1, e1, i1⟩ := hq ((n - 2) / 2) (by lia)
  rw [show (n - 2 - 1) / 2 + 1 = (n - 1) / 2 by lia] at i0
  rw [show (n - 2) / 2 + 1 = n / 2 by lia] at i1
  obtain ⟨⟨x0, h0⟩, x1, h1⟩ := half_at ll (by lia)
  refine ⟨by unfold innT; rw [List.length_map, hl], hl, p, hp.congr fun j hj => ?_, q0, q1, x0, x1, e0, e1, i0.trans h0, i1.trans h1, h0, h1⟩
  unfold tkey innT
  simp only [List.getD_eq_getElem?_getD, List.getElem?_map]
  rw [List.getElem?_eq_getElem (l := innerL n a b) (i := j) (by lia)]
  rfl
abbrev scI : Scope := { kind := .function, names := [(Str.ofString ".0", .local), (Str.ofString "k", .local), (Str.ofString "things", .free)], isGenerator := false, isCoroutine := false }
set_option maxHeartbeats 2000000 in
/-- _law_place(middle, [things[k] for k in inner], compared) -/
theorem told1 {w : World} {A : Around} {E : Value → Shared → Prop} {q : QT} {Z : List (Addr × Obj)} {L : Addr} {env : Env} {G₀ H₀ h₀ G H h : Heap} {m cm : Str → Option Value} {g : Array GenState} {d : Drawn} {tk : Nat} {os : OsState} {Q : Value → Shared → Prop} {P : Params} {p1 p2 p3 p4 p5 p6 p7 p8 p9 p10 : Pos} {nm : Str}
    {tl nl f k ri mid n a b i₀ : Nat} {us ui : List Value} {ns : List Int} {ts : List (Addr × Int)} {tn : Tok} {μ : Int → Int} {pk : Nat → Nat} {p : List Nat} (hP : P = w.params) (F : S w.params q (LX L) Z (LN P) L (LC P L) env G₀ H₀ h₀ m cm G H h) (hA : Ar A 380) (B : LawF tl nl us ns ts tn m cm H)
    (T : TurnF w L f k μ cm H) (h5 : 5 ≤ n) (h60 : n ≤ 60) (en : ts.length = n) (mI : cm sInner = some (.ref ri)) (hi : H.IsList ri ui.toArray) (hn : Nats ui (innerL n a b)) (hl : (innerL n a b).length = n - 2) (hM : Mid w mid pk) (hm : nsLook nm (ob w.params 3) = pure (some (.ref mid))) (hx : (LN w.params).lookup nm = some .globalImplicit) (hd : (nm == ("__debug__" : Str)) = false)
    (hp : SO (tkey μ (innT n a b ts)) (n - 2) p) (hi0 : p[pk (n - 2)]? = some i₀)
    (kk : ∀ r t G' H' h' tk', S w.params q (LX L) Z (LN P) L (LC P L) env G₀ H₀ h₀ m cm G' H' h' → Le H H' → H'.IsList r [Value.int (i₀ : Nat) t].toArray → Q (.ref r) ⟨h', g, d, tk', os⟩) :
    wpAny (model pg w) A (eval (.Call (.Name (Str.ofString "_law_place") p1) [.Name nm p2, .ListComp (.Subscript (.Name (Str.ofString "things") p3) (.Name (Str.ofString "k") p4) p5) [⟨.Name (Str.ofString "k") p6, .Name (Str.ofString "inner") p7, [], 0⟩] scI p8, .Name (Str.ofString "compared") p9] [] p10) env) Q E ⟨h, g, d, tk, os⟩ := by
  subst hP
  have lt : (innT n a b ts).length = n - 2 := by unfold innT; rw [List.length_map, hl]
  have lu : ui.length = n - 2 := by have := ints_len hn; rw [List.length_map, hl] at this; exact this
  refine Call_ (ldG (.ref 74) F ?_)
  refine callWith_def (o := ⟨.type "function", none, .func (fnOf w.params 74), #[]⟩) rfl (args_cons (ldG (.ref mid) F ?_ (e := hm) (hx := hx) (hd := hd)))
  refine args_cons ?_
  refine comp F [(sTh, L + 2)] ui.length (fun i H ys => ys = ((innT n a b ts).take i).map fun p => Value.ref p.1) (hA.up (by decide)) (fun _ _ _ _ _ x => x) (fun i H ys x => by rw [x, List.length_map, List.length_take]; lia) ?_ (by kernel_rfl!) ?_ (hn := by lia)
  · refine ldC (.ref ri) (L + 5) F ?_ (hv := mI)
    refine srcL F hA.1 hi fun I2 o2 h2 S2 src2 => ?_
    refine ⟨I2, _, G, H, h2, _, o2, rfl, rfl, src2, S2, rfl, ?_, ?_⟩
    · intro i v C env' ys G3 H3 h3 m' E3 tk3 hi' hv le3 hJ hm' henv' S3 hce
      obtain ⟨x, tx, rfl, hx'⟩ := ints_at hn hv
      rw [List.getElem?_map] at hx'
      cases e : (innerL n a b)[i]? with
      | none => rw [e] at hx'; cases hx'
      | some y =>
      rw [e] at hx'; cases hx'
      have ly : y < ts.length := by rw [en]; exact innerL_lt (List.mem_of_getElem? e)
      refine tests0 ?_
      rw [if_pos rfl]
      refine Subscript_ (ldC (.ref tl) (L + 2) S3 ?_ (hv := B.mT))
      refine ldL (.int (y : Nat) tx) S3 ?_ (hv := hm')
      refine itemL (.ref (ts.getD y default).1) S3 (lmono le3 B.th.1) (Int.natCast_nonneg _) (by rw [List.length_map]; lia) (by rw [Int.toNat_natCast]; exact thing_get ly) ?_
      refine ⟨_, _, _, _, rfl, S3.fs, ?_⟩
      have e2 : (innT n a b ts)[i]? = some (ts.getD y default) := by unfold innT; rw [List.getElem?_map, e]; rfl
      show ys ++ [_] = ((innT n a b ts).take (i + 1)).map _
      rw [hJ, List.take_add_one, e2]
      simp
    · intro D G3 H3 h3 tk3 ys S3 l3 e3 hJ
      rw [lu, ← lt, List.take_length] at hJ
      subst hJ
      refine args_cons (ldC (.ref k) (L + 7) S3 (args_nil ⟨S3.fs.okh.K 74 _ (fn74 _), ?_⟩) (hv := T.mC))
      refine callF S3 hA (place_call (i₀ := i₀) S3.fs.vw hM ⟨e3, fun p hp => ?_⟩ (T.cmp.up l3) gmGL (T.gl S3.cells) (by lia) (by lia) (by rw [lt]; exact hp) (by rw [lt]; exact hi0)) fun v G4 H4 h4 tk4 S4 l4 ⟨r4, t4, ev, e4⟩ => ?_
      · unfold innT at hp
        obtain ⟨y, hy, rfl⟩ := List.mem_map.mp hp
        exact (B.th.2 _ (things_mem (by rw [en]; exact innerL_lt hy))).up l3
      subst ev
      exact kk r4 t4 G4 H4 h4 tk4 S4 (fun b o e => l4 _ _ (l3 _ _ e)) e4
  · intro nm c hh
    have := mem_of_lookup hh
    simp only [List.mem_cons, Prod.mk.injEq, List.not_mem_nil, or_false] at this
    obtain ⟨rfl, rfl⟩ := this
    kernel_rfl!
end Mine

end L6_

section L7_
namespace Mine
theorem gN34 (P : Params) : nsLook (Str.ofString "median_low") (ob P 3) = pure (some (.ref 34)) := by kernel_rfl!
theorem gN41 (P : Params) : nsLook (Str.ofString "median_high") (ob P 3) = pure (some (.ref 41)) := by kernel_rfl!
set_option maxHeartbeats 2000000 in
/-- inner -/
theorem turnC {w : World} {A : Around} {E : Value → Shared → Prop} {q : QT} {Z : List (Addr × Obj)} {L : Addr} {env : Env} {G₀ H₀ h₀ G H h : Heap} {m cm : Str → Option Value} {g : Array GenState} {d : Drawn} {tk : Nat} {os : OsState} {Q : Flow → Shared → Prop} {P : Params}
    {r n a b : Nat} {vs : List Value} {p : List Nat} {tn : Tok} (hP : P = w.params) (F : S w.params q (LX L) Z (LN P) L (LC P L) env G₀ H₀ h₀ m cm G H h) (hA : Ar A 380) (mMany : m sMany = some (.int (n : Nat) tn)) (h5 : 5 ≤ n) (h60 : n ≤ 60) (mO : cm sO = some (.ref r)) (hv : H.IsList r vs.toArray) (hn : Nats vs p) (lp : p.length = n) (pa : p[0]? = some a) (pb : p[n - 1]? = some b)
    (kk : ∀ ri ui G' H' h' tk', S w.params q (LX L) Z (LN P) L (LC P L) env G₀ H₀ h₀ m (fun y => if y = sInner then some (.ref ri) else cm y) G' H' h' → Le H H' → H'.IsList ri ui.toArray → Nats ui (innerL n a b) → wpAny (model pg w) A (execs (forB.drop 6) env) Q E ⟨h', g, d, tk', os⟩) :
    wpAny (model pg w) A (execs (forB.drop 5) env) Q E ⟨h, g, d, tk, os⟩ := by
  subst hP
  have lvs : vs.length = n := by have := ints_len hn; rw [List.length_map, lp] at this; exact this
  obtain ⟨t0, g0⟩ := nats_at hn pa
  obtain ⟨t9, g9⟩ := nats_at hn pb
  rw [← lvs] at g9
  refine wpAny_execs_cons (wpAny_Assign_Name ?_ (noSwap F.en (by kernel_rfl!)))
  refine comp F [(sO, L + 4)] n (fun i H ys => Nats ys (innerL i a b)) (hA.up (by decide)) (fun _ _ _ _ _ x => x) (fun i H ys x => ?_) ?_ (by kernel_rfl!) ?_
  · rw [ints_len x, List.length_map]
    unfold innerL
    exact Nat.le_trans (List.length_filter_le ..) (by rw [List.length_range]; exact Nat.le_refl _)
  · refine Call_Name1 (ldB (.type "range") F (PySem.callWith_type1 ?_))
    refine ldL (.int (n : Nat) tn) F ?_ (hv := mMany)
    refine srcR F hA.1 (by lia) fun I2 o2 h2 tk2 S2 src2 => ?_
    refine ⟨I2, _, G, H, h2, tk2, o2, rfl, rfl, src2, S2, .nil, ?_, ?_⟩
    · rintro i v C env' ys G3 H3 h3 m' E3 tk3 hi ⟨ti, rfl⟩ le3 hJ hm' henv' S3 hce
      refine tests1 (wpAny_isTrue_Compare1 (ldL (.int (i : Nat) ti) S3 ?_ (hv := hm')))
      refine listE ?_
      refine args_cons (Subscript_ (ldC (.ref r) (L + 4) S3 ?_ (hv := mO)))
      refine wpAny_Constant_int ?_
      refine itemL (.int (a : Nat) t0) S3 (lmono le3 hv) (by decide) (by lia) g0 ?_
      refine args_cons (Subscript_ (ldC (.ref r) (L + 4) S3 ?_ (hv := mO)))
      refine wpAny_UnaryOp (wpAny_Constant_int (PyProof.Rows.neg_int ?_))
      refine itemN (.int (b : Nat) t9) S3 (lmono le3 hv) g9 ?_
      refine args_nil ⟨by simp, ?_⟩
      refine mkL S3 fun u H4 h4 S4 l4 e4 => ?_
      refine notIn2 (by have := hA.2.2; lia) (lmono S4.sub (isL e4)) (wpAny_truthy_bool ?_)
      cases hc : !(i == a || i == b) with
      | true =>
        rw [if_pos rfl]
        refine ldL (.int (i : Nat) ti) S4 ?_ (hv := hm')
        refine ⟨_, _, _, _, rfl, S4.fs, ?_⟩
        show Nats (ys ++ [_]) (innerL (i + 1) a b)
        rw [innerL_succ, hc, if_pos rfl]
        show IntsAre _ ((innerL i a b ++ [i]).map Int.ofNat)
        rw [List.map_append]
        exact ints_append hJ (.cons _ _ .nil)
      | false =>
        rw [if_neg (by simp)]
        refine ⟨_, _, _, _, rfl, S4.fs, ?_⟩
        show Nats ys (innerL (i + 1) a b)
        rw [innerL_succ, hc, if_neg (by simp), List.append_nil]
        exact hJ
    · intro D G3 H3 h3 tk3 ys S3 l3 e3 hJ
      refine stC (L + 5) S3 fun h4 S4 => ?_
      exact kk D ys G3 H3 h4 _ S4 l3 e3 hJ
  · intro nm c hh
    have := mem_of_lookup hh
    simp only [List.mem_cons, Prod.mk.injEq, List.not_mem_nil, or_false] at this
    obtain ⟨rfl, rfl⟩ := this
    kernel_rfl!
abbrev sToldL : Str := Str.ofString "told"
set_option maxHeartbeats 2000000 in
/-- told, and the end of the turn -/
theorem turnD {w : World} {A : Around} {E : Value → Shared → Prop} {q : QT} {Z : List (Addr × Obj)} {L : Addr} {env : Env} {G₀ H₀ h₀ G H h : Heap} {m cm : Str → Option Value} {g : Array GenState} {d : Drawn} {tk : Nat} {os : OsState} {Q : Flow → Shared → Prop} {P : Params}
    {tl nl f k r ri a b : Nat} {us ui vs : List Value} {ns : List Int} {ts : List (Addr × Int)} {tn : Tok} {μ : Int → Int} (hP : P = w.params) (F : S w.params q (LX L) Z (LN P) L (LC P L) env G₀ H₀ h₀ m cm G H h) (hA : Ar A 380) (B : LawF tl nl us ns ts tn m cm H) (T : TurnF w L f k μ cm H) (h5 : 5 ≤ ns.length) (h60 : ns.length ≤ 60)
    (mO : cm sO = some (.ref r)) (hv : H.IsList r vs.toArray) (hn : Nats vs (ordN μ ns ns.length)) (pa : (ordN μ ns ns.length)[0]? = some a) (pb : (ordN μ ns ns.length)[ns.length - 1]? = some b) (mI : cm sInner = some (.ref ri)) (hi : H.IsList ri ui.toArray) (hni : Nats ui (innerL ns.length a b))
    (kk : ∀ m' G' H' h' tk', S w.params q (LX L) Z (LN P) L (LC P L) env G₀ H₀ h₀ m' cm G' H' h' → Le H H' → m' sMany = m sMany → Q .next ⟨h', g, d, tk', os⟩) :
    wpAny (model pg w) A (execs (forB.drop 6) env) Q E ⟨h, g, d, tk, os⟩ := by
  subst hP
  have lts : ts.length = ns.length := by rw [← B.e, List.length_map]
  have hp : SO (tkey μ ts) ns.length (ordN μ ns ns.length) := by rw [tkey_eq, B.e]; exact ord_SO _
  have lvs : vs.length = ns.length := by have := ints_len hn; rw [List.length_map, ordN_len] at this; exact this
  obtain ⟨ln, li, p, hps, q0, q1, x0, x1, e0, e1, i0, i1, o0, o1⟩ := innT_SO lts hp (by lia) pa pb
  have lui : ui.length = ns.length - 2 := by have := ints_len hni; rw [List.length_map, li] at this; exact this
  refine wpAny_execs_cons (wpAny_Assign_Name (wpAny_BinOp ?_))
  refine told1 (i₀ := q0) rfl F hA B T h5 h60 lts mI hi hni li (mid_low w) (gN34 _) (by kernel_rfl!) (by kernel_rfl!) hps e0 fun r1 t1 G1 H1 h1 tk1 S1 l1 e1' => ?_
  refine told1 (i₀ := q1) rfl S1 hA (B.up l1) (T.up l1) h5 h60 lts mI (lmono l1 hi) hni li (mid_high w) (gN41 _) (by kernel_rfl!) (by kernel_rfl!) hps e1 fun r2 t2 G2 H2 h2 tk2 S2 l2 e2' => ?_
  refine addL S2 (lmono l2 e1') e2' (by simp) fun r3 H3 h3 S3 l3 e3 => ?_
  refine stL S3 fun h4 S4 => ?_
  have l03 : Le H H3 := fun b o e => l3 _ _ (l2 _ _ (l1 _ _ e))
  obtain ⟨s0, gi0⟩ := nats_at hni i0
  obtain ⟨s1, gi1⟩ := nats_at hni i1
  obtain ⟨u0, go0⟩ := nats_at hn o0
  obtain ⟨u1, go1⟩ := nats_at hn o1
  refine wpAny_execs_cons (wpAny_If (wpAny_isTrue_Compare1 ?_))
  refine comp S4 [(sInner, L + 5)] 2 (fun i H ys => ys = [Value.int (x0 : Nat) s0, .int (x1 : Nat) s1].take i) (hA.up (by decide)) (fun _ _ _ _ _ x => x) (fun i H ys x => by rw [x, List.length_take]; lia) ?_ (by kernel_rfl!) ?_
  · refine ldL (.ref r3) S4 ?_
    refine srcL S4 hA.1 (isL e3) fun I5 o5 h5' S5 src5 => ?_
    refine ⟨I5, _, G2, H3, h5', _, o5, rfl, rfl, src5, S5, rfl, ?_, ?_⟩
    · intro i v C env' ys G6 H6 h6 m' E6 tk6 hi' hv' le6 hJ hm' henv' S6 hce
      obtain ⟨qi, ti, xi, si, rfl, gi, hs⟩ : ∃ (qi : Nat) (ti : Tok) (xi : Nat) (si : Tok), v = .int (qi : Nat) ti ∧ ui[qi]? = some (.int (xi : Nat) si) ∧ [Value.int (x0 : Nat) s0, .int (x1 : Nat) s1].take (i + 1) = [Value.int (x0 : Nat) s0, .int (x1 : Nat) s1].take i ++ [.int (xi : Nat) si] := by
        match i, hv' with
        | 0, hv' => cases hv'; exact ⟨q0, t1, x0, s0, rfl, gi0, rfl⟩
        | 1, hv' => cases hv'; exact ⟨q1, t2, x1, s1, rfl, gi1, rfl⟩
        | _ + 2, hv' => cases hv'
      refine tests0 ?_
      rw [if_pos rfl]
      refine Subscript_ (ldC (.ref ri) (L + 5) S6 ?_ (hv := mI))
      refine ldL (.int (qi : Nat) ti) S6 ?_ (hv := hm')
      refine itemL (.int (xi : Nat) si) S6 (lmono le6 (lmono l03 hi)) (Int.natCast_nonneg _) (by lia) (by rw [Int.toNat_natCast]; exact gi) ?_
      exact ⟨_, _, _, _, rfl, S6.fs, by show ys ++ [_] = _; rw [hJ, hs]⟩
    · intro D G6 H6 h6 tk6 ys S6 l6 e6 hJ
      subst hJ
      have l06 : Le H H6 := fun b o e => l6 _ _ (l03 _ _ e)
      refine listE ?_
      refine args_cons (Subscript_ (ldC (.ref r) (L + 4) S6 ?_ (hv := mO)))
      refine wpAny_BinOp (wpAny_BinOp (ldL (.int (ns.length : Nat) tn) S6 ?_ (hv := cmN B.mMany)))
      refine wpAny_Constant_int (sub_int ?_)
      refine wpAny_Constant_int (floordiv_int (by decide) ?_)
      rw [pred_nat (by lia), fdiv2]
      refine itemL (.int (x0 : Nat) u0) S6 (lmono l06 hv) (Int.natCast_nonneg _) (by lia) (by rw [Int.toNat_natCast]; exact go0) ?_
      refine args_cons (Subscript_ (ldC (.ref r) (L + 4) S6 ?_ (hv := mO)))
      refine wpAny_BinOp (ldL (.int (ns.length : Nat) tn) S6 ?_ (hv := cmN B.mMany))
      refine wpAny_Constant_int (floordiv_int (by decide) ?_)
      rw [fdiv2]
      refine itemL (.int (x1 : Nat) u1) S6 (lmono l06 hv) (Int.natCast_nonneg _) (by lia) (by rw [Int.toNat_natCast]; exact go1) ?_
      refine args_nil ⟨by simp, ?_⟩
      refine mkL S6 fun r7 H7 h7 S7 l7 e7 => ?_
      refine ke_ne_ints (ns := [(x0 : Int), (x1 : Int)]) (ms := [(x0 : Int), (x1 : Int)]) (lmono S7.sub (lmono l7 e6)) (lmono S7.sub (isL e7)) (.cons _ _ (.cons _ _ .nil)) (.cons _ _ (.cons _ _ .nil)) (by have := hA.2.2; show A.units + 64 < 9900; lia) ?_
      rw [decide_eq_true rfl]
      refine wpAny_truthy_bool ?_
      refine wpAny_execs_nil (wpAny_execs_nil ?_)
      exact kk _ G6 H7 h7 _ S7 (fun b o e => l7 _ _ (l06 _ _ e)) (if_neg (by decide +kernel))
  · intro nm c hh
    have := mem_of_lookup hh
    simp only [List.mem_cons, Prod.mk.injEq, List.not_mem_nil, or_false] at this
    obtain ⟨rfl, rfl⟩ := this
    kernel_rfl!
end Mine

end L7_

section L8_
namespace Mine
theorem marks_at {w : World} {H : Heap} {p0 p1 p2 : Addr} {tot : Int} {i : Nat} {v : Value} (h0 : Mark w H p0 fun x => absF (x - tot.fmod 10)) (h1 : Mark w H p1 fun x => x.fmod 5) (h2 : Mark w H p2 fun x => 0 - x) (hv : [Value.ref p0, .ref p1, .ref p2][i]? = some v) : ∃ f μ, v = .ref f ∧ Mark w H f μ := by
  match i, hv with
  | 0, hv => cases hv; exact ⟨_, _, rfl, h0⟩
  | 1, hv => cases hv; exact ⟨_, _, rfl, h1⟩
  | 2, hv => cases hv; exact ⟨_, _, rfl, h2⟩
  | _ + 3, hv => cases hv
theorem C90.three {H : Heap} {l : List Value} (x : C90 H l 3) : C90 H l 0 := let ⟨cs, a, b, c⟩ := x; ⟨cs, a, .inr (b.elim id id), c⟩
set_option maxHeartbeats 2000000 in
/-- a turn of the marks' loop -/
theorem mark_turn {w : World} {A : Around} {E : Value → Shared → Prop} {q : QT} {Z : List (Addr × Obj)} {L : Addr} {env : Env} {G₀ H₀ h₀ G H h : Heap} {m cm : Str → Option Value} {g : Array GenState} {d : Drawn} {tk : Nat} {os : OsState} {Q : Flow → Shared → Prop} {P : Params}
    {tl nl f : Addr} {us : List Value} {ns : List Int} {ts : List (Addr × Int)} {tn : Tok} {μ : Int → Int} (hP : P = w.params) (F : S w.params q (LX L) Z (LN P) L (LC P L) env G₀ H₀ h₀ m cm G H h) (hA : Ar A 380) (hcode : env.code = .ref 92) (hqn : env.qual = qL) (B : LawF tl nl us ns ts tn m cm H)
    (mM : cm sM = some (.ref f)) (hm : Mark w H f μ) (C : C90 H q.2 0) (h5 : 5 ≤ ns.length) (h60 : ns.length ≤ 60)
    (kk : ∀ q' m' cm' G' H' h' tk', S w.params q' (LX L) Z (LN P) L (LC P L) env G₀ H₀ h₀ m' cm' G' H' h' → Le H H' → LawF tl nl us ns ts tn m' cm' H' → C90 H' q'.2 0 → Q .next ⟨h', g, d, tk', os⟩) :
    wpAny (model pg w) A (execs forB env) Q E ⟨h, g, d, tk, os⟩ := by
  refine turnA hP F hA hcode hqn B mM hm C h5 h60 fun k r vs q1 cm1 G1 H1 h1 tk1 S1 l1 B1 T1 C1 o1 e1 n1 => ?_
  refine turnB hP S1 hA hcode hqn B1 T1 C1 h5 h60 o1 e1 n1 fun q2 m2 G2 H2 h2 tk2 S2 l2 mm2 C2 => ?_
  have lo := ordN_len (μ := μ) (ns := ns) ns.length
  obtain ⟨a, pa⟩ : ∃ a, (ordN μ ns ns.length)[0]? = some a := ⟨_, List.getElem?_eq_getElem (by lia)⟩
  obtain ⟨b, pb⟩ : ∃ b, (ordN μ ns ns.length)[ns.length - 1]? = some b := ⟨_, List.getElem?_eq_getElem (by lia)⟩
  have B2 := (B1.up l2).cm rfl rfl mm2
  refine turnC hP S2 hA B2.mMany h5 h60 o1 (lmono l2 e1) n1 lo pa pb fun ri ui G3 H3 h3 tk3 S3 l3 e3 n3 => ?_
  have B3 := (B2.up l3).cm (cm' := fun y => if y = sInner then some (.ref ri) else cm1 y) (if_neg (by decide +kernel)) (if_neg (by decide +kernel)) rfl
  refine turnD hP S3 hA B3 (((T1.up l2).up l3).cm (if_neg (by decide +kernel)) (if_neg (by decide +kernel))) h5 h60 (cmN o1) (lmono l3 (lmono l2 e1)) n1 pa pb (if_pos rfl) e3 n3 fun m4 G4 H4 h4 tk4 S4 l4 mm4 => ?_
  exact kk q2 m4 _ G4 H4 h4 tk4 S4 (fun b o e => l4 _ _ (l3 _ _ (l2 _ _ (l1 _ _ e)))) ((B3.up l4).cm rfl rfl mm4) ((C2.up l3).up l4).three
set_option maxHeartbeats 2000000 in
/-- the marks' loop -/
theorem law3 {w : World} {A : Around} {E : Value → Shared → Prop} {L : Addr} {env : Env} {G₀ H₀ h₀ G H h : Heap} {m cm : Str → Option Value} {g : Array GenState} {d : Drawn} {tk : Nat} {os : OsState} {Q : Flow → Shared → Prop} {P : Params}
    {tl nl : Addr} {us : List Value} {ns : List Int} {ts : List (Addr × Int)} {tn : Tok} (hP : P = w.params) (F : S w.params ([], []) (LX L) [] (LN P) L (LC P L) env G₀ H₀ h₀ m cm G H h) (hA : Ar A 380) (hcode : env.code = .ref 92) (hqn : env.qual = qL) (B : LawF tl nl us ns ts tn m cm H) (h5 : 5 ≤ ns.length) (h60 : ns.length ≤ 60)
    (kk : ∀ q' m' cm' G' H' h' tk', S w.params q' (LX L) [] (LN P) L (LC P L) env G₀ H₀ h₀ m' cm' G' H' h' → Le H H' → LawF tl nl us ns ts tn m' cm' H' → wpAny (model pg w) A (execs (lawB.drop 3) env) Q E ⟨h', g, d, tk', os⟩) :
    wpAny (model pg w) A (execs (lawB.drop 2) env) Q E ⟨h, g, d, tk, os⟩ := by
  subst hP
  refine wpAny_execs_cons (forR (G₀ := G₀) (H₀ := H₀) (h₀ := h₀) (X := LX L) (Z := []) (N := LN w.params) (L := L) (cls := LC w.params L) 3 0 (fun i q' m' cm' H' => LawF tl nl us ns ts tn m' cm' H' ∧ C90 H' q'.2 0) ?_)
  refine Call_Name1 (ldG (.ref 64) F ?_)
  refine cwF (fd := fnOf w.params 64) (Call_Name1 (ldB (.builtin "sum") F ?_))
  refine PySem.callWith_builtin1 (ldC (.ref nl) (L + 1) F ?_ (hv := B.mN))
  refine sumL F hA.1 B.l B.i fun t1 h1 tk1 S1 => ⟨S1.fs.okh.K 64 _ (fn64 _), ?_⟩
  refine marks_call (q2 := []) S1.fs.vw ns.sum t1 (hA.up (by decide)) fun l p0 p1 p2 q1 G2 H2 h2 tk2 F2 e2 m0 m1 m2 => ?_
  have S2 := S1.trans F2
  refine srcL S2 hA.1 e2 fun I3 o3 h3 S3 src3 => ?_
  refine ⟨I3, _, (q1, []), m, cm, G2, H2, h3, _, o3, rfl, rfl, src3, Nat.zero_le _, S3, ⟨B.up F2.le, [], rfl, .inl rfl, fun c hc => absurd hc (by simp)⟩, ?_, ?_⟩
  · rintro i v q4 m4 cm4 G4 H4 h4 tk4 o4 E4 hi hv le ⟨B4, C4⟩ S4
    obtain ⟨f, μ, rfl, hm⟩ := marks_at m0 m1 m2 hv
    refine wpAny_assign_Name (stC (L + 8) S4 fun h5' S5 => ?_)
    refine mark_turn rfl S5 hA hcode hqn (B4.cm (if_neg (by decide +kernel)) (if_neg (by decide +kernel)) rfl) (if_pos rfl) (hm.up le) C4 h5 h60 fun q6 m6 cm6 G6 H6 h6 tk6 S6 l6 B6 C6 => ?_
    exact ⟨.inl rfl, q6, m6, cm6, G6, H6, h6, tk6, rfl, S6, l6, B6, C6⟩
  · rintro q4 m4 cm4 G4 H4 h4 tk4 S4 le ⟨B4, C4⟩
    exact kk q4 m4 cm4 G4 H4 h4 tk4 S4 (fun b o e => le _ _ (F2.le _ _ e)) B4
end Mine

end L8_

section L9_
namespace Mine
theorem ne_strs {w : World} {A : Around} {E : Value → Shared → Prop} {s : Shared} {Q : Value → Shared → Prop} {a b : Addr} {t1 t2 t3 t4 : Tok} (hu : A.units ≤ 400) (ha : s.heap.IsList a [Value.str msgT t1, .str msgT t2].toArray) (hb : s.heap.IsList b [Value.str msgT t3, .str msgT t4].toArray) (k : Q (.bool false) s) :
    wpAny (model pg w) A (compareOp .NotEq (.ref a) (.ref b)) Q E s := by
  obtain ⟨o, e1, e2, n, e3⟩ := ha
  obtain ⟨o', e1', e2', n', e3'⟩ := hb
  refine ne_dataH (.list e1 e2 e3 (.cons (.str _ _) (.cons (.str _ _) .nil))) (.list e1' e2' e3' (.cons (.str _ _) (.cons (.str _ _) .nil))) (by kernel_rfl!) (by kernel_rfl!) (by show A.units + 64 < 9900; lia) ?_
  have : PyData.eqv (.list [.str msgT, .str msgT]) (.list [.str msgT, .str msgT]) = true := by kernel_rfl!
  rw [this]; exact k
set_option maxHeartbeats 2000000 in
/-- the refusals -/
theorem law4 {w : World} {A : Around} {E : Value → Shared → Prop} {q : QT} {L : Addr} {env : Env} {G₀ H₀ h₀ G H h : Heap} {m cm : Str → Option Value} {g : Array GenState} {d : Drawn} {tk : Nat} {os : OsState} {Q : Flow → Shared → Prop} {P : Params}
    (hP : P = w.params) (F : S w.params q (LX L) [] (LN P) L (LC P L) env G₀ H₀ h₀ m cm G H h) (hA : Ar A 380) (hfr : A.frames = some [env]) (fL : env.frame = some L)
    (kk : ∀ H' h' tk', S w.params q (LX L) [] (LN P) L (LC P L) env G₀ H₀ h₀ m cm G H' h' → Le H H' → wpAny (model pg w) A (execs (lawB.drop 4) env) Q E ⟨h', g, d, tk', os⟩) :
    wpAny (model pg w) A (execs (lawB.drop 3) env) Q E ⟨h, g, d, tk, os⟩ := by
  subst hP
  refine wpAny_execs_cons (wpAny_If (wpAny_isTrue_Compare1 ?_))
  refine listE ?_
  refine args_cons (Call_Name1 (ldG (.ref 81) F ?_))
  refine cwF (fd := fnOf w.params 81) (ldG (.ref 34) F ⟨F.fs.okh.K 81 _ (fn81 _), ?_⟩)
  refine refused_call F (by simp) hA hfr fL (medR34 w) fun t1 h1 tk1 S1 => ?_
  refine args_cons (Call_Name1 (ldG (.ref 81) S1 ?_))
  refine cwF (fd := fnOf w.params 81) (ldG (.ref 41) S1 ⟨S1.fs.okh.K 81 _ (fn81 _), ?_⟩)
  refine refused_call S1 (by simp) hA hfr fL (medR41 w) fun t2 h2 tk2 S2 => ?_
  refine args_nil ⟨by simp, ?_⟩
  refine mkL S2 fun r3 H3 h3 S3 l3 e3 => ?_
  refine wpAny_BinOp (listE ?_)
  refine args_cons (wpAny_Constant_str ?_)
  refine args_nil ⟨by simp, ?_⟩
  refine mkL S3 fun r4 H4 h4 S4 l4 e4 => ?_
  refine wpAny_Constant_int ?_
  refine mulL S4 e4 (by simp) (by decide) (by decide) (by simp) fun r5 H5 h5 S5 l5 e5 => ?_
  refine ne_strs (by have := hA.2.2; lia) (lmono S5.sub (lmono l5 (lmono l4 (isL e3)))) (lmono S5.sub (isL e5)) (wpAny_truthy_bool ?_)
  refine wpAny_execs_nil ?_
  exact kk H5 h5 _ S5 fun b o e => l5 _ _ (l4 _ _ (l3 _ _ e))
end Mine

end L9_

section Q1_
namespace Mine
/-! comprehensions whose turns only make things -/
section
variable {w : World} {A : Around} {g : Array GenState} {d : Drawn} {os : OsState}
/-- what stood before the loop stands, but for the loop's own objects -/
def Kpt (wr Y : List Addr) (D : Addr) (h h' : Heap) : Prop := ∀ b o, b ∉ wr → b ∉ Y → b ≠ D → h.get? b = some o → h'.get? b = some o
theorem qloop {tgt iter elt : PySem.Expr} {ifs : List PySem.Expr} {scope : Scope} {pos : Pos} {I D : Addr} {cenv : Env} {n : Nat} {R : Result → Shared → Prop} {fp wr Y : List Addr} {Pv Md : Nat → Value → Heap → Prop} {St : Nat → Heap → Prop} (K : KTurns pg w A tgt I fp wr n Pv Md St) {h₀ : Heap} {tk : Nat}
    (Fm : Heap → Prop) (Fb : Nat → Value → Heap → Prop) (J : Nat → List Value → Prop) (hst : St 0 h₀) (hfm : Fm h₀) (hD : h₀.IsList D (#[] : Array Value)) (dfp : ∀ b ∈ fp, b ∉ Y ∧ b ≠ D) (dY : ∀ b ∈ Y, b ≠ D) (hn : n ≤ 100000) (j0 : J 0 [])
    (hFm : ∀ h h', Fm h → (∀ b ∈ Y, ∀ o, h.get? b = some o → h'.get? b = some o) → Fm h') (hFb : ∀ i v h, Fb i v h → Fm h) (hJ : ∀ i ys, J i ys → ys.length ≤ i)
    (store : ∀ i v h tk (Q : Unit → Shared → Prop) E, Pv i v h → Fm h → (∀ h' tk', Fb i v h' → (∀ b o, b ∉ Y → h.get? b = some o → h'.get? b = some o) → Q () ⟨h', g, d, tk', os⟩) → wpAny (model pg w) A (assign tgt cenv v) Q E ⟨h, g, d, tk, os⟩)
    (body : ∀ i v h tk ys E, i < n → Fb i v h → Kpt wr Y D h₀ h → J i ys → wpAny (model pg w) A (forIn ifs true fun c r => if r = true then do let ok ← isTrue c cenv (eval c cenv); pure (ForInStep.yield ok) else pure (ForInStep.yield r)) (fun ok s₃ =>
      if ok = true then wpAny (model pg w) A (eval elt cenv) (fun y s₄ => ∃ h' tk', s₄ = ⟨h', g, d, tk', os⟩ ∧ Le h h' ∧ J (i + 1) (ys ++ [y])) E s₃ else ∃ h' tk', s₃ = ⟨h', g, d, tk', os⟩ ∧ Le h h' ∧ J (i + 1) ys) E ⟨h, g, d, tk, os⟩)
    (fin : ∀ h tk ys, Fm h → h.IsList D ys.toArray → J n ys → Kpt wr Y D h₀ h → R (.ok .next) ⟨h, g, d, tk, os⟩) :
    codeAny (model pg w) A (.compLoop (.ListComp elt [⟨tgt, iter, ifs, 0⟩] scope pos) 0 (.ref I) (.ref D) cenv) R ⟨h₀, g, d, tk, os⟩ := by
  refine codeAny_loop rfl (fun k s' => ∃ h' tk' i ys, s' = ⟨h', g, d, tk', os⟩ ∧ i ≤ n ∧ k = n + 1 - i ∧ St i h' ∧ Fm h' ∧ h'.IsList D ys.toArray ∧ J i ys ∧ Kpt wr Y D h₀ h') ?_ (n + 1) ⟨h₀, tk, 0, [], rfl, Nat.zero_le _, rfl, hst, hfm, hD, j0, fun _ _ _ _ _ e => e⟩
  rintro k s' ⟨h', tk', i, ys, rfl, hi, rfl, st, fm, hl, hj, kp⟩
  show wpAny _ A ((compTurn (.ListComp elt [⟨tgt, iter, ifs, 0⟩] scope pos) 0 (.ref I) (.ref D) cenv).onRaise (fun x => do noteFrame x cenv; theTreesLotGoes x)) _ _ _
  refine wpAny_noted ?_
  rw [compTurn_list]
  refine wpAny_bind (wpAny_standAt (wpAny_bind ?_))
  have wrY : ∀ b ∈ wr, b ∉ Y ∧ b ≠ D := fun b hb => dfp b (K.sub b hb)
  by_cases hlt : i < n
  · refine K.item i _ _ _ hlt st fun v h2 tk2 hmd k2 => ?_
    refine wpAny_bind (K.go i v _ _ _ hmd fun h3 hP st3 k3 => ?_)
    have fm3 : Fm h3 := hFm _ _ fm fun b hb o e => k3 b o (fun hw => (wrY b hw).1 hb) (k2 b o (fun hw => (wrY b hw).1 hb) e)
    have hl3 : h3.IsList D ys.toArray := let ⟨o, e, r⟩ := hl; ⟨o, k3 _ _ (fun hw => (wrY _ hw).2 rfl) (k2 _ _ (fun hw => (wrY _ hw).2 rfl) e), r⟩
    refine wpAny_bind (store i v h3 tk2 _ _ hP fm3 fun h4 tk4 fb4 k4 => ?_)
    have st4 : St (i + 1) h4 := K.frame _ _ _ st3 fun b hb o e => k4 b o (dfp b hb).1 e
    have hl4 : h4.IsList D ys.toArray := let ⟨o, e, r⟩ := hl3; ⟨o, k4 _ _ (fun hy => dY _ hy rfl) e, r⟩
    have kp4 : Kpt wr Y D h₀ h4 := fun b o n1 n2 n3 e => k4 b o n2 (k3 b o n1 (k2 b o n1 (kp b o n1 n2 n3 e)))
    refine wpAny_bind (wpAny_mono (body i v h4 tk4 ys _ hlt fb4 kp4 hj) (fun ok s₃ h₃ => ?_) fun _ _ e => e)
    have step : ∀ h5 tk5 (ys5 : List Value), Le h4 h5 → h5.IsList D ys5.toArray → J (i + 1) ys5 → ∃ m, m < n + 1 - i ∧ ∃ h' tk' i ys, (⟨h5, g, d, tk5, os⟩ : Shared) = ⟨h', g, d, tk', os⟩ ∧ i ≤ n ∧ m = n + 1 - i ∧ St i h' ∧ Fm h' ∧ h'.IsList D ys.toArray ∧ J i ys ∧ Kpt wr Y D h₀ h' :=
      fun h5 tk5 ys5 l5 e5 j5 => ⟨n + 1 - (i + 1), by lia, h5, tk5, i + 1, ys5, rfl, hlt, rfl, K.frame _ _ _ st4 fun b _ o e => l5 b o e, hFm _ _ (hFb _ _ _ fb4) fun b _ o e => l5 b o e, e5, j5, fun b o n1 n2 n3 e => l5 _ _ (kp4 b o n1 n2 n3 e)⟩
    cases ok with
    | false =>
      simp only [Bool.false_eq_true, if_false] at h₃
      obtain ⟨h5, tk5, rfl, l5, j5⟩ := h₃
      exact wpAny_pure ⟨rfl, step h5 tk5 ys l5 (lmono l5 hl4) j5⟩
    | true =>
      simp only [if_true] at h₃
      refine wpAny_bind (wpAny_bind (wpAny_mono h₃ (fun y s₄ h₄ => ?_) fun _ _ e => e))
      obtain ⟨h5, tk5, rfl, l5, j5⟩ := h₄
      refine wpAny_bind (wpAny_list_append (lmono l5 hl4) (fun h6 hl6 hs6 => ?_) (by rw [sizeLine_eq, List.size_toArray]; have := hJ _ _ hj; lia))
      refine wpAny_pure (wpAny_pure ⟨rfl, n + 1 - (i + 1), by lia, h6, tk5, i + 1, ys ++ [y], rfl, hlt, rfl, K.frame _ _ _ st4 fun b hb o e => hs6.extBut b o (dfp b hb).2 (l5 b o e), hFm _ _ (hFb _ _ _ fb4) fun b hb o e => hs6.extBut b o (dY b hb) (l5 b o e), by simpa using hl6, j5, fun b o n1 n2 n3 e => hs6.extBut b o n3 (l5 _ _ (kp4 b o n1 n2 n3 e))⟩)
  · obtain rfl : i = n := Nat.le_antisymm hi (Nat.not_lt.mp hlt)
    refine K.done _ _ _ st fun h2 tk2 k2 => wpAny_pure ?_
    exact fin h2 tk2 ys (hFm _ _ fm fun b hb o e => k2 b o (fun hw => (wrY b hw).1 hb) e) (let ⟨o, e, r⟩ := hl; ⟨o, k2 _ _ (fun hw => (wrY _ hw).2 rfl) e, r⟩) hj fun b o n1 n2 n3 e => k2 b o n1 (kp b o n1 n2 n3 e)
end
end Mine

end Q1_

section Q2_
namespace Mine
theorem aI {c I : Nat} (h : c < I) : c ≠ I ∧ c ≠ I + 1 ∧ c ≠ I + 2 ∧ c ≠ I + 3 := by lia
theorem aL (I : Nat) : I ≤ I ∧ I ≤ I + 1 ∧ I ≤ I + 2 ∧ I ≤ I + 3 := by lia
theorem aN (I : Nat) : I ≠ I + 1 ∧ I ≠ I + 2 ∧ I ≠ I + 3 ∧ I + 1 ≠ I + 2 ∧ I + 1 ≠ I + 3 ∧ I + 2 ≠ I + 3 := by lia
abbrev celO : Obj := { cls := .type "cell", data := .cell none }
theorem newFnEnvC {w : World} {A : Around} {E : Value → Shared → Prop} {s : Shared} {scope : Scope} {cl : List (Str × Addr)} {qual : Str} {outer : Env} {Q : Env → Shared → Prop}
    (k : Q (newEnv scope s.heap.objs.size outer.globals (cellsFrom (s.heap.objs.size + 1) scope.names cl) qual none .none (some outer) outer.builtins) { s with heap := pushCells (s.heap.push { cls := .type "dict", data := .dict #[] }) scope.names }) :
    wpAny (model pg w) A (newFunctionEnv scope outer.globals cl [] qual none .none (some outer)) Q E s := by
  simp only [newFunctionEnv, Option.isSome_some, if_true]
  refine wpAny_bind (wpAny_alloc ?_)
  refine wpAny_bind (wpAny_layCells _ (fun name kind cells => by cases hkc : kind == NameKind.cell <;> simp [hkc]) _ _ _ _ ?_)
  rw [show ({ s with heap := s.heap.push { cls := .type "dict", data := .dict #[] } } : Shared).heap.objs.size = s.heap.objs.size + 1 from Heap.size_push ..]
  refine wpAny_bind ?_
  rw [List.forIn_nil]
  exact wpAny_pure (wpAny_pure k)
section
variable {w : World} {A : Around} {q : QT} {X : List Addr} {Z : List (Addr × Obj)} {N : List (Str × NameKind)} {L : Addr} {cls : List (Str × Addr)} {env : Env} {G₀ H₀ h₀ G H h : Heap} {m cm : Str → Option Value} {g : Array GenState} {d : Drawn} {tk : Nat} {os : OsState} {E : Value → Shared → Prop}
/-- a comprehension over a list whose turns only make things; its name is a local, or (b) a cell -/
theorem qcomp (b : Bool) (F : S w.params q X Z N L cls env G₀ H₀ h₀ m cm G H h) {elt iter : PySem.Expr} {x : Str} {px : Pos} {scope : Scope} (cl : List (Str × Addr)) {pos : Pos} {Q : Value → Shared → Prop} {ax : Addr} {vs : List Value} (J : Nat → List Value → Prop) (hA : A.handled = none) (hn : vs.length ≤ 100000)
    (hx : ∀ (Q : Value → Shared → Prop), Q (.ref ax) ⟨h, g, d, tk, os⟩ → wpAny (model pg w) A (eval iter env) Q E ⟨h, g, d, tk, os⟩) (hl : H.IsList ax vs.toArray) (j0 : J 0 []) (hJ : ∀ i ys, J i ys → ys.length ≤ i)
    (body : ∀ i v C cl' env' h' m' tk' ys E, vs[i]? = some v → J i ys → cl' = (if b then (x, C + 1) :: cl else cl) → env' = compEnvC scope cl' C env → (b = false → m' x = some v) → S w.params q [] [] (relN scope.names N) C cl' env' G H h' m' (if b then (fun y => if y = x then some v else cm y) else cm) G H h' →
      wpAny (model pg w) A (eval elt env') (fun y s₄ => ∃ h'' tk'', s₄ = ⟨h'', g, d, tk'', os⟩ ∧ Le h' h'' ∧ J (i + 1) (ys ++ [y])) E ⟨h', g, d, tk', os⟩)
    (k : ∀ D H' h' tk' ys, S w.params q X Z N L cls env G₀ H₀ h₀ m cm G H' h' → Le h h' → Le H H' → H'.IsList D ys.toArray → J vs.length ys → Q (.ref D) ⟨h', g, d, tk', os⟩)
    (hcl0 : closureFor scope (cE cls) = pure cl) (hcc : ∀ nm c, cl.lookup nm = some c → cls.lookup nm = some c) (nx : cl.lookup x = none)
    (hpc : ∀ hh, pushCells hh scope.names = (if b then hh.push celO else hh)) (hcf : ∀ n, cellsFrom n scope.names cl = (if b then (x, n) :: cl else cl)) (hxk : (relN scope.names N).lookup x = some (if b then .cell else .local))
    (hkind : scope.kind = .function := by kernel_rfl!) (hnames : (scope.names.all fun y => y.2 != .local || scope.names.lookup y.1 == some .local) = true := by kernel_rfl!)
    (hs : ∀ x, foldedSetIterable iter env x = pure x := by intro _; rfl) :
    wpAny (model pg w) A (eval (.ListComp elt [⟨.Name x px, iter, [], 0⟩] scope pos) env) Q E ⟨h, g, d, tk, os⟩ := by
  have hcl : closureFor scope env = pure cl := (closureFor_congr (by rw [F.en.cs]; rfl)).trans hcl0
  have hnames' : ∀ y ∈ scope.names, y.2 = .local → scope.names.lookup y.1 = some .local := fun y hy e => by
    have := List.all_eq_true.mp hnames y hy
    rw [e] at this
    simpa using this
  have hl' : h.IsList ax vs.toArray := lmono F.sub hl
  rw [eval_ListComp]
  refine wpAny_comprehension_free (use := none) rfl hs hcl hkind hnames' (hx _ (wpAny_pyIter_list hl' ?_))
  generalize hI : h.objs.size = I
  generalize hh1 : h.push { cls := .type "list_iterator", data := .fields #[.ref ax, .int 0 0] } = h1
  have z1 : h1.objs.size = I + 1 := by rw [← hh1, ← hI, Heap.size_push]
  have k1 : Le h h1 := fun b o e => hh1 ▸ Heap.get?_push_of_some _ e
  have e1 : h1.get? I = some { cls := .type "list_iterator", data := .fields #[.ref ax, .int 0 0] } := by rw [← hh1, ← hI]; exact Heap.get?_push_size _ rfl
  refine wpAny_newObj_type (data := .seq ([] : List Value).toArray) ?_
  show wpAny (model pg w) A (newFunctionEnv scope env.globals cl [] env.qual none .none (some env)) _ E ⟨h1.push { cls := .type "list", dict := none, data := .seq ([] : List Value).toArray }, g, d, tk, os⟩
  rw [show ({ heap := h1, gens := g, drawn := d, toks := tk, os := os } : Shared).heap.objs.size = I + 1 from z1]
  generalize hh2 : h1.push { cls := .type "list", dict := none, data := .seq ([] : List Value).toArray } = h2
  have z2 : h2.objs.size = I + 2 := by rw [← hh2, Heap.size_push, z1]
  have k2 : Le h1 h2 := fun b o e => hh2 ▸ Heap.get?_push_of_some _ e
  have e2 : h2.get? (I + 1) = some { cls := .type "list", dict := none, data := .seq ([] : List Value).toArray } := by rw [← hh2, ← z1]; exact Heap.get?_push_size _ rfl
  refine newFnEnvC ?_
  rw [show (⟨h2, g, d, tk, os⟩ : Shared).heap.objs.size = I + 2 from z2, hpc, hcf]
  generalize hh3 : (if b = true then Heap.push (h2.push { cls := .type "dict", data := .dict #[] }) celO else h2.push { cls := .type "dict", data := .dict #[] }) = h3
  have kd : Le h2 (h2.push { cls := .type "dict", data := .dict #[] }) := fun b o e => Heap.get?_push_of_some _ e
  have k3 : Le (h2.push { cls := .type "dict", data := .dict #[] }) h3 := fun c o e => by
    rw [← hh3]; cases b
    · exact e
    · exact Heap.get?_push_of_some _ e
  have e3 : h3.get? (I + 2) = some { cls := .type "dict", data := .dict #[] } := k3 _ _ (by rw [← z2]; exact Heap.get?_push_size _ rfl)
  have e4 : b = true → h3.get? (I + 3) = some celO := fun hb => by
    subst hb
    rw [← hh3]
    have := Heap.get?_push_size (h2.push { cls := .type "dict", data := .dict #[] }) (o := celO) rfl
    rwa [Heap.size_push, z2] at this
  have k03 : Le h h3 := fun c o e => k3 _ _ (kd _ _ (k2 _ _ (k1 _ _ e)))
  have lt : ∀ {c : Addr} {o : Obj}, h.get? c = some o → c < I := fun e => hI ▸ Heap.lt_size e
  have fresh : ∀ {c : Addr}, I ≤ c → h.get? c = none := fun hc => Heap.get?_none_of_le (hI ▸ hc)
  have nT : ∀ {c : Addr}, I ≤ c → c ∉ T0 := fun hc hb => by obtain ⟨l, e⟩ := F.fs.okh.tabs hb; rw [fresh hc] at e; cases e
  have axI : ax < I := by obtain ⟨_, e, _⟩ := hl'; exact lt e
  have W := Walks.list (prog := pg) (w := w) (A := A) hA I ax (Nat.ne_of_lt axI) vs.toArray
  have st0 : h3.IsListIter I ax 0 ∧ h3.IsList ax vs.toArray := ⟨⟨_, k3 _ _ (kd _ _ (k2 _ _ e1)), rfl, rfl⟩, lmono k03 hl'⟩
  have kp : ∀ {h' : Heap}, Kpt [I] [I + 2, I + 3] (I + 1) h3 h' → Le h h' := fun z c o e => by
    obtain ⟨a0, a1, a2, a3⟩ := aI (lt e)
    refine z c o ?_ ?_ a1 (k03 _ _ e)
    · rw [List.mem_singleton]; exact a0
    · simp only [List.mem_cons, List.not_mem_nil, or_false, not_or]; exact ⟨a2, a3⟩
  have loop : codeAny (model pg w) A (.compLoop (.ListComp elt [⟨.Name x px, iter, [], 0⟩] scope pos) 0 (.ref I) (.ref (I + 1)) (compEnvC scope (if b then (x, I + 2 + 1) :: cl else cl) (I + 2) env)) (compPost (model pg w) A E none Q (.ref (I + 1)) (I + 2)) ⟨h3, g, d, tk, os⟩ := by
    refine qloop (Y := [I + 2, I + 3]) (KTurns.ofWalks W fun i v s Q E st h => wpAny_pure h) (fun hh => (∃ m', hh.Ns (I + 2) m') ∧ (b = true → ∃ v, hh.IsCell (I + 3) v)) (fun i v hh => vs[i]? = some v ∧ (∃ m', hh.Ns (I + 2) m' ∧ (b = false → m' x = some v)) ∧ (b = true → hh.IsCell (I + 3) (some v))) J st0
      ⟨⟨_, ⟨_, #[], 0, e3, rfl, fun e he => absurd he (by simp), fun _ => rfl⟩⟩, fun hb => ⟨none, _, e4 hb, rfl⟩⟩ ⟨_, k3 _ _ (kd _ _ e2), rfl, 0, rfl⟩ (fun c hc => ?_) (fun c hc => ?_) (by simpa using hn) j0 ?_ ?_ hJ ?_ ?_ ?_
    · simp only [List.mem_cons, List.not_mem_nil, or_false, not_or] at hc ⊢
      rcases hc with rfl | rfl
      · exact ⟨⟨(aN _).2.1, (aN _).2.2.1⟩, (aN _).1⟩
      · obtain ⟨a0, a1, a2, a3⟩ := aI axI
        exact ⟨⟨a2, a3⟩, a1⟩
    · simp only [List.mem_cons, List.not_mem_nil, or_false] at hc
      rcases hc with rfl | rfl
      · exact (aN _).2.2.2.1.symm
      · exact (aN _).2.2.2.2.1.symm
    · rintro hh hh' ⟨⟨m', o, es, ep, e, r⟩, hc⟩ kk
      exact ⟨⟨m', o, es, ep, kk _ (by simp) _ e, r⟩, fun hb => let ⟨v, o, e, r⟩ := hc hb; ⟨v, o, kk _ (by simp) _ e, r⟩⟩
    · rintro i v hh ⟨_, ⟨m', n, _⟩, c⟩
      exact ⟨⟨m', n⟩, fun hb => ⟨_, c hb⟩⟩
    · rintro i v hh tk5 Q5 E5 hv ⟨⟨m', hns⟩, hc⟩ kk
      have hv : vs[i]? = some v := by simpa using hv
      have kf : (compEnvC scope (if b then (x, I + 2 + 1) :: cl else cl) (I + 2) env).kindOf x = some (if b then .cell else .local) := ((F.en.comp hkind _ _).kf x).trans hxk
      cases b with
      | false =>
        refine wpAny_assign_Name (wpAny_storeName_local kf hns (fun h' hn' hs' => ?_) (by show (scope.kind == .class || (scope.kind == .module && _)) = false; rw [hkind]; rfl))
        exact kk h' _ ⟨hv, ⟨_, hn', fun _ => if_pos rfl⟩, fun hb => by cases hb⟩ fun c o nc e => hs'.extBut c o (fun q => nc (by rw [q]; exact List.mem_cons_self)) e
      | true =>
        obtain ⟨v0, hc0⟩ := hc rfl
        refine wpAny_assign_Name (wpAny_storeName_cell (show scope.kind = .function from hkind) kf (c := I + 3) (by show List.lookup x ((x, I + 2 + 1) :: cl) = _; rw [List.lookup_cons, beq_self_eq_true]) hc0 fun h' hc' hs' => ?_)
        exact kk h' _ ⟨hv, ⟨m', hns.sameBut hs' (aN I).2.2.2.2.2, fun hb => by cases hb⟩, fun _ => hc'⟩ fun c o nc e => hs'.extBut c o (fun q => nc (by rw [q]; simp)) e
    · rintro i v hh tk5 ys E5 hi ⟨hv, ⟨m', hns, hm'⟩, hc⟩ kpt hj
      refine tests0 ?_
      rw [if_pos rfl]
      have kh := kp kpt
      refine body i v (I + 2) _ _ hh m' tk5 ys E5 hv hj rfl rfl hm' ⟨F.en.comp hkind _ _, (F.keep kh).fs.vw, hns, nT (aL I).2.2.1, fun nm c hcc' => ?_, fun nm nm' c h1 h2 => ?_, fun p hp => absurd hp (by simp)⟩
      · have old : ∀ {nm c}, cl.lookup nm = some c → hh.IsCell c (cm nm) ∧ c ∉ T0 := fun e => let ⟨⟨o, e1, e2⟩, t⟩ := F.cell _ _ (by rw [F.en.cs]; exact hcc _ _ e); ⟨⟨o, kh _ _ e1, e2⟩, t⟩
        cases b with
        | false => exact old hcc'
        | true =>
          have hcc' : List.lookup nm ((x, I + 2 + 1) :: cl) = some c := hcc'
          rw [List.lookup_cons] at hcc'
          by_cases en : nm = x
          · subst en
            rw [beq_self_eq_true] at hcc'; cases hcc'
            simp only [if_true]
            exact ⟨hc rfl, nT (aL I).2.2.2⟩
          · rw [show (nm == x) = false by simpa using en] at hcc'
            simp only [if_true, if_neg en]
            exact old hcc'
      · have oldA : ∀ {nm nm' c}, cl.lookup nm = some c → cl.lookup nm' = some c → nm = nm' := fun a b => F.apart _ _ _ (by rw [F.en.cs]; exact hcc _ _ a) (by rw [F.en.cs]; exact hcc _ _ b)
        have oldL : ∀ {nm : Str} {c : Addr}, cl.lookup nm = some c → c < I := fun {nm c} e => let ⟨⟨_, e1, _⟩, _⟩ := F.cell nm c (by rw [F.en.cs]; exact hcc _ _ e); lt e1
        cases b with
        | false => exact oldA h1 h2
        | true =>
          have h1 : List.lookup nm ((x, I + 2 + 1) :: cl) = some c := h1
          have h2 : List.lookup nm' ((x, I + 2 + 1) :: cl) = some c := h2
          rw [List.lookup_cons] at h1 h2
          by_cases e1 : nm = x
          · by_cases e2 : nm' = x
            · rw [e1, e2]
            · rw [e1, beq_self_eq_true] at h1; cases h1
              rw [show (nm' == x) = false by simpa using e2] at h2
              exact absurd rfl (aI (oldL h2)).2.2.2
          · rw [show (nm == x) = false by simpa using e1] at h1
            by_cases e2 : nm' = x
            · rw [e2, beq_self_eq_true] at h2; cases h2
              exact absurd rfl (aI (oldL h1)).2.2.2
            · rw [show (nm' == x) = false by simpa using e2] at h2
              exact oldA h1 h2
    · rintro hh tk5 ys ⟨⟨m', hns⟩, _⟩ hlD hj kpt
      refine ⟨m', hns, fun h6 hs6 => ?_⟩
      have kh : Le h h6 := fun c o e => hs6.extBut c o (aI (lt e)).2.2.1 (kp kpt _ _ e)
      obtain ⟨oD, eD, rD⟩ := hlD
      obtain ⟨H', l', e', F'⟩ := F.made (F.keep kh) (fresh (aL I).2.1) (hs6.extBut _ _ (aN I).2.2.2.1 eD)
      exact k (I + 1) H' h6 tk5 ys F' kh l' ⟨oD, e', rD⟩ (by simpa using hj)
  exact codeAny_compStart_list (elt := elt) loop (W.self 0 _ _ _ st0 loop)
end
end Mine

end Q2_

section Q3_
namespace Mine
abbrev sOne : Str := Str.ofString "one"
abbrev sOth : Str := Str.ofString "other"
theorem ints_len_le {ys : List Value} {xs : List Int} {f : Int → Int} {i : Nat} (h : IntsAre ys ((xs.take i).map f)) : ys.length ≤ i := by
  rw [ints_len h, List.length_map, List.length_take]; lia
set_option maxHeartbeats 2000000 in
/-- sums -/
theorem law5 {w : World} {A : Around} {E : Value → Shared → Prop} {q : QT} {L : Addr} {env : Env} {G₀ H₀ h₀ G H h : Heap} {m cm : Str → Option Value} {g : Array GenState} {d : Drawn} {tk : Nat} {os : OsState} {Q : Flow → Shared → Prop} {P : Params}
    {nl : Addr} {us : List Value} {ns : List Int} (hP : P = w.params) (F : S w.params q (LX L) [] (LN P) L (LC P L) env G₀ H₀ h₀ m cm G H h) (hA : Ar A 380) (mN : cm sN = some (.ref nl)) (hl : H.IsList nl us.toArray) (hI : IntsAre us ns) (h60 : ns.length ≤ 60)
    (kk : ∀ sl ws H' h' tk', S w.params q (LX L) [] (LN P) L (LC P L) env G₀ H₀ h₀ m (fun y => if y = sSums then some (.ref sl) else cm y) G H' h' → Le H H' → H'.IsList sl ws.toArray → IntsAre ws (ns.map (dist ns)) → wpAny (model pg w) A (execs (lawB.drop 5) env) Q E ⟨h', g, d, tk', os⟩) :
    wpAny (model pg w) A (execs (lawB.drop 4) env) Q E ⟨h, g, d, tk, os⟩ := by
  subst hP
  have lu := ints_len hI
  refine wpAny_execs_cons (wpAny_Assign_Name ?_ (noSwap F.en (by kernel_rfl!)))
  refine qcomp true F (ax := nl) (vs := us) [(sN, L + 1)] (fun i ys => IntsAre ys ((ns.take i).map (dist ns))) hA.1 (by lia) (fun Q hq => ldC (.ref nl) (L + 1) F hq (hv := mN)) hl .nil (fun i ys x => ints_len_le x) ?_ ?_ (by kernel_rfl!) ?_ (by kernel_rfl!) (fun hh => by rfl) (fun n => by rfl) (by kernel_rfl!)
  · intro i v C cl' env' h' m' tk' ys E' hv hj ecl henv' _ S1
    simp only [if_true] at ecl S1
    subst ecl
    obtain ⟨x, tx, rfl, hx⟩ := ints_at hI hv
    refine Call_Name1 (ldB (.builtin "sum") S1 (PySem.callWith_builtin1 ?_))
    refine qcomp false S1 (ax := nl) (vs := us) [(sOne, C + 1)] (fun i ys => IntsAre ys ((ns.take i).map fun a => absF (a - x))) hA.1 (by lia) (fun Q hq => ldC (.ref nl) (L + 1) S1 hq (hv := (if_neg (by decide +kernel)).trans mN)) hl .nil (fun i ys x => ints_len_le x) ?_ ?_ (by kernel_rfl!) ?_ (by kernel_rfl!) (fun hh => by rfl) (fun n => by rfl) (by kernel_rfl!)
    · intro j v C2 cl2 env2 h2 m2 tk2 ys2 E2 hv2 hj2 ecl2 henv2 hm2 S2
      simp only [Bool.false_eq_true, if_false] at ecl2 S2
      subst ecl2
      obtain ⟨y, ty, rfl, hy⟩ := ints_at hI hv2
      refine Call_Name1 (ldB (.builtin "abs") S2 (PySem.callWith_builtin1 ?_))
      refine wpAny_BinOp (ldL (.int y ty) S2 ?_ (hv := hm2 rfl))
      refine ldC (.int x tx) (C + 1) S2 (sub_int ?_) (hv := if_pos rfl)
      refine call_abs_int fun u tk3 => ?_
      exact ⟨_, _, rfl, fun _ _ e => e, step_map hj2 hy rfl⟩
    · intro D H3 h3 tk3 ys3 S3 le3 l3 e3 j3
      rw [lu, List.take_length] at j3
      refine sumL S3 hA.1 e3 j3 fun t h4 tk4 S4 => ?_
      exact ⟨_, _, rfl, S1.fs.all S4.fs, step_map hj hx rfl⟩
    · intro nm c hh
      have := mem_of_lookup hh
      simp only [List.mem_cons, Prod.mk.injEq, List.not_mem_nil, or_false] at this
      obtain ⟨rfl, rfl⟩ := this
      kernel_rfl!
  · intro D H1 h1 tk1 ys S1 le1 l1 e1 hj
    rw [lu, List.take_length] at hj
    refine stC (L + 6) S1 fun h2 S2 => ?_
    exact kk D ys H1 h2 _ S2 l1 e1 hj
  · intro nm c hh
    have := mem_of_lookup hh
    simp only [List.mem_cons, Prod.mk.injEq, List.not_mem_nil, or_false] at this
    obtain ⟨rfl, rfl⟩ := this
    kernel_rfl!
end Mine

end Q3_

section Q4_
namespace Mine
abbrev sFar : Str := Str.ofString "far"
abbrev sNear : Str := Str.ofString "nearest"
theorem aI2 {c I : Nat} (h : c < I) : c ≠ I ∧ c ≠ I + 1 ∧ c ≠ I + 2 ∧ c ≠ I + 3 ∧ c ≠ I + 4 ∧ c ≠ I + 5 ∧ c ≠ I + 6 := by lia
theorem aN2 (I : Nat) : (I + 5 ≠ I + 6 ∧ I ≤ I + 5) ∧ (I ≠ I + 6 ∧ I ≠ I + 5) ∧ (I + 1 ≠ I + 6 ∧ I + 1 ≠ I + 5) ∧ (I + 2 ≠ I + 6 ∧ I + 2 ≠ I + 5) ∧ (I + 3 ≠ I + 6 ∧ I + 3 ≠ I + 5) ∧ (I + 4 ≠ I + 6 ∧ I + 4 ≠ I + 5) ∧ I ≤ I + 6 := by lia
theorem aZ {l1 l2 I : Nat} (h1 : l1 < I) (h2 : l2 < I) : ZipApart (I + 4) (I + 2) (I + 3) I (I + 1) l1 l2 := by
  constructor <;> (show @Ne Nat _ _; lia)
theorem zip_src {us ws : List Value} {ns : List Int} {f : Int → Int} {i : Nat} {x y : Value} (hI : IntsAre us ns) (hW : IntsAre ws (ns.map f)) (hx : us[i]? = some x) (hy : ws[i]? = some y) : ∃ a t u, x = .int a t ∧ y = .int (f a) u ∧ ns[i]? = some a := by
  obtain ⟨a, t, rfl, ha⟩ := ints_at hI hx
  obtain ⟨b, u, rfl, hb⟩ := ints_at hW hy
  rw [List.getElem?_map, ha] at hb
  cases hb
  exact ⟨a, t, u, rfl, rfl, ha⟩
theorem near_step {ns : List Int} {M : Int} {i : Nat} {x : Int} {t : Tok} {ys : List Value} (hj : IntsAre ys ((ns.take i).filter fun x => decide (dist ns x = M))) (hx : ns[i]? = some x) : IntsAre (if dist ns x = M then ys ++ [.int x t] else ys) ((ns.take (i + 1)).filter fun x => decide (dist ns x = M)) := by
  rw [List.take_add_one, hx, List.filter_append]
  by_cases h : dist ns x = M
  · rw [if_pos h]
    refine ints_append hj ?_
    simp only [Option.toList_some, List.filter_cons, List.filter_nil, h, decide_true, if_true]
    exact .cons _ _ .nil
  · rw [if_neg h]
    simpa only [Option.toList_some, List.filter_cons, List.filter_nil, h, decide_false, Bool.false_eq_true, if_false, List.append_nil] using hj
abbrev scNr : Scope := { kind := .function, names := [(Str.ofString ".0", .local), (Str.ofString "one", .local), (Str.ofString "far", .local), (Str.ofString "min", .globalImplicit), (Str.ofString "sums", .free)], isGenerator := false, isCoroutine := false }
set_option maxHeartbeats 2000000 in
/-- nearest -/
theorem law6 {w : World} {A : Around} {E : Value → Shared → Prop} {q : QT} {L : Addr} {env : Env} {G₀ H₀ h₀ G H h : Heap} {m cm : Str → Option Value} {g : Array GenState} {d : Drawn} {tk : Nat} {os : OsState} {Q : Flow → Shared → Prop} {P : Params}
    {nl sl : Addr} {us ws : List Value} {ns : List Int} {M : Int} (hP : P = w.params) (F : S w.params q (LX L) [] (LN P) L (LC P L) env G₀ H₀ h₀ m cm G H h) (hA : Ar A 380) (mN : cm sN = some (.ref nl)) (mS : cm sSums = some (.ref sl)) (hl : H.IsList nl us.toArray) (hI : IntsAre us ns) (hs : H.IsList sl ws.toArray) (hW : IntsAre ws (ns.map (dist ns))) (h5 : 5 ≤ ns.length) (h60 : ns.length ≤ 60)
    (hM : ∃ x ∈ ns, dist ns x = M) (hM' : ∀ x ∈ ns, M ≤ dist ns x)
    (kk : ∀ rl ys H' h' tk', S w.params q (LX L) [] (LN P) L (LC P L) env G₀ H₀ h₀ (fun y => if y = sNear then some (.ref rl) else m y) cm G H' h' → Le H H' → H'.IsList rl ys.toArray → IntsAre ys (nearL ns M) → wpAny (model pg w) A (execs (lawB.drop 6) env) Q E ⟨h', g, d, tk', os⟩) :
    wpAny (model pg w) A (execs (lawB.drop 5) env) Q E ⟨h, g, d, tk, os⟩ := by
  subst hP
  have lu := ints_len hI
  have lw := ints_len hW
  rw [List.length_map] at lw
  have kn : env.kindOf sNear = some .local := (F.en.kf _).trans (by kernel_rfl!)
  have hcl : ∀ scope, closureFor scope env = closureFor scope (cE (LC w.params L)) := fun scope => closureFor_congr (by rw [F.en.cs]; rfl)
  refine wpAny_execs_cons ?_
  rw [exec_Assign_Name_used _ _ _ _ (by
    unfold swapsWith Env.blockKind
    dsimp only
    rw [F.en.kind, show env.kindOf (Str.ofString "nearest") = some .local from kn]
    kernel_rfl!)]
  refine wpAny_bind (wpAny_standAt (wpAny_bind ?_))
  have hl' := lmono F.sub hl
  have hs' := lmono F.sub hs
  show wpAny _ A (do let _ ← comprehension (PySem.Expr.ListComp _ _ _ _) _ env _ (newList []) false (eval _ env) (some (assign (.Name sNear _) env))) _ _ _
  refine wpAny_bind (wpAny_mono (wpAny_comprehension_free (Q := fun _ s' => wpAny (model pg w) A (execs (lawB.drop 6) env) Q E s') (cl := [(sSums, L + 6)]) rfl (by intro _; rfl) ((hcl _).trans (by kernel_rfl!)) (by kernel_rfl!) ?_ ?_) (fun _ s' hq => wpAny_pure (wpAny_pure hq)) fun _ _ e => e)
  · intro y hy e
    simp only [List.mem_cons, List.not_mem_nil, or_false] at hy
    rcases hy with rfl | rfl | rfl | rfl | rfl <;> first | rfl | cases e
  refine Call_ (ldB (.type "zip") F ?_)
  refine PyProof.Rows.callWith_type1 ?_
  refine args_cons (ldC (.ref nl) (L + 1) F ?_ (hv := mN))
  refine args_cons (ldC (.ref sl) (L + 6) F (args_nil ?_) (hv := mS))
  refine call_zip_2 hl' hs' fun h1 hz hTI hTO hi1 hi2 z1 k1 => ?_
  refine wpAny_pyIter_zip hz ?_
  dsimp only at hz hTI hTO hi1 hi2 z1 k1 ⊢
  have hT : ∀ {c : Addr}, h.get? c = none → c ∉ T0 := fun e hb => by obtain ⟨l, e'⟩ := F.fs.okh.tabs hb; rw [e] at e'; cases e'
  generalize hI0 : h.objs.size = I at hz hTI hTO hi1 hi2 z1 k1 ⊢
  have lt : ∀ {c : Addr} {o : Obj}, h.get? c = some o → c < I := fun e => hI0 ▸ Heap.lt_size e
  have fresh : ∀ {c : Addr}, I ≤ c → h.get? c = none := fun hc => Heap.get?_none_of_le (hI0 ▸ hc)
  have nlI : nl < I := by obtain ⟨_, e, _⟩ := hl'; exact lt e
  have slI : sl < I := by obtain ⟨_, e, _⟩ := hs'; exact lt e
  refine wpAny_newObj_type (data := .seq ([] : List Value).toArray) ?_
  show wpAny (model pg w) A (newFunctionEnv _ env.globals _ [] env.qual none .none (some env)) _ _ ⟨h1.push { cls := .type "list", dict := none, data := .seq ([] : List Value).toArray }, g, d, tk, os⟩
  rw [show ({ heap := h1, gens := g, drawn := d, toks := tk, os := os } : Shared).heap.objs.size = I + 5 from z1]
  generalize hh2 : h1.push { cls := .type "list", dict := none, data := .seq ([] : List Value).toArray } = h2
  have z2 : h2.objs.size = I + 6 := by rw [← hh2, Heap.size_push, z1]
  have k2 : Le h1 h2 := fun b o e => hh2 ▸ Heap.get?_push_of_some _ e
  have e2 : h2.get? (I + 5) = some { cls := .type "list", dict := none, data := .seq ([] : List Value).toArray } := by rw [← hh2, ← z1]; exact Heap.get?_push_size _ rfl
  refine newFnEnvC ?_
  rw [show (⟨h2, g, d, tk, os⟩ : Shared).heap.objs.size = I + 6 from z2]
  show codeAny (model pg w) A (.compStart _ 0 (.ref (I + 4)) (.ref (I + 5)) (compEnvC _ [(sSums, L + 6)] (I + 6) env)) (compPost (model pg w) A _ _ _ (.ref (I + 5)) (I + 6)) ⟨h2.push { cls := .type "dict", data := .dict #[] }, g, d, tk, os⟩
  generalize hh3 : h2.push { cls := .type "dict", data := .dict #[] } = h3
  have k3 : Le h2 h3 := fun b o e => hh3 ▸ Heap.get?_push_of_some _ e
  have e3 : h3.get? (I + 6) = some { cls := .type "dict", data := .dict #[] } := by rw [← hh3, ← z2]; exact Heap.get?_push_size _ rfl
  have k13 : Le h1 h3 := fun b o e => k3 _ _ (k2 _ _ e)
  have k03 : Le h h3 := fun b o e => k13 _ _ (k1 _ _ e)
  have W := (WalksT.zip2 (prog := pg) (w := w) (A := A) hA.1 (I + 4) (I + 2) (I + 3) I (I + 1) nl sl (aZ nlI slI) us.toArray ws.toArray).toU
  have st0 : IsZip h3 (I + 4) (I + 2) (I + 3) .none ∧ IsPair h3 (I + 2) (.ref I) (.ref (I + 1)) ∧ (∃ a b, IsPair h3 (I + 3) a b) ∧ h3.IsListIter I nl 0 ∧ h3.IsListIter (I + 1) sl 0 ∧ h3.IsList nl us.toArray ∧ h3.IsList sl ws.toArray :=
    ⟨k13 _ _ hz, k13 _ _ hTI, ⟨_, _, k13 _ _ hTO⟩, let ⟨o, e, r⟩ := hi1; ⟨o, k13 _ _ e, r⟩, let ⟨o, e, r⟩ := hi2; ⟨o, k13 _ _ e, r⟩, lmono k03 hl', lmono k03 hs'⟩
  have en : min us.toArray.size ws.toArray.size = ns.length := by rw [List.size_toArray, List.size_toArray]; lia
  obtain ⟨n1, n2, n3, n4, n5, n6, n7⟩ := aN2 I
  have kp : ∀ {h' : Heap}, Kpt [I + 4, I + 3, I, I + 1] [I + 6] (I + 5) h3 h' → Le h h' := fun z c o e => by
    obtain ⟨a0, a1, a2, a3, a4, a5, a6⟩ := aI2 (lt e)
    refine z c o ?_ ?_ a5 (k03 _ _ e)
    · simp only [List.mem_cons, List.not_mem_nil, or_false, not_or]; exact ⟨a4, a3, a0, a1⟩
    · rw [List.mem_singleton]; exact a6
  refine codeAny_compStart_list ?loop (W.self 0 _ _ _ st0 ?loop)
  refine qloop (Y := [I + 6]) (KTurns.ofWalksU W) (fun hh => ∃ m', hh.Ns (I + 6) m') (fun i v hh => ∃ m' a t u, ns[i]? = some a ∧ hh.Ns (I + 6) m' ∧ m' sOne = some (.int a t) ∧ m' sFar = some (.int (dist ns a) u)) (fun i ys => IntsAre ys ((ns.take i).filter fun x => decide (dist ns x = M))) st0
    ⟨_, ⟨_, #[], 0, e3, rfl, fun e he => absurd he (by simp), fun _ => rfl⟩⟩ ⟨_, k3 _ _ e2, rfl, 0, rfl⟩ (fun c hc => ?_) (fun c hc => ?_) (by rw [en]; lia) .nil ?_ ?_ ?_ ?_ ?_ ?_
  · rw [List.mem_singleton]
    simp only [List.mem_cons, List.not_mem_nil, or_false] at hc
    rcases hc with rfl | rfl | rfl | rfl | rfl | rfl | rfl
    · exact n6
    · exact n4
    · exact n5
    · exact n2
    · exact n3
    · exact ⟨(aI2 nlI).2.2.2.2.2.2, (aI2 nlI).2.2.2.2.2.1⟩
    · exact ⟨(aI2 slI).2.2.2.2.2.2, (aI2 slI).2.2.2.2.2.1⟩
  · rw [List.mem_singleton] at hc; subst hc; exact n1.1.symm
  · rintro hh hh' ⟨m', o, es, ep, e, r⟩ kk'
    exact ⟨m', o, es, ep, kk' _ (List.mem_singleton.mpr rfl) _ e, r⟩
  · rintro i v hh ⟨m', _, _, _, _, n, _⟩
    exact ⟨m', n⟩
  · intro i ys x
    rw [ints_len x]
    exact Nat.le_trans (List.length_filter_le ..) (by rw [List.length_take]; lia)
  · rintro i v hh tk5 Q5 E5 ⟨T, vals, rfl, ⟨x, y, hx, hy, rfl⟩, hT5⟩ ⟨m', hns⟩ k5
    obtain ⟨a, t, u, rfl, rfl, ha⟩ := zip_src hI hW (by simpa using hx) (by simpa using hy)
    refine wpAny_assign_Tuple (items := #[.int a t, .int (dist ns a) u]) hA.1 hT5 (by rfl) (by rfl) fun h6 x6 => ?_
    have k6 := extLe x6
    have hns6 : h6.Ns (I + 6) m' := let ⟨o, es, ep, e, r⟩ := hns; ⟨o, es, ep, k6 _ _ e, r⟩
    refine wpAny_bind (wpAny_assign_Name (wpAny_storeName_local (((F.en.comp rfl _ _).kf _).trans (by kernel_rfl!)) hns6 (fun h7 hn7 hs7 => ?_) (by rfl)))
    refine wpAny_bind (wpAny_assign_Name (wpAny_storeName_local (((F.en.comp rfl _ _).kf _).trans (by kernel_rfl!)) hn7 (fun h8 hn8 hs8 => ?_) (by rfl)))
    refine wpAny_pure ?_
    refine k5 h8 _ ⟨_, a, t, u, ha, hn8, (if_neg (by decide +kernel)).trans (if_pos rfl), if_pos rfl⟩ fun c o nc e => ?_
    have nc : c ≠ I + 6 := fun q => nc (List.mem_singleton.mpr q)
    exact hs8.extBut c o nc (hs7.extBut c o nc (k6 _ _ e))
  · rintro i v hh tk5 ys E5 hi ⟨m', a, t, u, ha, hns, m1, m2⟩ kpt hj
    have kh := kp kpt
    have S5 : S w.params q [] [] (relN scNr.names (LN w.params)) (I + 6) [(sSums, L + 6)] (compEnvC scNr [(sSums, L + 6)] (I + 6) env) G H hh m' cm G H hh := by
      refine ⟨F.en.comp (scope := scNr) rfl [(sSums, L + 6)] (I + 6), (F.keep kh).fs.vw, hns, hT (fresh n7), fun nm c hc => ?_, fun nm nm' c h1 h2 => ?_, fun p hp => absurd hp (by simp)⟩
      · obtain ⟨rfl, rfl⟩ : nm = sSums ∧ c = L + 6 := by
          have := mem_of_lookup hc
          rw [show (compEnvC scNr [(sSums, L + 6)] (I + 6) env).cells = [(sSums, L + 6)] from rfl, List.mem_singleton] at this
          cases this; exact ⟨rfl, rfl⟩
        obtain ⟨⟨o, e1, e2⟩, t⟩ := F.cell sSums (L + 6) (by rw [F.en.cs]; kernel_rfl!)
        exact ⟨⟨o, kh _ _ e1, e2⟩, t⟩
      · have h1 := mem_of_lookup h1
        have h2 := mem_of_lookup h2
        rw [show (compEnvC scNr [(sSums, L + 6)] (I + 6) env).cells = [(sSums, L + 6)] from rfl, List.mem_singleton] at h1 h2
        cases h1; cases h2; rfl
    refine tests1 (wpAny_isTrue_Compare1 (ldL (.int (dist ns a) u) S5 ?_ (hv := m2)))
    refine Call_Name1 (ldB (.builtin "min") S5 ?_)
    refine PySem.callWith_builtin1 (ldC (.ref sl) (L + 6) S5 ?_ (hv := mS))
    refine minL S5 hA.1 hs hW (by rw [List.length_map]; lia) fun M' t' h6 tk6 hm1 hm2 S6 => ?_
    have eM : M' = M := by
      obtain ⟨z, hz, ez⟩ := List.mem_map.mp hm1
      obtain ⟨y, hy, ey⟩ := hM
      have h1 := hM' z hz
      have h2 := hm2 (dist ns y) (List.mem_map_of_mem hy)
      lia
    subst eM
    have le6 := S5.fs.all S6.fs
    have st := near_step (t := t) hj ha
    refine eq_int (wpAny_truthy_bool ?_)
    by_cases e : dist ns a = M'
    · rw [if_pos e] at st
      rw [if_pos (by simpa using e)]
      refine ldL (.int a t) S6 ?_ (hv := m1)
      exact ⟨_, _, rfl, le6, st⟩
    · rw [if_neg e] at st
      rw [if_neg (by simpa using e)]
      exact ⟨_, _, rfl, le6, st⟩
  · rintro hh tk5 ys ⟨m', hns⟩ hlD hj kpt
    rw [en, List.take_length] at hj
    have kh := kp kpt
    have S5 := F.keep kh
    show wpAny (model pg w) A (assign (.Name sNear _) env (.ref (I + 5))) _ _ _
    refine wpAny_assign_Name (wpAny_storeName_local kn S5.ns (fun h6 hn6 hs6 => ?_) (by rw [F.en.kind]; rfl))
    have nL : ∀ {c : Addr}, I ≤ c → c ≠ env.locals := fun hc e => by
      obtain ⟨o, _, _, e', _⟩ := F.ns
      rw [← e, fresh hc] at e'; cases e'
    refine ⟨m', hns.sameBut hs6 (nL n7), fun h7 hs7 => ?_⟩
    have nC : env.locals ≠ I + 6 := (nL n7).symm
    have kk7 : ∀ b o, b ≠ L → h.get? b = some o → h7.get? b = some o := fun b o nb e => hs7.extBut b o (aI2 (lt e)).2.2.2.2.2.2 (hs6.extBut b o (by rw [F.en.lc]; exact nb) (kh _ _ e))
    have S7 := Kept.toS F (by simp) (h' := h7) ⟨F.en.lc ▸ hn6.sameBut hs7 nC, kk7⟩
    obtain ⟨oD, eD, rD⟩ := hlD
    obtain ⟨H', l', e', S8⟩ := F.made S7 (fresh n1.2) (hs7.extBut _ _ n1.1 (hs6.extBut _ _ (nL n1.2) eD))
    exact kk (I + 5) ys H' h7 _ S8 l' ⟨oD, e', rD⟩ hj
end Mine

end Q4_

section Q5_
namespace Mine
theorem gmT : Gm fun _ => True := fun _ _ _ _ => trivial
theorem farS_dist (ns : List Int) (x : Int) : farS ns x ns.length = dist ns x := by unfold farS dist; rw [List.take_length]
set_option maxHeartbeats 2000000 in
/-- the medians against the nearest -/
theorem law7 {w : World} {A : Around} {E : Value → Shared → Prop} {q : QT} {L : Addr} {env : Env} {G₀ H₀ h₀ G H h : Heap} {m cm : Str → Option Value} {g : Array GenState} {d : Drawn} {tk : Nat} {os : OsState} {Q : Flow → Shared → Prop} {P : Params}
    {nl rl : Addr} {us ys : List Value} {ns : List Int} {M : Int} (hP : P = w.params) (F : S w.params q (LX L) [] (LN P) L (LC P L) env G₀ H₀ h₀ m cm G H h) (hA : Ar A 380) (mN : cm sN = some (.ref nl)) (mR : m sNear = some (.ref rl)) (hl : H.IsList nl us.toArray) (hI : IntsAre us ns) (hr : H.IsList rl ys.toArray) (hY : IntsAre ys (nearL ns M)) (h5 : 5 ≤ ns.length) (h60 : ns.length ≤ 60)
    (hM : ∃ x ∈ ns, dist ns x = M) (hM' : ∀ x ∈ ns, M ≤ dist ns x)
    (kk : ∀ G' H' h' tk', S w.params q (LX L) [] (LN P) L (LC P L) env G₀ H₀ h₀ m cm G' H' h' → Le H H' → wpAny (model pg w) A (execs (lawB.drop 7) env) Q E ⟨h', g, d, tk', os⟩) :
    wpAny (model pg w) A (execs (lawB.drop 6) env) Q E ⟨h, g, d, tk, os⟩ := by
  subst hP
  have lu := ints_len hI
  have ne : 0 < (nearL ns M).length := by
    obtain ⟨x, hx, e⟩ := hM
    exact List.length_pos_of_mem (List.mem_filter.mpr ⟨hx, by simpa using e⟩)
  have lenR : ∀ vs : List Value, (∃ ns', IntsAre vs ns' ∧ ns'.Perm ns ∧ ns'.Pairwise (· ≤ ·)) → vs.length = ns.length := fun vs ⟨ns', a, b, _⟩ => by rw [ints_len a, b.length_eq]
  refine wpAny_execs_cons (wpAny_If (wpAny_isTrue_Compare1 ?_))
  refine listE ?_
  refine args_cons (Call_Name1 (ldG (.ref 34) F ?_))
  refine cwF (fd := fnOf w.params 34) (ldC (.ref nl) (L + 1) F ⟨F.fs.okh.K 34 _ (fn34 _), ?_⟩ (hv := mN))
  refine callF F (hA.up (by decide)) ((mid_low w).2 (Γ := fun _ => True) F.fs.vw trivial (sortI hl hI (by lia)) lenR (by lia) (by lia)) fun v G1 H1 h1 tk1 S1 l1 ⟨vs1, ⟨s1, i1, p1, w1⟩, g1⟩ => ?_
  obtain ⟨lo, t1, rfl, b1⟩ := ints_at i1 g1
  refine args_cons (Call_Name1 (ldG (.ref 41) S1 ?_))
  refine cwF (fd := fnOf w.params 41) (ldC (.ref nl) (L + 1) S1 ⟨S1.fs.okh.K 41 _ (fn41 _), ?_⟩ (hv := mN))
  refine callF S1 (hA.up (by decide)) ((mid_high w).2 (Γ := fun _ => True) S1.fs.vw trivial (sortI (lmono l1 hl) hI (by lia)) lenR (by lia) (by lia)) fun v G2 H2 h2 tk2 S2 l2 ⟨vs2, ⟨s2, i2, p2, w2⟩, g2⟩ => ?_
  obtain ⟨hi, t2, rfl, b2⟩ := ints_at i2 g2
  refine args_nil ⟨by simp, ?_⟩
  refine mkL S2 fun r3 H3 h3 S3 l3 e3 => ?_
  have l03 : Le H H3 := fun b o e => l3 _ _ (l2 _ _ (l1 _ _ e))
  refine listE ?_
  refine args_cons (Call_Name1 (ldB (.builtin "min") S3 ?_))
  refine PySem.callWith_builtin1 (ldL (.ref rl) S3 ?_ (hv := mR))
  refine minL S3 hA.1 (lmono l03 hr) hY ne fun a t4 h4 tk4 a1 a2 S4 => ?_
  refine args_cons (Call_Name1 (ldB (.builtin "max") S4 ?_))
  refine PySem.callWith_builtin1 (ldL (.ref rl) S4 ?_ (hv := mR))
  refine maxL S4 hA.1 (lmono l03 hr) hY ne fun b t5 h5' tk5 b1' b2' S5 => ?_
  refine args_nil ⟨by simp, ?_⟩
  refine mkL S5 fun r6 H6 h6 S6 l6 e6 => ?_
  rw [← p1.length_eq] at b1
  rw [← p2.length_eq] at b2
  obtain rfl := near_min p1 w1 b1 hM hM' a1 a2
  obtain rfl := near_max p2 w2 b2 hM hM' b1' b2'
  refine ke_ne_ints (ns := [lo, hi]) (ms := [lo, hi]) (lmono S6.sub (lmono l6 (isL e3))) (lmono S6.sub (isL e6)) (.cons _ _ (.cons _ _ .nil)) (.cons _ _ (.cons _ _ .nil)) (by have := hA.2.2; show A.units + 64 < 9900; lia) ?_
  rw [decide_eq_true rfl]
  refine wpAny_truthy_bool (wpAny_execs_nil ?_)
  exact kk G2 H6 h6 _ S6 fun b o e => l6 _ _ (l03 _ _ e)
set_option maxHeartbeats 2000000 in
/-- the last line -/
theorem law8 {w : World} {A : Around} {E : Value → Shared → Prop} {q : QT} {L : Addr} {env : Env} {G₀ H₀ h₀ G H h : Heap} {m cm : Str → Option Value} {g : Array GenState} {d : Drawn} {tk : Nat} {os : OsState} {Q : Flow → Shared → Prop} {P : Params}
    {nl sl : Addr} {us ws : List Value} {ns : List Int} (hP : P = w.params) (F : S w.params q (LX L) [] (LN P) L (LC P L) env G₀ H₀ h₀ m cm G H h) (hA : Ar A 380) (mN : cm sN = some (.ref nl)) (mS : cm sSums = some (.ref sl)) (hl : H.IsList nl us.toArray) (hI : IntsAre us ns) (hs : H.IsList sl ws.toArray) (hW : IntsAre ws (ns.map (dist ns))) (h60 : ns.length ≤ 60)
    (kk : ∀ G' H' h' tk', S w.params q (LX L) [] (LN P) L (LC P L) env G₀ H₀ h₀ m cm G' H' h' → Q (.ret (.bool true)) ⟨h', g, d, tk', os⟩) :
    wpAny (model pg w) A (execs (lawB.drop 7) env) Q E ⟨h, g, d, tk, os⟩ := by
  subst hP
  have lu := ints_len hI
  refine wpAny_execs_cons (wpAny_Return_some (wpAny_Compare1 ?_))
  refine comp F [(sN, L + 1)] us.length (fun i H ys => IntsAre ys ((ns.take i).map (dist ns))) (hA.up (by decide)) (fun _ _ _ _ _ x => x) (fun i H ys x => ints_len_le x) ?_ (by kernel_rfl!) ?_ (hn := by lia)
  · refine ldC (.ref nl) (L + 1) F ?_ (hv := mN)
    refine srcL F hA.1 hl fun I2 o2 h2 S2 src2 => ?_
    refine ⟨I2, _, G, H, h2, _, o2, rfl, rfl, src2, S2, .nil, ?_, ?_⟩
    · intro i v C env' ys G3 H3 h3 m' E3 tk3 hi hv le3 hJ hm' henv' S3 hce
      obtain ⟨x, tx, rfl, hx⟩ := ints_at hI hv
      refine tests0 ?_
      rw [if_pos rfl]
      refine Call_ (ldG (.ref 88) S3 ?_)
      refine callWith_def (o := ⟨.type "function", none, .func (fnOf w.params 88), #[]⟩) rfl ?_
      refine args_cons (ldC (.ref nl) (L + 1) S3 ?_ (hv := mN))
      refine args_cons (ldL (.int x tx) S3 (args_nil ⟨S3.fs.okh.K 88 _ (fn88 _), ?_⟩) (hv := hm'))
      refine callF S3 hA (far_call S3.fs.vw (lmono le3 hl) hI) fun v G4 H4 h4 tk4 S4 l4 ⟨t4, ev⟩ => ?_
      subst ev
      rw [farS_dist]
      exact ⟨_, _, _, _, rfl, S4.fs, step_map hJ hx rfl⟩
    · intro D G3 H3 h3 tk3 ys S3 l3 e3 hJ
      rw [lu, List.take_length] at hJ
      refine ldC (.ref sl) (L + 6) S3 ?_ (hv := mS)
      refine ke_eq_ints (lmono S3.sub e3) (lmono S3.sub (lmono l3 hs)) hJ hW (by have := hA.2.2; show A.units + 64 < 9900; lia) ?_
      rw [decide_eq_true rfl]
      exact kk G3 H3 h3 _ S3
  · intro nm c hh
    have := mem_of_lookup hh
    simp only [List.mem_cons, Prod.mk.injEq, List.not_mem_nil, or_false] at this
    obtain ⟨rfl, rfl⟩ := this
    kernel_rfl!
end Mine

end Q5_

section Q6_
namespace Mine
theorem ex_min (f : Int → Int) : ∀ l : List Int, l ≠ [] → ∃ x ∈ l, ∀ y ∈ l, f x ≤ f y
  | [], h => absurd rfl h
  | [a], _ => ⟨a, by simp, by simp⟩
  | a :: b :: r, _ => by
    obtain ⟨x, hx, hm⟩ := ex_min f (b :: r) (by simp)
    by_cases h : f a ≤ f x
    · refine ⟨a, List.mem_cons_self, fun y hy => ?_⟩
      rcases List.mem_cons.mp hy with rfl | hy
      · exact Int.le_refl _
      · exact Int.le_trans h (hm y hy)
    · refine ⟨x, List.mem_cons_of_mem _ hx, fun y hy => ?_⟩
      rcases List.mem_cons.mp hy with rfl | hy
      · exact Int.le_of_lt (Int.not_le.mp h)
      · exact hm y hy
theorem nums_len (xs : List Int) : 5 ≤ (numsOfScript xs).length ∧ (numsOfScript xs).length ≤ 11 := by
  unfold numsOfScript
  simp only [List.length_append, List.length_map, List.length_take, List.length_cons, List.length_nil]
  lia
theorem code93 (P : Params) : (fnOf P 93).code = .ref 92 := by kernel_rfl!
set_option maxHeartbeats 2000000 in
/-- law, called -/
theorem law_call {w : World} {A : Around} {E : Value → Shared → Prop} {G H h : Heap} {g : Array GenState} {d : Drawn} {tk : Nat} {os : OsState} {Q : Value → Shared → Prop} {sl : Addr} {vs : List Value} {xs : List Int} (F : Vw w.params ([], []) G H h) (hl : H.IsList sl vs.toArray) (hI : IntsAre vs xs) (h63 : xs.length ≤ 1000) (hA : Ar A 310) (hfr : A.frames = some [])
    (k : ∀ h' tk', (∀ b o, b ∉ T0 → h.get? b = some o → h'.get? b = some o) → (∀ b ∈ T0, ∃ l, h'.get? b = some (tab l)) → Q (.bool true) ⟨h', g, d, tk', os⟩) : wpAny (model pg w) A (call (.ref 93) [.ref sl]) Q E ⟨h, g, d, tk, os⟩ := by
  refine enterF (fun L => [L + 1, L + 2, L + 3, L + 4, L + 5, L + 6, L + 7, L + 8]) (binds := [(sScr, .ref sl)]) (body := lawB) F hA (by decide) (F.okh.K 93 _ (fn93 _)) (isTop.rec (top93 _) F.okh.K) (body93 _) (by kernel_rfl!) (by kernel_rfl!) ?_ ?_ (by kernel_rfl!) (by kernel_rfl!) (by kernel_rfl!) (by kernel_rfl!) (by kernel_rfl!) ?_
  · intro x hx
    rw [List.mem_singleton] at hx; subst hx
    exact .inl (by kernel_rfl!)
  · intro L y hy
    simp only [List.mem_cons, List.not_mem_nil, or_false] at hy
    rcases hy with rfl | rfl | rfl | rfl | rfl | rfl | rfl | rfl
    · exact ⟨sN, by kernel_rfl!⟩
    · exact ⟨sTh, by kernel_rfl!⟩
    · exact ⟨sSize, by kernel_rfl!⟩
    · exact ⟨sO, by kernel_rfl!⟩
    · exact ⟨sInner, by kernel_rfl!⟩
    · exact ⟨sSums, by kernel_rfl!⟩
    · exact ⟨sCo, by kernel_rfl!⟩
    · exact ⟨sM, by kernel_rfl!⟩
  intro L h1 tk1 E' env A' henv S0 hA' hL hfr'
  have hcode : env.code = .ref 92 := by rw [henv]; exact code93 w.params
  have hqn : env.qual = qL := by rw [henv]; kernel_rfl!
  have fL : env.frame = some L := by rw [henv]; kernel_rfl!
  clear henv
  rw [hfr] at hfr'
  have hA1 : Ar A' 380 := hA'.up (by decide)
  obtain ⟨n5, n11⟩ := nums_len xs
  refine law1 rfl S0 (hA1.up (by decide)) (mS := by kernel_rfl!) hl hI h63 fun nl us G2 H2 h2 tk2 S2 l2 e2 i2 => ?_
  refine law2 rfl S2 (hA1.up (by decide)) (if_pos rfl) e2 i2 (by lia) fun tl ts t G3 H3 h3 tk3 S3 l3 T3 et _ => ?_
  refine law3 rfl S3 hA1 hcode hqn ⟨(if_neg (show sN ≠ sTh by decide +kernel)).trans (if_pos rfl), if_pos rfl, if_pos rfl, lmono l3 e2, i2, T3, et⟩ n5 (by lia) fun q4 m4 cm4 G4 H4 h4 tk4 S4 l4 B4 => ?_
  refine law4 rfl S4 hA1 hfr' fL fun H5 h5 tk5 S5 l5 => ?_
  refine law5 rfl S5 hA1 B4.mN (lmono l5 B4.l) i2 (by lia) fun sl6 ws H6 h6 tk6 S6 l6 e6 i6 => ?_
  obtain ⟨x, hx, hm⟩ := ex_min (dist (numsOfScript xs)) (numsOfScript xs) (fun e => by rw [e] at n5; simp at n5)
  have nl6 := lmono l6 (lmono l5 B4.l)
  refine law6 (M := dist (numsOfScript xs) x) rfl S6 hA1 (cmN B4.mN) (if_pos rfl) nl6 i2 e6 i6 n5 (by lia) ⟨x, hx, rfl⟩ hm fun rl ys H7 h7 tk7 S7 l7 e7 i7 => ?_
  refine law7 (M := dist (numsOfScript xs) x) rfl S7 hA1 (cmN B4.mN) (if_pos rfl) (lmono l7 nl6) i2 e7 i7 n5 (by lia) ⟨x, hx, rfl⟩ hm fun G8 H8 h8 tk8 S8 l8 => ?_
  refine law8 rfl S8 hA1 (cmN B4.mN) (if_pos rfl) (lmono l8 (lmono l7 nl6)) i2 (lmono l8 (lmono l7 e6)) i6 (by lia) fun G9 H9 h9 tk9 S9 => ?_
  exact k h9 tk9 S9.fs.kp fun b hb => S9.fs.okh.tabs hb
theorem isTab {P : Params} {h : Heap} (hK : (K1 P).In h) {b : Addr} (hb : b ∈ T0) : isCodeTable h b := by
  simp only [T0, List.mem_cons, List.not_mem_nil, or_false] at hb
  rcases hb with rfl | rfl | rfl | rfl
  · exact ⟨47, _, vsOf P 47, hK 47 ⟨.type "code", none, .fields (vsOf P 47), #[]⟩ (by kernel_rfl!), rfl, rfl, by kernel_rfl!⟩
  · exact ⟨63, _, vsOf P 63, hK 63 ⟨.type "code", none, .fields (vsOf P 63), #[]⟩ (by kernel_rfl!), rfl, rfl, by kernel_rfl!⟩
  · exact ⟨87, _, vsOf P 87, hK 87 ⟨.type "code", none, .fields (vsOf P 87), #[]⟩ (by kernel_rfl!), rfl, rfl, by kernel_rfl!⟩
  · exact ⟨92, _, vsOf P 92, hK 92 ⟨.type "code", none, .fields (vsOf P 92), #[]⟩ (by kernel_rfl!), rfl, rfl, by kernel_rfl!⟩
theorem oldK_of {P : Params} {h h' : Heap} (hK : (K1 P).In h) (ht : ∀ b ∈ T0, h.get? b = some (tab [])) (kp : ∀ b o, b ∉ T0 → h.get? b = some o → h'.get? b = some o) (tb : ∀ b ∈ T0, ∃ l, h'.get? b = some (tab l)) : OldK h h' := by
  refine ⟨fun b o e => ?_, fun b o e => ?_⟩
  · by_cases hb : b ∈ T0
    · have e0 := ht b hb
      rw [e] at e0
      obtain rfl := Option.some.inj e0
      obtain ⟨l, e1⟩ := tb b hb
      exact .inr (.inl ⟨isTab hK hb, rfl, #[], l.toArray, rfl, by rw [e1]; simp⟩)
    · exact .inl (kp b o hb e)
  · by_cases hb : b ∈ T0
    · obtain ⟨l, e1⟩ := tb b hb; exact ⟨_, e1⟩
    · exact ⟨o, kp b o hb e⟩
end Mine

end Q6_

section Q7_
namespace Mine
theorem bt_of {P : Params} {h : Heap} {mg mb : Str → Option Value} {p : Program} {loose : List Str} {mean : ExcName → Option Value} (T : Top p loose mean mg mb h) (X : (Kf P).In h) : Bt h := by
  obtain ⟨bm, ob, e1, _, e3, c, d, dt⟩ := T.bmain
  have e2 := mg_of X T.g (n := "__builtins__") (v := .ref 4) (by kernel_rfl!)
  rw [e1] at e2
  cases e2
  obtain ⟨oc, od, oda, sl⟩ := ob
  simp only at c d dt
  subst c d dt
  exact ⟨⟨sl, e3⟩, ⟨mb, T.b, T.builtins⟩⟩
theorem fa_of {P : Params} {h : Heap} {mg : Str → Option Value} {fa : Addr} (g : h.Ns mainGlobals mg) (X : (Kf P).In h) (e : mg (Str.ofString "law") = some (.ref fa)) : fa = 93 := by
  have e2 := mg_of X g (n := Str.ofString "law") (v := .ref 93) (by kernel_rfl!)
  rw [e] at e2
  cases e2; rfl
theorem vw0 {P : Params} {h : Heap} (X : (K1 P).In h) (B : Bt h) (ht : ∀ b ∈ T0, h.get? b = some (tab [])) : ∃ H, Vw P ([], []) h H h ∧ ∀ b o, b ∉ T0 → h.get? b = some o → H.get? b = some o := by
  refine ⟨res h fun b => !T0.contains b, ⟨⟨X, B, .inl (ht 43 (by decide)), ht 59 (by decide), .inl (ht 83 (by decide)), ht 90 (by decide)⟩, fun b o e => ⟨e, by simp, .inl e⟩, fun _ _ e => e, fun b o e => ?_, fun _ _ _ e => e, fun _ hx => absurd hx (by simp), fun b hb => ⟨_, ht b hb⟩⟩, fun b o nb e => ?_⟩
  · have e0 := e
    rw [res_get] at e
    split at e
    · rename_i hb
      exact ⟨e, by simp, by simpa using hb, .inl e0⟩
    · cases e
  · rw [res_get, if_pos (by simpa using nb)]; exact e
set_option maxHeartbeats 4000000 in
theorem fin : PySem.Challenge.rw_oy0033_01.Holds := by
  refine Mine.hd ?_
  intro w s0 s1 mg mb G Y fa o pm cd doc dV kV ho hd hcd hD hmg hg args vals as hpre hlay hrd hwl hlo
  have KX := km_in_of Y
  have hT := km_tabs_of Y
  refine Ground.open G ?_
  intro T B D TE TW
  wrow_args hpre hlay hrd hwl hlo
  rename_i xs _ _ _ _ _ _ _ sl vs _ hl _ _ _ hI _ hc _
  obtain rfl := Mine.fa_of T.g KX hmg
  obtain ⟨h, g, d, tk, os⟩ := s1
  dsimp only at hl hg KX hT T
  have ht : ∀ b ∈ Mine.T0, h.get? b = some (Mine.tab []) := fun b hb => by
    refine hT b ?_
    simp only [Mine.T0, List.mem_cons, List.not_mem_nil, or_false] at hb ⊢
    rcases hb with rfl | rfl | rfl | rfl
    · exact .inr (.inl rfl)
    · exact .inr (.inr (.inl rfl))
    · exact .inl rfl
    · exact .inr (.inr (.inr rfl))
  obtain ⟨H, F, up⟩ := Mine.vw0 KX (Mine.bt_of T KX) ht
  have hl2 : H.IsList sl vs.toArray := by
    obtain ⟨o, e1, e2, n, e3⟩ := hl
    refine ⟨o, up _ _ (fun hb => ?_) e1, e2, n, e3⟩
    rw [ht _ hb] at e1
    cases e1
    cases e2
  refine Mine.law_call F hl2 hI (by lia) ⟨rfl, by decide, by decide⟩ rfl fun h' tk' kp tb => ?_
  exact ⟨.inl ⟨_, _, [], rfl, fun _ => rfl, ReadsW.bool true, by first | rfl | wrow_post, fun _ => ⟨List.nodup_nil, fun _ hm => (nomatch hm)⟩⟩, Mine.oldK_of KX ht kp tb, rfl, .of_eq hg⟩
end Mine
theorem PySem.Challenge.cw_oy0033_01_holds : PySem.Challenge.rw_oy0033_01.Holds := by
  exact Mine.fin

end Q7_
