import PyProof.Rows.All
import Wide.All
import OpenK.AllK
import Wide.FinOn
import PySem.Challenge.RW_ph0163_01
open PySem PySem.W PyProof.Rows PySem.Calls PySem.Spec
set_option Elab.async false
set_option maxRecDepth 100000
set_option rowWalk.seconds 0
set_option compiler.extract_closed false
set_option linter.unusedVariables false
set_option linter.unusedSimpArgs false
set_option pp.deepTerms false
set_option pp.maxSteps 1000

section
open PySem PySem.W PyProof.Rows
set_option maxRecDepth 100000
namespace Mine
/-- the n-th statement -/
noncomputable def nthS : Nat → List Stmt → Stmt
  | _, [] => .Pass default
  | 0, s :: _ => s
  | n + 1, _ :: l => nthS n l
noncomputable def bodyS : Stmt → List Stmt
  | .ClassDef _ _ _ b _ _ _ _ _ _ _ => b
  | _ => []
/-- the object of a def of the text -/
noncomputable def fnObj (st : Stmt) (q : Str) (m : Value) (c : Addr) : Obj :=
  match st with
  | .FunctionDef n a b _ _ _ sc _ _ _ => .mk (.type "function") .none (.func (.mk n q a (.stmts b) sc 3 [] .none .none .none m .none (.ref c) .none 0)) #[]
  | _ => default
noncomputable abbrev o2 (P : Params) : Obj := .mk .none .none (.dict #[] 0) #[]
noncomputable abbrev o3 (P : Params) : Obj := .mk (.type "dict") .none (.dict #[.mk (PySem.PyData.keyHash P (.ofString "__name__")) (.str (.ofString "__name__") 165) (.str (.ofString "law_ph0163_01") 394), .mk (PySem.PyData.keyHash P (.ofString "__doc__")) (.str (.ofString "__doc__") 166) .none, .mk (PySem.PyData.keyHash P (.ofString "__package__")) (.str (.ofString "__package__") 167) .none, .mk (PySem.PyData.keyHash P (.ofString "__loader__")) (.str (.ofString "__loader__") 168) (.builtin "__main__.__loader__#opaque"), .mk (PySem.PyData.keyHash P (.ofString "__spec__")) (.str (.ofString "__spec__") 169) .none, .mk (PySem.PyData.keyHash P (.ofString "__annotations__")) (.str (.ofString "__annotations__") 170) (.ref 6), .mk (PySem.PyData.keyHash P (.ofString "__builtins__")) (.str (.ofString "__builtins__") 171) (.ref 4), .mk (PySem.PyData.keyHash P (.ofString "__file__")) (.str (.ofString "__file__") 173) (.str (.ofString "/claim/cut.py") 172), .mk (PySem.PyData.keyHash P (.ofString "__cached__")) (.str (.ofString "__cached__") 174) .none, .mk (PySem.PyData.keyHash P (.ofString "_wall")) (.str (.ofString "_wall") 193) (.ref 21), .mk (PySem.PyData.keyHash P (.ofString "_split_list")) (.str (.ofString "_split_list") 206) (.ref 28), .mk (PySem.PyData.keyHash P (.ofString "_DIV_LIMIT")) (.str (.ofString "_DIV_LIMIT") 210) (.int 4000 209), .mk (PySem.PyData.keyHash P (.ofString "_div2n1n")) (.str (.ofString "_div2n1n") 227) (.ref 35), .mk (PySem.PyData.keyHash P (.ofString "_div3n2n")) (.str (.ofString "_div3n2n") 241) (.ref 42), .mk (PySem.PyData.keyHash P (.ofString "_int2digits")) (.str (.ofString "_int2digits") 252) (.ref 49), .mk (PySem.PyData.keyHash P (.ofString "_digits2int")) (.str (.ofString "_digits2int") 263) (.ref 56), .mk (PySem.PyData.keyHash P (.ofString "_divmod_pos")) (.str (.ofString "_divmod_pos") 278) (.ref 63), .mk (PySem.PyData.keyHash P (.ofString "int_divmod")) (.str (.ofString "int_divmod") 288) (.ref 70), .mk (PySem.PyData.keyHash P (.ofString "Whitespace")) (.str (.ofString "Whitespace") 393) (.ref 132), .mk (PySem.PyData.keyHash P (.ofString "_law_prime")) (.str (.ofString "_law_prime") 403) (.ref 143), .mk (PySem.PyData.keyHash P (.ofString "_law_worth")) (.str (.ofString "_law_worth") 412) (.ref 150), .mk (PySem.PyData.keyHash P (.ofString "_law_swept")) (.str (.ofString "_law_swept") 418) (.ref 155), .mk (PySem.PyData.keyHash P (.ofString "law")) (.str (.ofString "law") 424) (.ref 160)] 23) #[]
noncomputable abbrev o27 (P : Params) : Obj := .mk (.type "code") .none (.fields #[.str (.ofString "_split_list") 196, .str (.ofString "_split_list") 197, .str (.ofString "/claim/cut.py") 198, .int 5 0, .int 2 0, .int 0 0, .int 0 0, .int 3 0, .ref 22, .bool .true, .int 181 0, .ref 23, .none, .ref 24, .ref 25, .ref 26, .int 204 0, .int 5 0, .str (.ofString "/claim/cut.py") 205]) #[]
noncomputable abbrev o28 (P : Params) : Obj := fnObj (nthS 2 PySem.Challenge.pw_ph0163_01.main.body) (.ofString "_split_list") (.str (.ofString "cpy313.pydoc") 194) 27
noncomputable abbrev o34 (P : Params) : Obj := .mk (.type "code") .none (.fields #[.str (.ofString "_div2n1n") 211, .str (.ofString "_div2n1n") 212, .str (.ofString "/claim/cut.py") 213, .int 16 0, .int 3 0, .int 0 0, .int 0 0, .int 3 0, .ref 29, .bool .true, .int 181 0, .ref 30, .none, .ref 31, .ref 32, .ref 33, .int 225 0, .int 16 0, .str (.ofString "/claim/cut.py") 226]) #[]
noncomputable abbrev o35 (P : Params) : Obj := fnObj (nthS 5 PySem.Challenge.pw_ph0163_01.main.body) (.ofString "_div2n1n") (.str (.ofString "cpy313._pylong") 207) 34
noncomputable abbrev o48 (P : Params) : Obj := .mk (.type "code") .none (.fields #[.str (.ofString "_int2digits") 242, .str (.ofString "_int2digits") 243, .str (.ofString "/claim/cut.py") 244, .int 42 0, .int 2 0, .int 0 0, .int 0 0, .int 3 0, .ref 43, .bool .true, .int 181 0, .ref 44, .none, .ref 45, .ref 46, .ref 47, .int 250 0, .int 42 0, .str (.ofString "/claim/cut.py") 251]) #[]
noncomputable abbrev o49 (P : Params) : Obj := fnObj (nthS 7 PySem.Challenge.pw_ph0163_01.main.body) (.ofString "_int2digits") (.str (.ofString "cpy313._pylong") 207) 48
noncomputable abbrev o55 (P : Params) : Obj := .mk (.type "code") .none (.fields #[.str (.ofString "_digits2int") 253, .str (.ofString "_digits2int") 254, .str (.ofString "/claim/cut.py") 255, .int 58 0, .int 2 0, .int 0 0, .int 0 0, .int 3 0, .ref 50, .bool .true, .int 181 0, .ref 51, .none, .ref 52, .ref 53, .ref 54, .int 261 0, .int 58 0, .str (.ofString "/claim/cut.py") 262]) #[]
noncomputable abbrev o56 (P : Params) : Obj := fnObj (nthS 8 PySem.Challenge.pw_ph0163_01.main.body) (.ofString "_digits2int") (.str (.ofString "cpy313._pylong") 207) 55
noncomputable abbrev o62 (P : Params) : Obj := .mk (.type "code") .none (.fields #[.str (.ofString "_divmod_pos") 264, .str (.ofString "_divmod_pos") 265, .str (.ofString "/claim/cut.py") 266, .int 67 0, .int 2 0, .int 0 0, .int 0 0, .int 3 0, .ref 57, .bool .true, .int 181 0, .ref 58, .none, .ref 59, .ref 60, .ref 61, .int 276 0, .int 67 0, .str (.ofString "/claim/cut.py") 277]) #[]
noncomputable abbrev o63 (P : Params) : Obj := fnObj (nthS 9 PySem.Challenge.pw_ph0163_01.main.body) (.ofString "_divmod_pos") (.str (.ofString "cpy313._pylong") 207) 62
noncomputable abbrev o69 (P : Params) : Obj := .mk (.type "code") .none (.fields #[.str (.ofString "int_divmod") 279, .str (.ofString "int_divmod") 280, .str (.ofString "/claim/cut.py") 281, .int 78 0, .int 2 0, .int 0 0, .int 0 0, .int 3 0, .ref 64, .bool .true, .int 181 0, .ref 65, .none, .ref 66, .ref 67, .ref 68, .int 286 0, .int 78 0, .str (.ofString "/claim/cut.py") 287]) #[]
noncomputable abbrev o70 (P : Params) : Obj := fnObj (nthS 10 PySem.Challenge.pw_ph0163_01.main.body) (.ofString "int_divmod") (.str (.ofString "cpy313._pylong") 207) 69
noncomputable abbrev o86 (P : Params) : Obj := .mk (.type "code") .none (.fields #[.str (.ofString "__init__") 308, .str (.ofString "Whitespace.__init__") 309, .str (.ofString "/claim/cut.py") 310, .int 93 0, .int 2 0, .int 0 0, .int 0 0, .int 3 0, .ref 81, .bool .true, .int 181 0, .ref 82, .none, .ref 83, .ref 84, .ref 85, .int 320 0, .int 93 0, .str (.ofString "/claim/cut.py") 321]) #[]
noncomputable abbrev o87 (P : Params) : Obj := fnObj (nthS 1 (bodyS (nthS 12 PySem.Challenge.pw_ph0163_01.main.body))) (.ofString "Whitespace.__init__") (.str (.ofString "cpy313.tabnanny") 289) 86
noncomputable abbrev o93 (P : Params) : Obj := .mk (.type "code") .none (.fields #[.str (.ofString "longest_run_of_spaces") 323, .str (.ofString "Whitespace.longest_run_of_spaces") 324, .str (.ofString "/claim/cut.py") 325, .int 116 0, .int 1 0, .int 0 0, .int 0 0, .int 3 0, .ref 88, .bool .true, .int 181 0, .ref 89, .none, .ref 90, .ref 91, .ref 92, .int 329 0, .int 116 0, .str (.ofString "/claim/cut.py") 330]) #[]
noncomputable abbrev o94 (P : Params) : Obj := fnObj (nthS 2 (bodyS (nthS 12 PySem.Challenge.pw_ph0163_01.main.body))) (.ofString "Whitespace.longest_run_of_spaces") (.str (.ofString "cpy313.tabnanny") 289) 93
noncomputable abbrev o100 (P : Params) : Obj := .mk (.type "code") .none (.fields #[.str (.ofString "indent_level") 332, .str (.ofString "Whitespace.indent_level") 333, .str (.ofString "/claim/cut.py") 334, .int 120 0, .int 2 0, .int 0 0, .int 0 0, .int 3 0, .ref 95, .bool .true, .int 181 0, .ref 96, .none, .ref 97, .ref 98, .ref 99, .int 341 0, .int 120 0, .str (.ofString "/claim/cut.py") 342]) #[]
noncomputable abbrev o101 (P : Params) : Obj := fnObj (nthS 3 (bodyS (nthS 12 PySem.Challenge.pw_ph0163_01.main.body))) (.ofString "Whitespace.indent_level") (.str (.ofString "cpy313.tabnanny") 289) 100
noncomputable abbrev o107 (P : Params) : Obj := .mk (.type "code") .none (.fields #[.str (.ofString "equal") 344, .str (.ofString "Whitespace.equal") 345, .str (.ofString "/claim/cut.py") 346, .int 127 0, .int 2 0, .int 0 0, .int 0 0, .int 3 0, .ref 102, .bool .true, .int 181 0, .ref 103, .none, .ref 104, .ref 105, .ref 106, .int 349 0, .int 127 0, .str (.ofString "/claim/cut.py") 350]) #[]
noncomputable abbrev o108 (P : Params) : Obj := fnObj (nthS 4 (bodyS (nthS 12 PySem.Challenge.pw_ph0163_01.main.body))) (.ofString "Whitespace.equal") (.str (.ofString "cpy313.tabnanny") 289) 107
noncomputable abbrev o114 (P : Params) : Obj := .mk (.type "code") .none (.fields #[.str (.ofString "not_equal_witness") 352, .str (.ofString "Whitespace.not_equal_witness") 353, .str (.ofString "/claim/cut.py") 354, .int 130 0, .int 2 0, .int 0 0, .int 0 0, .int 3 0, .ref 109, .bool .true, .int 181 0, .ref 110, .none, .ref 111, .ref 112, .ref 113, .int 360 0, .int 130 0, .str (.ofString "/claim/cut.py") 361]) #[]
noncomputable abbrev o115 (P : Params) : Obj := fnObj (nthS 5 (bodyS (nthS 12 PySem.Challenge.pw_ph0163_01.main.body))) (.ofString "Whitespace.not_equal_witness") (.str (.ofString "cpy313.tabnanny") 289) 114
noncomputable abbrev o121 (P : Params) : Obj := .mk (.type "code") .none (.fields #[.str (.ofString "less") 363, .str (.ofString "Whitespace.less") 364, .str (.ofString "/claim/cut.py") 365, .int 138 0, .int 2 0, .int 0 0, .int 0 0, .int 3 0, .ref 116, .bool .true, .int 181 0, .ref 117, .none, .ref 118, .ref 119, .ref 120, .int 370 0, .int 138 0, .str (.ofString "/claim/cut.py") 371]) #[]
noncomputable abbrev o122 (P : Params) : Obj := fnObj (nthS 6 (bodyS (nthS 12 PySem.Challenge.pw_ph0163_01.main.body))) (.ofString "Whitespace.less") (.str (.ofString "cpy313.tabnanny") 289) 121
noncomputable abbrev o131 (P : Params) : Obj := .mk (.type "dict") .none (.dict #[.mk (PySem.PyData.keyHash P (.ofString "__module__")) (.str (.ofString "__module__") 298) (.str (.ofString "cpy313.tabnanny") 289), .mk (PySem.PyData.keyHash P (.ofString "__firstlineno__")) (.str (.ofString "__firstlineno__") 302) (.int 90 301), .mk (PySem.PyData.keyHash P (.ofString "S")) (.str (.ofString "S") 306) (.str (.ofString " ") 304), .mk (PySem.PyData.keyHash P (.ofString "T")) (.str (.ofString "T") 307) (.str (.ofString "\t") 305), .mk (PySem.PyData.keyHash P (.ofString "__init__")) (.str (.ofString "__init__") 322) (.ref 87), .mk (PySem.PyData.keyHash P (.ofString "longest_run_of_spaces")) (.str (.ofString "longest_run_of_spaces") 331) (.ref 94), .mk (PySem.PyData.keyHash P (.ofString "indent_level")) (.str (.ofString "indent_level") 343) (.ref 101), .mk (PySem.PyData.keyHash P (.ofString "equal")) (.str (.ofString "equal") 351) (.ref 108), .mk (PySem.PyData.keyHash P (.ofString "not_equal_witness")) (.str (.ofString "not_equal_witness") 362) (.ref 115), .mk (PySem.PyData.keyHash P (.ofString "less")) (.str (.ofString "less") 372) (.ref 122), .mk (PySem.PyData.keyHash P (.ofString "not_less_witness")) (.str (.ofString "not_less_witness") 380) (.ref 129), .mk (PySem.PyData.keyHash P (.ofString "__static_attributes__")) (.str (.ofString "__static_attributes__") 386) (.ref 130), .mk (PySem.PyData.keyHash P (.ofString "__dict__")) (.str (.ofString "__dict__") 388) (.ref 133), .mk (PySem.PyData.keyHash P (.ofString "__weakref__")) (.str (.ofString "__weakref__") 390) (.ref 134), .mk (PySem.PyData.keyHash P (.ofString "__doc__")) (.str (.ofString "__doc__") 391) .none] 4) #[]
noncomputable abbrev o132 (P : Params) : Obj := .mk (.type "type") .none (.cls (.mk (.ofString "Whitespace") [.type "object"] [.ref 132, .type "object"] 131 (.ofString "Whitespace") .true [] [] .false .none .false)) #[.none, .none, .some (.str (.ofString "Whitespace") 291), .some (.str (.ofString "Whitespace") 299), .some (.builtin "object.__new__"), .some (.bool .true)]
noncomputable abbrev o133 (P : Params) : Obj := .mk (.type "getset_descriptor") .none (.fields #[.str (.ofString "__dict__") 387, .ref 132, .builtin "function.__dict__", .builtin "function.__dict__#set"]) #[]
noncomputable abbrev o134 (P : Params) : Obj := .mk (.type "getset_descriptor") .none (.fields #[.str (.ofString "__weakref__") 389, .ref 132, .builtin "ExceptionGroup.__weakref__", .none]) #[]
noncomputable abbrev o142 (P : Params) : Obj := .mk (.type "code") .none (.fields #[.str (.ofString "_law_prime") 396, .str (.ofString "_law_prime") 397, .str (.ofString "/claim/cut.py") 398, .int 152 0, .int 1 0, .int 0 0, .int 0 0, .int 3 0, .ref 137, .bool .true, .int 181 0, .ref 138, .none, .ref 139, .ref 140, .ref 141, .int 401 0, .int 152 0, .str (.ofString "/claim/cut.py") 402]) #[]
noncomputable abbrev o143 (P : Params) : Obj := fnObj (nthS 14 PySem.Challenge.pw_ph0163_01.main.body) (.ofString "_law_prime") (.str (.ofString "law_ph0163_01") 394) 142
noncomputable abbrev o149 (P : Params) : Obj := .mk (.type "code") .none (.fields #[.str (.ofString "_law_worth") 404, .str (.ofString "_law_worth") 405, .str (.ofString "/claim/cut.py") 406, .int 157 0, .int 1 0, .int 0 0, .int 0 0, .int 3 0, .ref 144, .bool .true, .int 181 0, .ref 145, .none, .ref 146, .ref 147, .ref 148, .int 410 0, .int 157 0, .str (.ofString "/claim/cut.py") 411]) #[]
noncomputable abbrev o150 (P : Params) : Obj := fnObj (nthS 15 PySem.Challenge.pw_ph0163_01.main.body) (.ofString "_law_worth") (.str (.ofString "law_ph0163_01") 394) 149
noncomputable abbrev o154 (P : Params) : Obj := .mk (.type "code") .none (.fields #[.str (.ofString "_law_swept") 413, .str (.ofString "_law_swept") 414, .str (.ofString "/claim/cut.py") 415, .int 162 0, .int 1 0, .int 0 0, .int 0 0, .int 3 0, .ref 151, .bool .true, .int 181 0, .ref 152, .none, .none, .none, .ref 153, .int 416 0, .int 162 0, .str (.ofString "/claim/cut.py") 417]) #[]
noncomputable abbrev o155 (P : Params) : Obj := fnObj (nthS 16 PySem.Challenge.pw_ph0163_01.main.body) (.ofString "_law_swept") (.str (.ofString "law_ph0163_01") 394) 154
noncomputable abbrev o159 (P : Params) : Obj := .mk (.type "code") .none (.fields #[.str (.ofString "law") 419, .str (.ofString "law") 420, .str (.ofString "/claim/cut.py") 421, .int 177 0, .int 1 0, .int 0 0, .int 0 0, .int 3 0, .ref 156, .bool .true, .int 181 0, .ref 157, .none, .none, .none, .ref 158, .int 422 0, .int 177 0, .str (.ofString "/claim/cut.py") 423]) #[]
noncomputable abbrev o160 (P : Params) : Obj := fnObj (nthS 17 PySem.Challenge.pw_ph0163_01.main.body) (.ofString "law") (.str (.ofString "law_ph0163_01") 394) 159
noncomputable def KF : Params → Frag := fun P => ((nat_lit 2, o2 P) :: (nat_lit 3, o3 P) :: (nat_lit 27, o27 P) :: (nat_lit 28, o28 P) :: (nat_lit 34, o34 P) :: (nat_lit 35, o35 P) :: (nat_lit 48, o48 P) :: (nat_lit 49, o49 P) :: (nat_lit 55, o55 P) :: (nat_lit 56, o56 P) :: (nat_lit 62, o62 P) :: (nat_lit 63, o63 P) :: (nat_lit 69, o69 P) :: (nat_lit 70, o70 P) :: (nat_lit 86, o86 P) :: (nat_lit 87, o87 P) :: (nat_lit 93, o93 P) :: (nat_lit 94, o94 P) :: (nat_lit 100, o100 P) :: (nat_lit 101, o101 P) :: (nat_lit 107, o107 P) :: (nat_lit 108, o108 P) :: (nat_lit 114, o114 P) :: (nat_lit 115, o115 P) :: (nat_lit 121, o121 P) :: (nat_lit 122, o122 P) :: (nat_lit 131, o131 P) :: (nat_lit 132, o132 P) :: (nat_lit 133, o133 P) :: (nat_lit 134, o134 P) :: (nat_lit 142, o142 P) :: (nat_lit 143, o143 P) :: (nat_lit 149, o149 P) :: (nat_lit 150, o150 P) :: (nat_lit 154, o154 P) :: (nat_lit 155, o155 P) :: (nat_lit 159, o159 P) :: (nat_lit 160, o160 P) :: [] : List (Nat × Obj))
end Mine
end

local macro_rules | `(tactic| omega) => `(tactic| first | (with_reducible assumption) | lia | omega +splitDisjunctions)
section
open PySem PySem.W PyProof.Rows PySem.Calls PySem.Spec
set_option maxRecDepth 100000
namespace Mine

/-- the heap grows; only the named objects may have turned -/
noncomputable def Grown (ch : List Addr) (h h' : Heap) : Prop := ∀ b o, b ∉ ch → h.get? b = some o → h'.get? b = some o
theorem Grown.refl {ch : List Addr} {h : Heap} : Grown ch h h := fun _ _ _ e => e
theorem Grown.trans {ch : List Addr} {h h' h'' : Heap} (a : Grown ch h h') (b : Grown ch h' h'') : Grown ch h h'' := fun x o n e => b x o n (a x o n e)
theorem Grown.mono {ch ch' : List Addr} {h h' : Heap} (a : Grown ch h h') (s : ∀ b ∈ ch, b ∈ ch') : Grown ch' h h' := fun x o n e => a x o (fun q => n (s _ q)) e

/-- flat words: one case where nested ones would have many -/
inductive E2 {α β : Type} (p : α → β → Prop) : Prop where
  | intro (x1 : α) (x2 : β) (h : p x1 x2)
inductive E3 {α β γ : Type} (p : α → β → γ → Prop) : Prop where
  | intro (x1 : α) (x2 : β) (x3 : γ) (h : p x1 x2 x3)
inductive E4 {α β γ δ : Type} (p : α → β → γ → δ → Prop) : Prop where
  | intro (x1 : α) (x2 : β) (x3 : γ) (x4 : δ) (h : p x1 x2 x3 x4)
inductive E5 {α β γ δ ε : Type} (p : α → β → γ → δ → ε → Prop) : Prop where
  | intro (x1 : α) (x2 : β) (x3 : γ) (x4 : δ) (x5 : ε) (h : p x1 x2 x3 x4 x5)
inductive E6 {α β γ δ ε ζ : Type} (p : α → β → γ → δ → ε → ζ → Prop) : Prop where
  | intro (x1 : α) (x2 : β) (x3 : γ) (x4 : δ) (x5 : ε) (x6 : ζ) (h : p x1 x2 x3 x4 x5 x6)
inductive E7 {α β γ δ ε ζ η : Type} (p : α → β → γ → δ → ε → ζ → η → Prop) : Prop where
  | intro (x1 : α) (x2 : β) (x3 : γ) (x4 : δ) (x5 : ε) (x6 : ζ) (x7 : η) (h : p x1 x2 x3 x4 x5 x6 x7)
inductive E9 {α β γ δ ε ζ η θ ι : Type} (p : α → β → γ → δ → ε → ζ → η → θ → ι → Prop) : Prop where
  | intro (x1 : α) (x2 : β) (x3 : γ) (x4 : δ) (x5 : ε) (x6 : ζ) (x7 : η) (x8 : θ) (x9 : ι) (h : p x1 x2 x3 x4 x5 x6 x7 x8 x9)
inductive E11 {α β γ δ ε ζ η θ ι κ l1 : Type} (p : α → β → γ → δ → ε → ζ → η → θ → ι → κ → l1 → Prop) : Prop where
  | intro (x1 : α) (x2 : β) (x3 : γ) (x4 : δ) (x5 : ε) (x6 : ζ) (x7 : η) (x8 : θ) (x9 : ι) (x10 : κ) (x11 : l1) (h : p x1 x2 x3 x4 x5 x6 x7 x8 x9 x10 x11)
inductive E12 {α β γ δ ε ζ η θ ι κ l1 l2 : Type} (p : α → β → γ → δ → ε → ζ → η → θ → ι → κ → l1 → l2 → Prop) : Prop where
  | intro (x1 : α) (x2 : β) (x3 : γ) (x4 : δ) (x5 : ε) (x6 : ζ) (x7 : η) (x8 : θ) (x9 : ι) (x10 : κ) (x11 : l1) (x12 : l2) (h : p x1 x2 x3 x4 x5 x6 x7 x8 x9 x10 x11 x12)
inductive A3 (a1 a2 a3 : Prop) : Prop where
  | intro (h1 : a1) (h2 : a2) (h3 : a3)
inductive A4 (a1 a2 a3 a4 : Prop) : Prop where
  | intro (h1 : a1) (h2 : a2) (h3 : a3) (h4 : a4)
inductive A5 (a1 a2 a3 a4 a5 : Prop) : Prop where
  | intro (h1 : a1) (h2 : a2) (h3 : a3) (h4 : a4) (h5 : a5)
inductive A6 (a1 a2 a3 a4 a5 a6 : Prop) : Prop where
  | intro (h1 : a1) (h2 : a2) (h3 : a3) (h4 : a4) (h5 : a5) (h6 : a6)
inductive A7 (a1 a2 a3 a4 a5 a6 a7 : Prop) : Prop where
  | intro (h1 : a1) (h2 : a2) (h3 : a3) (h4 : a4) (h5 : a5) (h6 : a6) (h7 : a7)
inductive A8 (a1 a2 a3 a4 a5 a6 a7 a8 : Prop) : Prop where
  | intro (h1 : a1) (h2 : a2) (h3 : a3) (h4 : a4) (h5 : a5) (h6 : a6) (h7 : a7) (h8 : a8)
inductive A9 (a1 a2 a3 a4 a5 a6 a7 a8 a9 : Prop) : Prop where
  | intro (h1 : a1) (h2 : a2) (h3 : a3) (h4 : a4) (h5 : a5) (h6 : a6) (h7 : a7) (h8 : a8) (h9 : a9)
inductive A11 (a1 a2 a3 a4 a5 a6 a7 a8 a9 a10 a11 : Prop) : Prop where
  | intro (h1 : a1) (h2 : a2) (h3 : a3) (h4 : a4) (h5 : a5) (h6 : a6) (h7 : a7) (h8 : a8) (h9 : a9) (h10 : a10) (h11 : a11)

/-- the entries of a list at the given places, then r -/
noncomputable def nth {α : Type} : List α → Nat → Option α
  | [], _ => none
  | a :: _, 0 => some a
  | _ :: l, n + 1 => nth l n
noncomputable def picks {α : Type} (l : List α) : List Nat → List α → List α
  | [], r => r
  | k :: ks, r => (nth l k).elim (picks l ks r) (· :: picks l ks r)
theorem nth_mem {α : Type} {a : α} : ∀ {l : List α} {n : Nat}, nth l n = some a → a ∈ l
  | [], n, h => nomatch h
  | b :: l, 0, h => by cases h; exact .head _
  | b :: l, n + 1, h => .tail _ (nth_mem (l := l) (n := n) h)
theorem picks_mem {α : Type} {l r : List α} (hr : ∀ q ∈ r, q ∈ l) : ∀ (ks : List Nat), ∀ q ∈ picks l ks r, q ∈ l
  | [], q, h => hr q h
  | k :: ks, q, h => by
    unfold picks at h
    cases e : nth l k with
    | none => rw [e] at h; exact picks_mem hr ks q h
    | some b =>
      rw [e] at h
      rcases List.mem_cons.mp h with rfl | h
      · exact nth_mem e
      · exact picks_mem hr ks q h
/-- a ledger within a ledger, by places: ks, then what stands behind the first k -/
theorem sub_pick {l l' : List (Addr × Obj)} (ks : List Nat) (k : Nat) (h : picks l ks (l.drop k) = l') : ∀ q ∈ l', q ∈ l := by
  subst h
  exact picks_mem (fun q hq => List.mem_of_mem_drop hq) ks
theorem sub_pick0 {l l' : List (Addr × Obj)} (ks : List Nat) (h : picks l ks [] = l') : ∀ q ∈ l', q ∈ l := by
  subst h
  exact picks_mem (fun q hq => absurd hq List.not_mem_nil) ks
theorem pickN0 {h₀ h : Heap} {L : Addr} {l l' : List (Addr × Obj)} (N : News h₀ L h l) (ks : List Nat) (e : picks l ks [] = l') : News h₀ L h l' := fun q hq => N q (sub_pick0 ks e q hq)
theorem pickN {h₀ h : Heap} {L : Addr} {l l' : List (Addr × Obj)} (N : News h₀ L h l) (ks : List Nat) (k : Nat) (e : picks l ks (l.drop k) = l') : News h₀ L h l' := fun q hq => N q (sub_pick ks k e q hq)
/-- the same where parts of the ledgers are closed: by segments -/
noncomputable def joinS {α : Type} : List (List α) → List α
  | [] => []
  | [s] => s
  | s :: t :: r => s ++ joinS (t :: r)
theorem joinS_mem {α : Type} {q : α} : ∀ {r : List (List α)}, q ∈ joinS r → ∃ s ∈ r, q ∈ s
  | [s], h => ⟨s, .head _, h⟩
  | s :: t :: r, h => by
    rcases List.mem_append.mp h with h | h
    · exact ⟨s, .head _, h⟩
    · obtain ⟨x, hx, hq⟩ := joinS_mem h
      exact ⟨x, .tail _ hx, hq⟩
theorem mem_joinS {α : Type} {q : α} {s : List α} (hq : q ∈ s) : ∀ {r : List (List α)}, s ∈ r → q ∈ joinS r
  | [t], h => by
    rw [List.mem_singleton.mp h] at hq
    exact hq
  | t :: u :: r, h => by
    rcases List.mem_cons.mp h with rfl | h
    · exact List.mem_append_left _ hq
    · exact List.mem_append_right _ (mem_joinS hq h)
noncomputable def picksS {α : Type} (l : List (List α)) : List Nat → List (List α)
  | [] => []
  | k :: ks => (nth l k).getD [] :: picksS l ks
theorem picksS_mem {α : Type} {l : List (List α)} {q : α} : ∀ {ks : List Nat} {s : List α}, s ∈ picksS l ks → q ∈ s → ∃ s' ∈ l, q ∈ s'
  | k :: ks, s, h, hq => by
    rcases List.mem_cons.mp h with rfl | h
    · cases e : nth l k with
      | none => rw [e] at hq; exact absurd hq List.not_mem_nil
      | some b => rw [e] at hq; exact ⟨b, nth_mem e, hq⟩
    · exact picksS_mem h hq
theorem sub_segs {l l' : List (Addr × Obj)} (segs : List (List (Addr × Obj))) (ks : List Nat) (h : joinS segs = l) (h' : joinS (picksS segs ks) = l') : ∀ q ∈ l', q ∈ l := by
  subst h
  subst h'
  intro q hq
  obtain ⟨s, hs, hq⟩ := joinS_mem hq
  obtain ⟨s', hs, hq⟩ := picksS_mem hs hq
  exact mem_joinS hq hs
/-- one by one -/
noncomputable def AllP (P : Addr × Obj → Prop) : List (Addr × Obj) → Prop
  | [] => True
  | a :: l => P a ∧ AllP P l
theorem AllP.mem {P : Addr × Obj → Prop} {l : List (Addr × Obj)} (h : AllP P l) : ∀ q ∈ l, P q := by
  induction l with
  | nil => exact fun q hq => absurd hq List.not_mem_nil
  | cons a l ih =>
    intro q hq
    rcases List.mem_cons.mp hq with rfl | hq
    · exact h.1
    · exact ih h.2 q hq
theorem newsP {h₀ h : Heap} {L : Addr} {l : List (Addr × Obj)} (x : AllP (fun q => h.get? q.1 = some q.2 ∧ q.1 ≠ L ∧ h₀.get? q.1 = none) l) : News h₀ L h l := AllP.mem x
theorem keep_one {a : Addr} {h₀ h h' : Heap} {L : Addr} {q : Addr × Obj} (g : Grown [a] h h') (x : h.get? q.1 = some q.2 ∧ q.1 ≠ L ∧ h₀.get? q.1 = none) (hn : q.1 ≠ a) : h'.get? q.1 = some q.2 ∧ q.1 ≠ L ∧ h₀.get? q.1 = none :=
  ⟨g _ _ (fun h => hn (List.mem_singleton.mp h)) x.1, x.2⟩
theorem mem_nth {q : Addr × Obj} {l : List (Addr × Obj)} (n : Nat) (h : nth l n = some q) : q ∈ l := nth_mem h
noncomputable def Hold (P : Prop) : Prop := P
theorem hold_it {P : Prop} (h : Hold P) : P := h
structure Ret (ch : List Addr) (post : Heap → Value → Heap → Prop) (s : Shared) (v : Value) (s' : Shared) : Prop where
  out : ∃ h' tk', s' = { s with heap := h', toks := tk' } ∧ Grown ch s.heap h' ∧ post s.heap v h'

theorem Ret.of {ch : List Addr} {post : Heap → Value → Heap → Prop} {s : Shared} {v : Value} {h' : Heap} {tk' : Nat} (hg : Grown ch s.heap h') (hp : post s.heap v h') : Ret ch post s v { s with heap := h', toks := tk' } := ⟨⟨h', tk', rfl, hg, hp⟩⟩
theorem Ret.ofA {ch : List Addr} {post post9 : Heap → Value → Heap → Prop} {s : Shared} {v : Value} {h' : Heap} {tk' : Nat} (hPost : ∀ h v h', post h v h' → post9 h v h') (hg : Grown ch s.heap h') (hp : post s.heap v h') : Ret ch post9 s v { s with heap := h', toks := tk' } := ⟨⟨h', tk', rfl, hg, hPost _ _ _ hp⟩⟩
/-- what a walk knows of the heap at its call -/
structure Entry (h g : Heap) (L' : Addr) (news : List (Addr × Obj)) : Prop where
  keep : ∀ b o, h.get? b = some o → b ∉ news.map (·.1) → g.get? b = some o
  old : ∀ q ∈ news, h.get? q.1 = some q.2
  size : @LE.le Nat _ h.objs.size L'
theorem Entry.grown {ch : List Addr} {h g h' : Heap} {L' : Addr} {m' : Str → Option Value} {news news' : List (Addr × Obj)} (e : Entry h g L' news) (F : Fr g L' h' m') (N : News g L' h' news') (hs : ∀ q ∈ news, q.1 ∈ ch ∨ q ∈ news') : Grown ch h h' := by
  intro b o n q
  by_cases hb : b ∈ news.map (·.1)
  · obtain ⟨p, hp, rfl⟩ := List.mem_map.mp hb
    rcases hs p hp with h1 | h1
    · exact absurd h1 n
    · rw [e.old p hp] at q; cases q; exact (N p h1).1
  · exact F.keep b o (e.keep b o q hb)
theorem Entry.size_le {h g h' : Heap} {L' : Addr} {m' : Str → Option Value} {news : List (Addr × Obj)} (e : Entry h g L' news) (F : Fr g L' h' m') : h.objs.size ≤ h'.objs.size := Nat.le_trans e.size (Nat.le_of_lt F.ns.lt)
noncomputable abbrev tupObj (vs : List Value) : Obj := { cls := .type "tuple", data := .seq vs.toArray }

/-- what a contract stands on -/
structure Base (w : World) (p : Program) (loose : List Str) (mean : ExcName → Option Value) (mg mb : Str → Option Value) (h : Heap) : Prop where
  X : (Mine.KF w.params).In h
  T : Top p loose mean mg mb h
  c1 : CodeHd h 55 51
  c2 : CodeHd h 48 44
  c3 : CodeHd h 159 157
theorem Base.keeps {w : World} {p : Program} {loose : List Str} {mean : ExcName → Option Value} {mg mb : Str → Option Value} {h h' : Heap} (b : Base w p loose mean mg mb h) (k : ∀ a o, h.get? a = some o → h'.get? a = some o) : Base w p loose mean mg mb h' :=
  ⟨b.X.keeps k, b.T.keeps k, b.c1.keeps k, b.c2.keeps k, b.c3.keeps k⟩

noncomputable def Does (prog : Program) (w : World) (p : Program) (loose : List Str) (mean : ExcName → Option Value) (mg mb : Str → Option Value)
    (f : Addr) (vs : List Value) (dn wn : Nat) (news₀ : List (Addr × Obj)) (pre : Heap → Prop) (ch : List Addr) (post : Heap → Value → Heap → Prop) : Prop :=
  ∀ (dp un : Nat) (gd : Option (List Code)) (cn : Str) (cs : Scope) (a : Addr) (ccd : Value) (cl : List (Str × Addr)) (outer : List Env) (A₀ : PySem.Around) (base h₀ : Heap) (L : Addr) (m : Str → Option Value) (s : Shared)
    (Q E : Value → Shared → Prop),
    Below A₀ base outer h₀ → Fr h₀ L s.heap m → Base w p loose mean mg mb h₀ → cs.kind = .function → News h₀ L s.heap news₀ → pre s.heap → dp + dn < recursionLimit → un + wn < cLine →
    (∀ r h' tk', Grown ch s.heap h' → post s.heap r h' → Q r { s with heap := h', toks := tk' }) →
    wpAny (model prog w) (ktrTop dp un gd cn cs L a ccd cl outer) (call (.ref f) vs) Q E s

section
variable {prog : Program} {w : World} {p : Program} {loose : List Str} {mean : ExcName → Option Value} {mg mb : Str → Option Value}

theorem does_of {f : Addr} {vs : List Value} {dn wn : Nat} {pre : Heap → Prop} {ch : List Addr} {post : Heap → Value → Heap → Prop}
    {name qual : Str} {params : Arguments} {body : List Stmt} {scope : Scope} {dV kV doc pm cdv ct oc : Value} {an od : Option Addr} {osl : Array (Option Value)} {binds : List (Str × Value)}
    {news : List (Addr × Obj)}
    (ho : (Mine.KF w.params).lookup f = some ⟨oc, od, .func (fnOf name qual params body scope dV kV doc pm an cdv ct), osl⟩) (hcd : codeIn (Mine.KF w.params) cdv qual = true)
    (hbind : ∀ s, BindsTo s (fnOf name qual params body scope dV kV doc pm an cdv ct) ⟨vs, []⟩ binds) (hloc : ∀ y ∈ binds, scope.names.lookup y.1 = some .local)
    (hco : scope.isCoroutine = false) (hgen : scope.isGenerator = false) (hk : scope.kind = .function) (hcell : ∀ x ∈ scope.names, x.2 ≠ .cell) (hdn : 0 < dn)
    (walk : ∀ (dp un : Nat) (gd : Option (List Code)) (cn : Str) (cs : Scope) (a : Addr) (ccd : Value) (cl : List (Str × Addr)) (outer : List Env) (A₀ : PySem.Around) (base : Heap) (L : Addr) (s : Shared) (g : Heap) (L' : Addr) (h₁ : Heap),
      Entry s.heap g L' news → pre s.heap →
      Fr g L' h₁ (fun y => binds.reverse.lookup y) → News g L' h₁ news → Below (ktrTop dp un gd cn cs L a ccd cl outer) base (envX cn cs L a ccd cl :: outer) g → Base w p loose mean mg mb g → AllLt L' news →
      dp + dn < recursionLimit → un + wn < cLine → ∀ post9 : Heap → Value → Heap → Prop, (∀ h v h', post h v h' → post9 h v h') →
      wpAny (model prog w) ((ktrTop dp un gd cn cs L a ccd cl outer).deeper (envX qual scope L' f cdv [])) (execs body (envX qual scope L' f cdv []))
        (fun fl s' => Ret ch post9 s (match fl with | .ret v => v | _ => .none) s') (fun _ _ => False) { s with heap := h₁, toks := s.toks + binds.length }) :
    Does prog w p loose mean mg mb f vs dn wn news pre ch post := by
  intro dp un gd cn cs a ccd cl outer A₀ base h₀ L m s Q E B F X hke N hpre hd hu hret
  have X₁ := X.keeps F.keep
  refine wpAny_call ?_
  refine codeAny_call_def (fd := fnOf name qual params body scope dV kV doc pm an cdv ct) (body := body) (binds := binds) (by show dp < recursionLimit; omega) (X₁.X _ _ ho) rfl (X.T.nolimit.keeps F.keep) (codeRec_of X₁.X hcd) rfl (hbind s) hcell hloc (fun h₁ hns hk₁ => ?_) hco hgen hk
  obtain ⟨FG, BG, st, lv⟩ := groundX (R := fun _ _ => True) (A := ktrTop dp un gd cn cs L a ccd cl outer) (env := envX cn cs L a ccd cl) B F N rfl rfl hke
  refine wpAny_mono (walk dp un gd cn cs a ccd cl outer A₀ base L s (hideAll s.heap (news.map (·.1))) s.heap.objs.size h₁ ⟨fun b o e n => hideAll_get _ e n, fun q hq => (N q hq).1, Nat.le_refl _⟩ hpre ⟨hns, fun b o e => hk₁ b o (of_hideAll _ e), Nat.le_of_eq (hideAll_size _ _)⟩
    (fun q hq => ⟨hk₁ _ _ (N q hq).1, Nat.ne_of_lt (Heap.lt_size (N q hq).1), hideAll_none _ (List.mem_map_of_mem hq)⟩) BG (X.keeps fun b o e => st b o e) (allLt_of fun q hq => Heap.lt_size (N q hq).1) hd hu post fun _ _ _ z => z) (fun fl s' hl => ?_) fun _ _ y => y.elim
  obtain ⟨h', tk', rfl, hg, hp⟩ := hl.out
  exact hret _ h' tk' hg hp

theorem does_ofC {f : Addr} {vs : List Value} {dn wn : Nat} {pre : Heap → Prop} {ch : List Addr} {post : Heap → Value → Heap → Prop}
    {name qual : Str} {params : Arguments} {body : List Stmt} {scope : Scope} {dV kV doc pm cdv ct oc : Value} {an od : Option Addr} {osl : Array (Option Value)} {binds : List (Str × Value)}
    {news : List (Addr × Obj)}
    (ho : (Mine.KF w.params).lookup f = some ⟨oc, od, .func (fnOf name qual params body scope dV kV doc pm an cdv ct), osl⟩) (hcd : codeIn (Mine.KF w.params) cdv qual = true)
    (hbind : ∀ s, BindsTo s (fnOf name qual params body scope dV kV doc pm an cdv ct) ⟨vs, []⟩ binds)
    (hkind : (binds.all fun y => scope.names.lookup y.1 == some .local || scope.names.lookup y.1 == some .cell) = true)
    (hnd : ((cellsFrom 0 scope.names []).map (·.1)).Nodup)
    (hco : scope.isCoroutine = false) (hgen : scope.isGenerator = false) (hk : scope.kind = .function) (hdn : 0 < dn)
    (walk : ∀ (dp un : Nat) (gd : Option (List Code)) (cn : Str) (cs : Scope) (a : Addr) (ccd : Value) (cl : List (Str × Addr)) (outer : List Env) (A₀ : PySem.Around) (base : Heap) (L : Addr) (s : Shared) (g : Heap) (L' : Addr) (h₁ : Heap) (tk : Nat) (cells : List (Addr × Obj)),
      Entry s.heap g L' news → pre s.heap →
      Fr g L' h₁ (bindL (envOfC qual scope L' f cdv).kindOf binds fun _ => none) → News g L' h₁ (cells ++ news) →
      CellsAre (bindC (envOfC qual scope L' f cdv).kindOf binds fun _ => none) (cellsFrom (L' + 1) scope.names []) cells →
      Below (ktrTop dp un gd cn cs L a ccd cl outer) base (envX cn cs L a ccd cl :: outer) g → Base w p loose mean mg mb g → AllLt L' news →
      dp + dn < recursionLimit → un + wn < cLine → ∀ post9 : Heap → Value → Heap → Prop, (∀ h v h', post h v h' → post9 h v h') →
      wpAny (model prog w) ((ktrTop dp un gd cn cs L a ccd cl outer).deeper (envOfC qual scope L' f cdv)) (execs body (envOfC qual scope L' f cdv))
        (fun fl s' => Ret ch post9 s (match fl with | .ret v => v | _ => .none) s') (fun _ _ => False) { s with heap := h₁, toks := tk }) :
    Does prog w p loose mean mg mb f vs dn wn news pre ch post := by
  intro dp un gd cn cs a ccd cl outer A₀ base h₀ L m s Q E B F X hke N hpre hd hu hret
  have X₁ := X.keeps F.keep
  refine wpAny_call ?_
  obtain ⟨FG, BG, st, lv⟩ := groundX (R := fun _ _ => True) (A := ktrTop dp un gd cn cs L a ccd cl outer) (env := envX cn cs L a ccd cl) B F N rfl rfl hke
  refine codeAny_call_function (by show dp < recursionLimit; omega) (X₁.X _ _ ho) rfl hco hgen rfl (codeRec_of X₁.X hcd) (hbind s _ _ _ _ ?_)
  refine wpAny_newFunctionEnv_cells hk (kindsX hkind _) fun env' he s' x => ?_
  subst he
  refine ⟨(X.T.nolimit.keeps F.keep).keeps x.toInCall.keep, codeAny_func ?_⟩
  obtain ⟨h₁, tk, rfl, _⟩ := x.done
  have hk₁ := x.toInCall.keep
  obtain ⟨cells, NC, Y⟩ := Cl.news (h₀ := s.heap) (Nat.le_refl _) fun n c hm => ⟨x.cell n c (lookup_of_mem_nodup (cellsFrom_names scope.names 0 (s.heap.objs.size + 1) [] [] rfl ▸ hnd) hm), x.above n c hm⟩
  refine wpAny_mono (walk dp un gd cn cs a ccd cl outer A₀ base L s (hideAll s.heap (news.map (·.1))) s.heap.objs.size h₁ tk cells ⟨fun b o e n => hideAll_get _ e n, fun q hq => (N q hq).1, Nat.le_refl _⟩ hpre ⟨x.toInCall.ns, fun b o e => hk₁ b o (of_hideAll _ e), Nat.le_of_eq (hideAll_size _ _)⟩
    (fun q hq => ?_) Y BG (X.keeps fun b o e => st b o e) (allLt_of fun q hq => Heap.lt_size (N q hq).1) hd hu post fun _ _ _ z => z) (fun fl s' hl => ?_) fun _ _ y => y.elim
  · rcases List.mem_append.mp hq with hq | hq
    · refine ⟨(NC q hq).1, (NC q hq).2.1, ?_⟩
      cases e : (hideAll s.heap (news.map (·.1))).get? q.1 with
      | none => rfl
      | some o => have := of_hideAll _ e; rw [(NC q hq).2.2] at this; cases this
    · exact ⟨hk₁ _ _ (N q hq).1, Nat.ne_of_lt (Heap.lt_size (N q hq).1), hideAll_none _ (List.mem_map_of_mem hq)⟩
  · obtain ⟨h', tk', rfl, hg, hp⟩ := hl.out
    exact hret _ h' tk' hg hp

/-- the same for a function object that a call has made -/
theorem does_ofF {f : Addr} {vs : List Value} {dn wn : Nat} {pre : Heap → Prop} {ch : List Addr} {post : Heap → Value → Heap → Prop}
    {name qual : Str} {params : Arguments} {body : List Stmt} {scope : Scope} {clos : List (Str × Addr)} {doc pm ctv : Value} {c' : Addr} {binds : List (Str × Value)}
    {news : List (Addr × Obj)}
    (ho : (f, fnMade name qual params body scope clos doc pm c' ctv) ∈ news) (hcd : ∀ h, pre h → h.CodeRec (.ref c') qual)
    (hbind : ∀ s, BindsTo s (fnX name qual params body scope clos .none .none doc pm none (.ref c') ctv) ⟨vs, []⟩ binds) (hloc : ∀ y ∈ binds, scope.names.lookup y.1 = some .local)
    (hco : scope.isCoroutine = false) (hgen : scope.isGenerator = false) (hk : scope.kind = .function) (hcell : ∀ x ∈ scope.names, x.2 ≠ .cell) (hdn : 0 < dn)
    (walk : ∀ (dp un : Nat) (gd : Option (List Code)) (cn : Str) (cs : Scope) (a : Addr) (ccd : Value) (cl : List (Str × Addr)) (outer : List Env) (A₀ : PySem.Around) (base : Heap) (L : Addr) (s : Shared) (g : Heap) (L' : Addr) (h₁ : Heap),
      Entry s.heap g L' news → pre s.heap →
      Fr g L' h₁ (fun y => binds.reverse.lookup y) → News g L' h₁ news → Below (ktrTop dp un gd cn cs L a ccd cl outer) base (envX cn cs L a ccd cl :: outer) g → Base w p loose mean mg mb g → AllLt L' news →
      dp + dn < recursionLimit → un + wn < cLine → ∀ post9 : Heap → Value → Heap → Prop, (∀ h v h', post h v h' → post9 h v h') →
      wpAny (model prog w) ((ktrTop dp un gd cn cs L a ccd cl outer).deeper (envX qual scope L' f (.ref c') clos)) (execs body (envX qual scope L' f (.ref c') clos))
        (fun fl s' => Ret ch post9 s (match fl with | .ret v => v | _ => .none) s') (fun _ _ => False) { s with heap := h₁, toks := s.toks + binds.length }) :
    Does prog w p loose mean mg mb f vs dn wn news pre ch post := by
  intro dp un gd cn cs a ccd cl outer A₀ base h₀ L m s Q E B F X hke N hpre hd hu hret
  have X₁ := X.keeps F.keep
  refine wpAny_call ?_
  refine codeAny_call_def (fd := fnX name qual params body scope clos .none .none doc pm none (.ref c') ctv) (body := body) (binds := binds) (by show dp < recursionLimit; omega) (N _ ho).1 rfl (X.T.nolimit.keeps F.keep) (hcd _ hpre) rfl (hbind s) hcell hloc (fun h₁ hns hk₁ => ?_) hco hgen hk
  obtain ⟨FG, BG, st, lv⟩ := groundX (R := fun _ _ => True) (A := ktrTop dp un gd cn cs L a ccd cl outer) (env := envX cn cs L a ccd cl) B F N rfl rfl hke
  refine wpAny_mono (walk dp un gd cn cs a ccd cl outer A₀ base L s (hideAll s.heap (news.map (·.1))) s.heap.objs.size h₁ ⟨fun b o e n => hideAll_get _ e n, fun q hq => (N q hq).1, Nat.le_refl _⟩ hpre ⟨hns, fun b o e => hk₁ b o (of_hideAll _ e), Nat.le_of_eq (hideAll_size _ _)⟩
    (fun q hq => ⟨hk₁ _ _ (N q hq).1, Nat.ne_of_lt (Heap.lt_size (N q hq).1), hideAll_none _ (List.mem_map_of_mem hq)⟩) BG (X.keeps fun b o e => st b o e) (allLt_of fun q hq => Heap.lt_size (N q hq).1) hd hu post fun _ _ _ z => z) (fun fl s' hl => ?_) fun _ _ y => y.elim
  obtain ⟨h', tk', rfl, hg, hp⟩ := hl.out
  exact hret _ h' tk' hg hp

/-- at a call: the contract for the step -/
theorem Does.use {f : Addr} {vs : List Value} {dn wn : Nat} {news₀ : List (Addr × Obj)} {pre : Heap → Prop} {ch : List Addr} {post : Heap → Value → Heap → Prop}
    {dp un : Nat} {gd : Option (List Code)} {cn : Str} {cs : Scope} {a : Addr} {ccd : Value} {cl : List (Str × Addr)} {outer : List Env} {A₀ : PySem.Around} {base h₀ : Heap} {L : Addr} {m : Str → Option Value} {s : Shared} {news : List (Addr × Obj)}
    {Q E : Value → Shared → Prop} (C : Does prog w p loose mean mg mb f vs dn wn news₀ pre ch post)
    (B : Below A₀ base outer h₀) (F : Fr h₀ L s.heap m) (N : News h₀ L s.heap news) (X : (Mine.KF w.params).In h₀) (T : Top p loose mean mg mb h₀) (c1 : CodeHd h₀ 55 51) (c2 : CodeHd h₀ 48 44) (c3 : CodeHd h₀ 159 157)
    (hke : cs.kind = .function) (hn : ∀ q ∈ news₀, q ∈ news) (hpre : pre s.heap) (hd : dp + dn < recursionLimit) (hu : un + wn < cLine)
    (ret : ∀ r h' tk', Grown ch s.heap h' → post s.heap r h' → Q r { s with heap := h', toks := tk' }) :
    wpAny (model prog w) (ktrTop dp un gd cn cs L a ccd cl outer) (call (.ref f) vs) Q E s :=
  C dp un gd cn cs a ccd cl outer A₀ base h₀ L m s Q E B F ⟨X, T, c1, c2, c3⟩ hke (fun q hq => N q (hn q hq)) hpre hd hu ret

/-- the facts behind a call that changed nothing of the ledger -/
theorem Grown.fr {ch : List Addr} {h₀ h h' : Heap} {L : Addr} {m : Str → Option Value} (g : Grown ch h h') (F : Fr h₀ L h m) (hc : ∀ c ∈ ch, h₀.get? c = none ∧ c ≠ L) : Fr h₀ L h' m :=
  ⟨F.ns.at' fun o e => g _ o (fun q => (hc _ q).2 rfl) e, fun b o e => g b o (fun q => by rw [(hc _ q).1] at e; cases e) (F.keep b o e), F.above⟩
theorem Grown.fr1 {a : Addr} {h₀ h h' : Heap} {L : Addr} {m : Str → Option Value} (g : Grown [a] h h') (F : Fr h₀ L h m) (x : a ≠ L ∧ h₀.get? a = none) : Fr h₀ L h' m :=
  g.fr F fun c hc => by rw [List.mem_singleton.mp hc]; exact ⟨x.2, x.1⟩
theorem Grown.fr2 {a b : Addr} {h₀ h h' : Heap} {L : Addr} {m : Str → Option Value} (g : Grown [a, b] h h') (F : Fr h₀ L h m) (x : a ≠ L ∧ h₀.get? a = none) (y : b ≠ L ∧ h₀.get? b = none) : Fr h₀ L h' m :=
  g.fr F fun c hc => by
    rcases List.mem_cons.mp hc with rfl | hc
    · exact ⟨x.2, x.1⟩
    · rw [List.mem_singleton.mp hc]; exact ⟨y.2, y.1⟩
theorem Grown.news {ch : List Addr} {h₀ h h' : Heap} {L : Addr} {news : List (Addr × Obj)} (g : Grown ch h h') (N : News h₀ L h news) (hc : ∀ q ∈ news, q.1 ∉ ch) : News h₀ L h' news :=
  fun q hq => ⟨g _ _ (hc q hq) (N q hq).1, (N q hq).2⟩
theorem news_add {h₀ h h' : Heap} {L : Addr} {m : Str → Option Value} {news : List (Addr × Obj)} (F : Fr h₀ L h m) (N : News h₀ L h' news) {q : Addr} {o : Obj} (hq : h.objs.size ≤ q) (ho : h'.get? q = some o) : News h₀ L h' ((q, o) :: news) := by
  intro p hp
  rcases List.mem_cons.mp hp with rfl | hp
  · refine ⟨ho, fun e => ?_, ?_⟩
    · exact absurd (Nat.lt_of_lt_of_le F.ns.lt hq) (by rw [show q = L from e]; exact Nat.lt_irrefl _)
    · cases e : h₀.get? q with
      | none => rfl
      | some x => exact absurd (Heap.lt_size (F.keep _ _ e)) (Nat.not_lt.mpr hq)
  · exact N p hp
theorem news_lt {h₀ h : Heap} {L q : Addr} {news : List (Addr × Obj)} (N : News h₀ L h news) (hq : h.objs.size ≤ q) : AllLt q news := allLt_of fun p hp => Nat.lt_of_lt_of_le (Heap.lt_size (N p hp).1) hq
theorem fresh_of {h₀ h : Heap} {L : Addr} {m : Str → Option Value} (F : Fr h₀ L h m) {q : Addr} (hq : h.objs.size ≤ q) : h₀.get? q = none ∧ q ≠ L := by
  constructor
  · cases e : h₀.get? q with
      | none => rfl
      | some x => exact absurd (Heap.lt_size (F.keep _ _ e)) (Nat.not_lt.mpr hq)
  · intro e
    exact absurd (Nat.lt_of_lt_of_le F.ns.lt hq) (by rw [show q = L from e]; exact Nat.lt_irrefl _)
theorem news_turn {h₀ h h' : Heap} {L D : Addr} {o o' : Obj} {l r : List (Addr × Obj)} (g : Grown [D] h h') (N : News h₀ L h (l ++ (D, o) :: r)) (hl : ∀ q ∈ l ++ r, q.1 ≠ D) (ho : h'.get? D = some o') : News h₀ L h' (l ++ (D, o') :: r) := by
  intro q hq
  rcases List.mem_append.mp hq with hq | hq
  · have z := N q (List.mem_append_left _ hq)
    exact ⟨g _ _ (fun e => hl q (List.mem_append_left _ hq) (List.mem_singleton.mp e)) z.1, z.2⟩
  · rcases List.mem_cons.mp hq with rfl | hq
    · exact ⟨ho, (N (D, o) (List.mem_append_right _ (.head _))).2⟩
    · have z := N q (List.mem_append_right _ (.tail _ hq))
      exact ⟨g _ _ (fun e => hl q (List.mem_append_right _ hq) (List.mem_singleton.mp e)) z.1, z.2⟩
theorem codeRec_grown {h h' : Heap} {D : Addr} {its : Array Value} {e : Nat} {cd : Value} {q : Str} (x : h.CodeRec cd q) (g : Grown [D] h h') (hD : h.get? D = some (W.listOf its e)) : h'.CodeRec cd q := by
  obtain ⟨c, o, vs, t, e1, e2, e3, e4⟩ := x
  refine ⟨c, o, vs, t, e1, g _ _ (fun hm => ?_) e2, e3, e4⟩
  rw [List.mem_singleton.mp hm, hD] at e2
  cases e2
  cases e3
/-- a table of places that a def's own defs have been made from: empty, or with one entry -/
noncomputable def Tab1 (P : Addr) (l c : Int) (q : Str) (h : Heap) : Prop := ∃ k, h.get? P = some (tabObj #[rawInt l, rawInt c, .ref k]) ∧ h.CodeRec (.ref k) q
end
end Mine
end

section
open PySem PySem.W PyProof.Rows PySem.Calls PySem.Spec
namespace Mine
theorem mid_eq (l m : Nat) : ((l : Int) + ((l : Int) + (m : Int))).fdiv (2 ^ Int.toNat 1) = (l : Int) + ((m / 2 : Nat) : Int) := by
  have : (2 : Int) ^ Int.toNat 1 = 2 := rfl
  rw [this, Int.fdiv_eq_ediv_of_nonneg _ (by omega)]
  omega
theorem and_low (x k : Nat) : x &&& ((x / 2 ^ k) * 2 ^ k) = (x / 2 ^ k) * 2 ^ k := by
  apply Nat.eq_of_testBit_eq
  intro i
  rw [Nat.testBit_and, Nat.testBit_mul_two_pow, Nat.testBit_div_two_pow]
  by_cases h : k ≤ i
  · have e : i - k + k = i := by omega
    simp [h, e]
  · simp [h]
theorem fdiv_pow (x : Int) (k : Nat) (h : 0 ≤ x) : x.fdiv (2 ^ k) = ((x.toNat / 2 ^ k : Nat) : Int) := by
  rw [Int.fdiv_eq_ediv_of_nonneg _ (Int.le_of_lt (Int.pow_pos (by decide)))]
  obtain ⟨n, rfl⟩ := Int.eq_ofNat_of_zero_le h
  rw [Int.toNat_natCast]
  norm_cast
theorem xor_low (x : Int) (k : Nat) (h : 0 ≤ x) : Builtin.bitXor x (x.fdiv (2 ^ k) * 2 ^ k) = x - x.fdiv (2 ^ k) * 2 ^ k := by
  rw [bitXor_and]
  have e : x.fdiv (2 ^ k) * 2 ^ k = (((x.toNat / 2 ^ k) * 2 ^ k : Nat) : Int) := by rw [fdiv_pow x k h]; norm_cast
  have ha : Builtin.bitAnd x (x.fdiv (2 ^ k) * 2 ^ k) = x.fdiv (2 ^ k) * 2 ^ k := by
    rw [e]
    unfold Builtin.bitAnd
    simp only [h, decide_true, Int.natCast_nonneg, Int.toNat_natCast]
    rw [and_low]
  rw [ha]
  omega
/-- little-endian digits by 2 ^ n -/
noncomputable def dval (n : Nat) : List Int → Int
  | [] => 0
  | d :: r => d + 2 ^ n * dval n r
theorem dval_append (n : Nat) (a b : List Int) : dval n (a ++ b) = dval n a + 2 ^ (n * a.length) * dval n b := by
  induction a with
  | nil => simp [dval]
  | cons d r ih =>
    simp only [List.cons_append, dval, ih, List.length_cons]
    rw [Nat.mul_succ, Int.pow_add, Int.mul_add, Int.add_assoc, ← Int.mul_assoc, Int.mul_comm (2 ^ n) (2 ^ (n * r.length))]
/-- the two halves of a number, and their digits -/
theorem split_low (x : Int) (k : Nat) (h : 0 ≤ x) : 0 ≤ x - x.fdiv (2 ^ k) * 2 ^ k ∧ x - x.fdiv (2 ^ k) * 2 ^ k ≤ x ∧ 0 ≤ x.fdiv (2 ^ k) ∧ x.fdiv (2 ^ k) ≤ x := by
  rw [fdiv_pow x k h]
  have p : 0 < 2 ^ k := Nat.pow_pos (by decide)
  have h1 := Nat.div_add_mod x.toNat (2 ^ k)
  have h2 : x.toNat / 2 ^ k ≤ x.toNat := Nat.div_le_self _ _
  have h3 : ((x.toNat / 2 ^ k : Nat) : Int) * 2 ^ k = ((2 ^ k * (x.toNat / 2 ^ k) : Nat) : Int) := by rw [Nat.mul_comm]; norm_cast
  rw [h3]
  generalize 2 ^ k * (x.toNat / 2 ^ k) = y at *
  generalize x.toNat / 2 ^ k = z at *
  omega
theorem set_take (ns : List Int) (l : Nat) (x : Int) (h : l < ns.length) : ns.set l x = ns.take l ++ [x] ++ ns.drop (l + 1) := by
  rw [List.set_eq_take_append_cons_drop, if_pos h]
  simp
theorem join_two (ns d1 d2 : List Int) (l j m : Nat) (hj : j ≤ m) (h : l + m ≤ ns.length) (h1 : d1.length = j) :
    (ns.take l ++ d1 ++ ns.drop (l + j)).take (l + j) ++ d2 ++ (ns.take l ++ d1 ++ ns.drop (l + j)).drop (l + j + (m - j)) = ns.take l ++ (d1 ++ d2) ++ ns.drop (l + m) := by
  have hl : (ns.take l ++ d1).length = l + j := by rw [List.length_append, List.length_take, h1]; omega
  rw [List.take_append_of_le_length (by omega), List.take_of_length_le (by omega)]
  have e : (ns.take l ++ d1 ++ ns.drop (l + j)).drop (l + j + (m - j)) = ns.drop (l + m) := by
    rw [List.drop_append, List.drop_of_length_le (by omega), hl, List.drop_drop, List.nil_append]
    congr 1
    omega
  rw [e]
  simp
theorem dval_split (n : Nat) (x : Int) (d1 d2 : List Int) (h1 : dval n d1 = x - x.fdiv (2 ^ (d1.length * n)) * 2 ^ (d1.length * n)) (h2 : dval n d2 = x.fdiv (2 ^ (d1.length * n))) : dval n (d1 ++ d2) = x := by
  rw [dval_append, h1, h2, Nat.mul_comm n, Int.mul_comm (2 ^ _) (x.fdiv _)]
  omega
theorem dval_nonneg (n : Nat) : ∀ (ds : List Int), (∀ y ∈ ds, 0 ≤ y) → 0 ≤ dval n ds
  | [], _ => Int.le_refl _
  | d :: r, h => by
    have h1 := dval_nonneg n r fun y hy => h y (.tail _ hy)
    have h2 := h d (.head _)
    have h3 : 0 ≤ 2 ^ n * dval n r := Int.mul_nonneg (Int.le_of_lt (Int.pow_pos (by decide))) h1
    show 0 ≤ d + 2 ^ n * dval n r
    omega
theorem le_pow_mul (k : Nat) (x : Int) (h : 0 ≤ x) : x ≤ 2 ^ k * x := by
  have h1 : (1 : Int) ≤ 2 ^ k := Int.pow_pos (by decide)
  have h2 := Int.mul_le_mul_of_nonneg_right h1 h
  rw [Int.one_mul] at h2
  exact h2
theorem dval_seg (n : Nat) (ds : List Int) (l m : Nat) (h : ∀ y ∈ ds, 0 ≤ y) : 0 ≤ dval n ((ds.drop l).take m) ∧ dval n ((ds.drop l).take m) ≤ dval n ds := by
  have e1 : ds = ds.take l ++ ((ds.drop l).take m ++ (ds.drop l).drop m) := by rw [List.take_append_drop, List.take_append_drop]
  have sub1 : ∀ y ∈ ds.take l, 0 ≤ y := fun y hy => h y (List.mem_of_mem_take hy)
  have sub2 : ∀ y ∈ (ds.drop l).take m, 0 ≤ y := fun y hy => h y (List.mem_of_mem_drop (List.mem_of_mem_take hy))
  have sub3 : ∀ y ∈ (ds.drop l).drop m, 0 ≤ y := fun y hy => h y (List.mem_of_mem_drop (List.mem_of_mem_drop hy))
  have e2 := congrArg (dval n) e1
  rw [dval_append, dval_append] at e2
  have n1 := dval_nonneg n _ sub1
  have n2 := dval_nonneg n _ sub2
  have n3 := dval_nonneg n _ sub3
  generalize dval n (ds.take l) = A at *
  generalize dval n ((ds.drop l).take m) = B at *
  have n6 : (0 : Int) ≤ 2 ^ (n * ((ds.drop l).take m).length) := Int.le_of_lt (Int.pow_pos (by decide))
  have n4 := Int.mul_nonneg n6 n3
  generalize 2 ^ (n * ((ds.drop l).take m).length) * dval n ((ds.drop l).drop m) = C at *
  have n5 := le_pow_mul (n * (ds.take l).length) (B + C) (by omega)
  refine ⟨n2, ?_⟩
  rw [e2]
  omega
theorem seg_split (ds : List Int) (l j m : Nat) (hj : j ≤ m) : (ds.drop l).take m = (ds.drop l).take j ++ (ds.drop (l + j)).take (m - j) := by
  have e : m = j + (m - j) := by omega
  rw [← List.drop_drop, ← List.take_add, ← e]
theorem seg_one (ds : List Int) (l : Nat) (h : l < ds.length) : (ds.drop l).take 1 = [ds.getD l 0] := by
  rw [List.drop_eq_getElem_cons h, List.take_succ_cons, List.take_zero, List.getD_eq_getElem?_getD, List.getElem?_eq_getElem h]
  rfl
theorem dval_one (n : Nat) (ds : List Int) (l : Nat) (h : l < ds.length) : dval n ((ds.drop l).take 1) = ds.getD l 0 := by
  rw [seg_one ds l h]
  simp [dval]
theorem dval_halves (n : Nat) (ds : List Int) (l j m : Nat) (hj : j ≤ m) (h : l + m ≤ ds.length) :
    dval n ((ds.drop (l + j)).take (m - j)) * 2 ^ (j * n) + dval n ((ds.drop l).take j) = dval n ((ds.drop l).take m) := by
  rw [seg_split ds l j m hj, dval_append]
  have e : ((ds.drop l).take j).length = j := by rw [List.length_take, List.length_drop]; omega
  rw [e, Nat.mul_comm n j, Int.mul_comm]
  omega
theorem bits_pos {x : Int} (h : x ≠ 0) : 0 < Builtin.Int.intBits x := by
  rcases Nat.eq_zero_or_pos (Builtin.Int.intBits x) with e | e
  · have := (intBits_le_iff (m := 0) (x := x)).mp (by omega)
    omega
  · exact e
theorem bits_div (b n : Nat) (h : 0 < n) : ((b : Int) + (n : Int) - 1).fdiv (n : Int) = (((b + n - 1) / n : Nat) : Int) := by
  rw [Int.fdiv_eq_ediv_of_nonneg _ (by omega)]
  have e : (b : Int) + (n : Int) - 1 = ((b + n - 1 : Nat) : Int) := by omega
  rw [e]
  norm_cast
theorem bits_div_le (b n : Nat) (h : 0 < n) : (b + n - 1) / n ≤ b := by
  rw [Nat.div_le_iff_le_mul_add_pred h]
  have : b ≤ n * b := Nat.le_mul_of_pos_left _ h
  omega
theorem bits_div_pos (b n : Nat) (h : 0 < n) (hb : 0 < b) : 0 < (b + n - 1) / n := Nat.div_pos (by omega) h
theorem bits_div_zero (n : Nat) (h : 0 < n) : (Builtin.Int.intBits 0 + n - 1) / n = 0 := by
  have : Builtin.Int.intBits 0 = 0 := by decide
  rw [this]
  exact Nat.div_eq_of_lt (by omega)
theorem ints_rev {vs : List Value} {ns : List Int} (hi : IntsAre vs ns) {i : Nat} {v : Value} (h : vs.reverse[i]? = some v) (hl : i < vs.length) : ∃ n t, v = .int n t ∧ ns[ns.length - 1 - i]? = some n := by
  rw [List.getElem?_reverse hl] at h
  obtain ⟨n, t, e, hn⟩ := hi.at _ v h
  rw [hi.length] at hn
  exact ⟨n, t, e, hn⟩
theorem div_step (n : Nat) (ds : List Int) (i : Nat) (d b r : Int) (qs : List Int) (hb : 0 < b) (hlt : i < ds.length) (hd : ds[ds.length - 1 - i]? = some d) (hd0 : 0 ≤ d) (hr : 0 ≤ r)
    (h4 : dval n qs.reverse * b + r = dval n (ds.drop (ds.length - i))) :
    dval n (qs ++ [(r * 2 ^ n + d).fdiv b]).reverse * b + (r * 2 ^ n + d).fmod b = dval n (ds.drop (ds.length - (i + 1))) ∧ 0 ≤ (r * 2 ^ n + d).fdiv b ∧ 0 ≤ (r * 2 ^ n + d).fmod b ∧ (r * 2 ^ n + d).fmod b < b := by
  have hx : 0 ≤ r * 2 ^ n + d := Int.add_nonneg (Int.mul_nonneg hr (Int.le_of_lt (Int.pow_pos (by decide)))) hd0
  have e1 : (r * 2 ^ n + d).fmod b = (r * 2 ^ n + d) % b := Int.fmod_eq_emod_of_nonneg _ (Int.le_of_lt hb)
  have e2 : (r * 2 ^ n + d).fdiv b = (r * 2 ^ n + d) / b := Int.fdiv_eq_ediv_of_nonneg _ (Int.le_of_lt hb)
  rw [e1, e2]
  refine ⟨?_, Int.ediv_nonneg hx (Int.le_of_lt hb), Int.emod_nonneg _ (by omega), Int.emod_lt_of_pos _ hb⟩
  have e3 : ds.drop (ds.length - (i + 1)) = d :: ds.drop (ds.length - i) := by
    have hlt' : ds.length - (i + 1) < ds.length := by omega
    rw [List.drop_eq_getElem_cons hlt']
    have e4 : ds.length - (i + 1) + 1 = ds.length - i := by omega
    have e5 : ds.length - 1 - i = ds.length - (i + 1) := by omega
    rw [e5, List.getElem?_eq_getElem hlt'] at hd
    rw [e4, Option.some.inj hd]
  rw [e3, List.reverse_append, List.reverse_singleton, List.singleton_append]
  show ((r * 2 ^ n + d) / b + 2 ^ n * dval n qs.reverse) * b + _ = d + 2 ^ n * dval n (ds.drop (ds.length - i))
  rw [← h4, Int.add_mul, Int.mul_add, Int.mul_assoc, Int.mul_comm r]
  have e6 := Int.mul_ediv_add_emod (2 ^ n * r + d) b
  rw [Int.mul_comm b] at e6
  generalize 2 ^ n * (dval n qs.reverse * b) = X at *
  generalize (2 ^ n * r + d) / b * b = Y at *
  omega
theorem div_size (r d : Int) (n : Nat) (hn : n ≤ 30) (hr : r.natAbs < 1073741824) (hd : d.natAbs < 1073741824) : (Builtin.Int.intBits (r * 2 ^ n + d) : Int) - n ≤ 4000 := by
  have h1 : (r * 2 ^ n + d).natAbs < 2 ^ 64 := by
    have h2 : (2 : Nat) ^ n ≤ 2 ^ 30 := Nat.pow_le_pow_right (by decide) hn
    have h3 : (r * 2 ^ n).natAbs = r.natAbs * 2 ^ n := by rw [Int.natAbs_mul, Int.natAbs_pow]; rfl
    have h4 := Nat.mul_le_mul (Nat.le_of_lt hr) h2
    have h5 := Int.natAbs_add_le (r * 2 ^ n) d
    rw [h3] at h5
    omega
  have := intBits_le_iff.mpr h1
  omega
theorem div_end (n : Nat) (ds qs : List Int) (b r : Int) (hb : 0 < b) (hr : 0 ≤ r) (hr1 : r < b) (h : dval n qs.reverse * b + r = dval n (ds.drop (ds.length - ds.length))) : dval n qs.reverse = (dval n ds).fdiv b ∧ r = (dval n ds).fmod b := by
  rw [Nat.sub_self, List.drop_zero] at h
  rw [← h, Int.fdiv_eq_ediv_of_nonneg _ (Int.le_of_lt hb), Int.fmod_eq_emod_of_nonneg _ (Int.le_of_lt hb)]
  constructor
  · rw [Int.add_comm, Int.add_mul_ediv_right _ _ (by omega), Int.ediv_eq_zero_of_lt hr hr1, Int.zero_add]
  · rw [Int.add_comm, Int.add_mul_emod_self_right, Int.emod_eq_of_lt hr hr1]
theorem ints_reverse {vs : List Value} {ns : List Int} (x : IntsAre vs ns) : IntsAre vs.reverse ns.reverse := by
  induction x with
  | nil => exact .nil
  | cons i t h ih =>
    rw [List.reverse_cons, List.reverse_cons]
    exact IntsAre.append ih (.cons i t .nil)
theorem get_two {α β : Type} {R : α → β → Prop} {v : α} {a : β} {vs : List α} {as : List β} (t : R v a) (ih : ∀ {i : Nat} {v}, vs[i]? = some v → ∃ a, as[i]? = some a ∧ R v a) : ∀ {i : Nat} {w}, (v :: vs)[i]? = some w → ∃ b, (a :: as)[i]? = some b ∧ R w b := by
  intro i w e
  cases i with
  | zero => exact ⟨a, rfl, Option.some.inj e ▸ t⟩
  | succ i => exact ih e
end Mine
end

section
open PySem PySem.W PyProof.Rows PySem.Calls PySem.Spec
set_option maxRecDepth 100000
namespace Mine
/-- no entry stands at I -/
noncomputable def AllNe (d : Addr) : List (Addr × Obj) → Prop
  | [] => True
  | p :: r => @Ne Nat p.1 d ∧ AllNe d r
theorem AllNe.at {d : Addr} {l : List (Addr × Obj)} (h : AllNe d l) : ∀ p ∈ l, p.1 ≠ d := by
  induction l with
  | nil => exact fun p hp => nomatch hp
  | cons q r ih =>
    intro p hp
    rcases List.mem_cons.mp hp with rfl | hp
    · exact h.1
    · exact ih h.2 p hp
theorem AllNe.of {d : Addr} : ∀ {l : List (Addr × Obj)}, (∀ p ∈ l, p.1 ≠ d) → AllNe d l
  | [], _ => trivial
  | p :: _, h => ⟨h p (.head _), AllNe.of fun q hq => h q (.tail _ hq)⟩
theorem AllNe.lt {d : Addr} : ∀ {l : List (Addr × Obj)}, AllLt d l → AllNe d l
  | [], _ => trivial
  | _ :: _, h => ⟨Nat.ne_of_lt h.1, AllNe.lt h.2⟩

noncomputable def TurnJ (h₀ : Heap) (L I : Addr) (it : Obj) (Jn : (Str → Option Value) → List (Addr × Obj) → Prop) (s₁ : Shared) (Q : Flow → Shared → Prop) (f : Flow) (s₂ : Shared) : Prop :=
  match f with
  | .ret v => Q (.ret v) s₂
  | .brk => Q .next s₂
  | _ => ∃ h' tk m' news', s₂ = { s₁ with heap := h', toks := tk } ∧ Fr h₀ L h' m' ∧ News h₀ L h' ((I, it) :: news') ∧ AllNe I news' ∧ Jn m' news'
theorem TurnJ.next {h₀ h' : Heap} {L I : Addr} {it : Obj} {Jn : (Str → Option Value) → List (Addr × Obj) → Prop} {s₁ : Shared} {Q : Flow → Shared → Prop} {tk : Nat} {m' : Str → Option Value} {news news' : List (Addr × Obj)}
    (F : Fr h₀ L h' m') (N : News h₀ L h' news) (hi : (I, it) ∈ news) (hs : ∀ p ∈ news', p ∈ news) (hn : AllNe I news') (hJ : Jn m' news') : TurnJ h₀ L I it Jn s₁ Q .next { s₁ with heap := h', toks := tk } :=
  ⟨h', tk, m', news', rfl, F, fun p hp => (List.mem_cons.mp hp).elim (fun e => e ▸ N _ hi) fun e => N _ (hs p e), hn, hJ⟩
theorem TurnJ.nextA {h₀ h' : Heap} {L I : Addr} {it : Obj} {Jn K : (Str → Option Value) → List (Addr × Obj) → Prop} {s₁ : Shared} {Q : Flow → Shared → Prop} {tk : Nat} {m' : Str → Option Value} {news news' : List (Addr × Obj)} (hK : ∀ m n, Jn m n → K m n)
    (F : Fr h₀ L h' m') (N : News h₀ L h' news) (hi : (I, it) ∈ news) (hs : ∀ p ∈ news', p ∈ news) (hn : AllNe I news') (hJ : Jn m' news') : TurnJ h₀ L I it K s₁ Q .next { s₁ with heap := h', toks := tk } :=
  ⟨h', tk, m', news', rfl, F, fun p hp => (List.mem_cons.mp hp).elim (fun e => e ▸ N _ hi) fun e => N _ (hs p e), hn, hK _ _ hJ⟩
/-- a map that is known at some names -/
noncomputable def at_ (m : Str → Option Value) : List (Str × Value) → (Str → Option Value)
  | [] => m
  | (a, u) :: r => fun y => if y = a then some u else at_ m r y
noncomputable def Knows (m : Str → Option Value) : List (Str × Value) → Prop
  | [] => True
  | (a, u) :: r => m a = some u ∧ Knows m r
theorem Knows.eq {m : Str → Option Value} : ∀ {l : List (Str × Value)}, Knows m l → m = at_ m l
  | [], _ => rfl
  | (a, u) :: r, h => by
    funext y
    show m y = if y = a then some u else at_ m r y
    by_cases e : y = a
    · rw [if_pos e, e, h.1]
    · rw [if_neg e, ← Knows.eq h.2]
theorem Fr.knows {h₀ h : Heap} {L : Addr} {m : Str → Option Value} {x : Str} {v : Value} (F : Fr h₀ L h (fun y => if y = x then some v else m y)) {l : List (Str × Value)} (k : Knows m l) : Fr h₀ L h (fun y => if y = x then some v else at_ m l y) := by
  rw [← Knows.eq k]; exact F
theorem Fr.knows0 {h₀ h : Heap} {L : Addr} {m : Str → Option Value} (F : Fr h₀ L h m) {l : List (Str × Value)} (k : Knows m l) : Fr h₀ L h (at_ m l) := by
  rw [← Knows.eq k]; exact F

/-- an object that is no code record -/
noncomputable def NoRec (o : Obj) : Prop := ∀ vs, o.data = .fields vs → ∀ q t, vs[1]? ≠ some (.str q t)
theorem noRec_tab1 {l c : Int} {k : Addr} : NoRec (tabObj #[rawInt l, rawInt c, .ref k]) := fun _ h => by cases h; intro q t h; cases h
theorem noRec_tab0 : NoRec (tabObj #[]) := fun _ h => by cases h; intro q t h; cases h
noncomputable def CodeObj (o : Obj) (q : Str) : Prop := ∃ vs t, o.data = .fields vs ∧ vs[1]? = some (.str q t)
/-- a table of places before a call: empty (then k names the table itself), or with its one entry k -/
noncomputable def TabS (P : Addr) (l c : Int) (q : Str) (ps : Array Value) (k : Addr) (o : Obj) : Prop := (ps = #[] ∧ k = P ∧ o = tabObj #[]) ∨ (ps = #[rawInt l, rawInt c, .ref k] ∧ CodeObj o q)
/-- and behind it -/
inductive TabT (P : Addr) (l c : Int) (q : Str) (k : Addr) (o : Obj) (h h' : Heap) : Prop
  | mk (k' : Addr) (o' : Obj) (h1 : h'.get? P = some (tabObj #[rawInt l, rawInt c, .ref k'])) (h2 : h'.get? k' = some o') (h3 : CodeObj o' q) (h4 : (k' = k ∧ o' = o) ∨ (k = P ∧ h.objs.size ≤ k'))
theorem TabS.noRec {P : Addr} {l c : Int} {q : Str} {ps : Array Value} {k : Addr} {o : Obj} (x : TabS P l c q ps k o) : NoRec (tabObj ps) := by
  rcases x with ⟨rfl, _⟩ | ⟨rfl, _⟩
  · exact noRec_tab0
  · exact noRec_tab1
theorem CodeObj.ne {o o' : Obj} {q : Str} {h : Heap} {a b : Addr} (x : CodeObj o q) (n : NoRec o') (ha : h.get? a = some o) (hb : h.get? b = some o') : a ≠ b := by
  rintro rfl
  rw [ha] at hb
  cases hb
  obtain ⟨vs, t, e1, e2⟩ := x
  exact n vs e1 _ _ e2
theorem TabS.ne {P P' : Addr} {l c : Int} {q : Str} {ps : Array Value} {k : Addr} {o o' : Obj} {h : Heap} (x : TabS P l c q ps k o) (hP : P ≠ P') (n : NoRec o') (hk : h.get? k = some o) (hb : h.get? P' = some o') : k ≠ P' := by
  rcases x with ⟨_, rfl, _⟩ | ⟨_, hc⟩
  · exact hP
  · exact hc.ne n hk hb
theorem pick_ok {h₀ h h' : Heap} {L k k' P : Addr} {m : Str → Option Value} {o o' : Obj} (F : Fr h₀ L h m) (hN : h.get? k = some o ∧ k ≠ L ∧ h₀.get? k = none) (hg : h'.get? k' = some o') (hc : (k' = k ∧ o' = o) ∨ (k = P ∧ h.objs.size ≤ k')) : h'.get? k' = some o' ∧ k' ≠ L ∧ h₀.get? k' = none := by
  rcases hc with ⟨rfl, rfl⟩ | ⟨_, hc⟩
  · exact ⟨hg, hN.2⟩
  · exact ⟨hg, (fresh_of F hc).2, (fresh_of F hc).1⟩

theorem news_tabs {h₀ h h' : Heap} {L k1 k2 c1 c2 P1 P2 : Addr} {m : Str → Option Value} {t1 t2 t1' t2' o1 o2 oc1 oc2 : Obj} (F : Fr h₀ L h m) (N : News h₀ L h [(P1, t1), (P2, t2), (k1, o1), (k2, o2)])
    (hT1 : h'.get? P1 = some t1') (hC1 : h'.get? c1 = some oc1) (hc1 : (c1 = k1 ∧ oc1 = o1) ∨ (k1 = P1 ∧ h.objs.size ≤ c1)) (hT2 : h'.get? P2 = some t2') (hC2 : h'.get? c2 = some oc2) (hc2 : (c2 = k2 ∧ oc2 = o2) ∨ (k2 = P2 ∧ h.objs.size ≤ c2)) :
    News h₀ L h' [(P1, t1'), (P2, t2'), (c1, oc1), (c2, oc2)] := by
  intro q hq
  simp only [List.mem_cons, List.not_mem_nil, or_false] at hq
  rcases hq with rfl | rfl | rfl | rfl
  · exact ⟨hT1, (N (P1, t1) (.head _)).2⟩
  · exact ⟨hT2, (N (P2, t2) (.tail _ (.head _))).2⟩
  · exact pick_ok F (N (k1, o1) (.tail _ (.tail _ (.head _)))) hC1 hc1
  · exact pick_ok F (N (k2, o2) (.tail _ (.tail _ (.tail _ (.head _))))) hC2 hc2

/-- a table behind a run that may have filled it -/
inductive TabR (P : Addr) (l c : Int) (q : Str) (k : Addr) (o : Obj) (h h' : Heap) : Prop
  | mk (ps : Array Value) (k' : Addr) (o' : Obj) (h1 : h'.get? P = some (tabObj ps)) (h2 : h'.get? k' = some o') (h3 : TabS P l c q ps k' o') (h4 : (k' = k ∧ o' = o) ∨ (k = P ∧ h.objs.size ≤ k'))
noncomputable abbrev QA : Str := Str.ofString "_int2digits.<locals>.inner"
noncomputable abbrev QB : Str := Str.ofString "_digits2int.<locals>.inner"
/-- the two tables and their code objects as a ledger has them -/
noncomputable abbrev tabsL (p44 p51 : Array Value) (c1 : Addr) (oc1 : Obj) (c2 : Addr) (oc2 : Obj) : List (Addr × Obj) := [(44, tabObj p44), (51, tabObj p51), (c1, oc1), (c2, oc2)]
structure TabsOk (sz : Nat) (k1 : Addr) (o1 : Obj) (k2 : Addr) (o2 : Obj) (p44 p51 : Array Value) (c1 : Addr) (oc1 : Obj) (c2 : Addr) (oc2 : Obj) : Prop where
  s1 : TabS 44 45 4 QA p44 c1 oc1
  s2 : TabS 51 60 4 QB p51 c2 oc2
  r1 : (c1 = k1 ∧ oc1 = o1) ∨ (k1 = 44 ∧ @LE.le Nat _ sz c1)
  r2 : (c2 = k2 ∧ oc2 = o2) ∨ (k2 = 51 ∧ @LE.le Nat _ sz c2)
theorem TabsOk.start {sz : Nat} {k1 k2 : Addr} {o1 o2 : Obj} {p44 p51 : Array Value} (h1 : TabS 44 45 4 QA p44 k1 o1) (h2 : TabS 51 60 4 QB p51 k2 o2) : TabsOk sz k1 o1 k2 o2 p44 p51 k1 o1 k2 o2 := ⟨h1, h2, .inl ⟨rfl, rfl⟩, .inl ⟨rfl, rfl⟩⟩
/-- the tables behind a call, from the call's own words -/
theorem TabsOk.step {sz : Nat} {k1 k2 c1 c2 d1 d2 : Addr} {o1 o2 oc1 oc2 od1 od2 : Obj} {p44 p51 : Array Value} {h : Heap} (x : TabsOk sz k1 o1 k2 o2 p44 p51 c1 oc1 c2 oc2) (hs : @LE.le Nat _ sz h.objs.size)
    (e1 : CodeObj od1 QA) (r1 : (d1 = c1 ∧ od1 = oc1) ∨ (c1 = 44 ∧ h.objs.size ≤ d1)) (e2 : CodeObj od2 QB) (r2 : (d2 = c2 ∧ od2 = oc2) ∨ (c2 = 51 ∧ h.objs.size ≤ d2)) :
    TabsOk sz k1 o1 k2 o2 #[rawInt 45, rawInt 4, .ref d1] #[rawInt 60, rawInt 4, .ref d2] d1 od1 d2 od2 := by
  refine ⟨.inr ⟨rfl, e1⟩, .inr ⟨rfl, e2⟩, ?_, ?_⟩
  · rcases r1 with ⟨rfl, rfl⟩ | ⟨rfl, r1⟩
    · exact x.r1
    · rcases x.r1 with ⟨rfl, rfl⟩ | ⟨rfl, _⟩
      · exact .inr ⟨rfl, Nat.le_trans hs r1⟩
      · exact .inr ⟨rfl, Nat.le_trans hs r1⟩
  · rcases r2 with ⟨rfl, rfl⟩ | ⟨rfl, r2⟩
    · exact x.r2
    · rcases x.r2 with ⟨rfl, rfl⟩ | ⟨rfl, _⟩
      · exact .inr ⟨rfl, Nat.le_trans hs r2⟩
      · exact .inr ⟨rfl, Nat.le_trans hs r2⟩
/-- a turned code object stands apart from what stood -/
theorem ne_step {h : Heap} {c d S P : Addr} {oc od oS : Obj} (hc : @Ne Nat c S) (hS : h.get? S = some oS) (r : (d = c ∧ od = oc) ∨ (c = P ∧ h.objs.size ≤ d)) : @Ne Nat d S := by
  rcases r with ⟨rfl, _⟩ | ⟨_, r⟩
  · exact hc
  · exact Nat.ne_of_gt (Nat.lt_of_lt_of_le (Heap.lt_size hS) r)
/-- the rest of a ledger, and the tables turned -/
theorem news_tabs_in {h₀ h h' : Heap} {L c1 c2 d1 d2 : Addr} {m : Str → Option Value} {p44 p51 : Array Value} {oc1 oc2 od1 od2 : Obj} {pre post : List (Addr × Obj)} (F : Fr h₀ L h m) (g : Grown [44, 51] h h')
    (N : News h₀ L h (pre ++ (tabsL p44 p51 c1 oc1 c2 oc2 ++ post))) (hpre : AllNe 44 pre ∧ AllNe 51 pre) (hpost : AllNe 44 post ∧ AllNe 51 post)
    (hT1 : h'.get? 44 = some (tabObj #[rawInt 45, rawInt 4, .ref d1])) (hC1 : h'.get? d1 = some od1) (r1 : (d1 = c1 ∧ od1 = oc1) ∨ (c1 = 44 ∧ h.objs.size ≤ d1))
    (hT2 : h'.get? 51 = some (tabObj #[rawInt 60, rawInt 4, .ref d2])) (hC2 : h'.get? d2 = some od2) (r2 : (d2 = c2 ∧ od2 = oc2) ∨ (c2 = 51 ∧ h.objs.size ≤ d2)) :
    News h₀ L h' (pre ++ (tabsL #[rawInt 45, rawInt 4, .ref d1] #[rawInt 60, rawInt 4, .ref d2] d1 od1 d2 od2 ++ post)) := by
  have keep : ∀ l : List (Addr × Obj), (AllNe 44 l ∧ AllNe 51 l) → (∀ q ∈ l, h.get? q.1 = some q.2 ∧ q.1 ≠ L ∧ h₀.get? q.1 = none) → ∀ q ∈ l, h'.get? q.1 = some q.2 ∧ q.1 ≠ L ∧ h₀.get? q.1 = none := fun l hl hN q hq =>
    ⟨g _ _ (fun hm => by
      rcases List.mem_cons.mp hm with e | hm
      · exact hl.1.at q hq e
      · exact hl.2.at q hq (List.mem_singleton.mp hm)) (hN q hq).1, (hN q hq).2⟩
  have Nt := news_tabs F (fun q hq => N q (List.mem_append_right _ (List.mem_append_left _ hq))) hT1 hC1 r1 hT2 hC2 r2
  intro q hq
  rcases List.mem_append.mp hq with hq | hq
  · exact keep pre hpre (fun q hq => N q (List.mem_append_left _ hq)) q hq
  · rcases List.mem_append.mp hq with hq | hq
    · exact Nt q hq
    · exact keep post hpost (fun q hq => N q (List.mem_append_right _ (List.mem_append_right _ hq))) q hq

theorem allNe_step {h : Heap} {c d P : Addr} {oc od : Obj} {l : List (Addr × Obj)} (hc : AllNe c l) (hS : ∀ q ∈ l, h.get? q.1 = some q.2) (r : (d = c ∧ od = oc) ∨ (c = P ∧ h.objs.size ≤ d)) : AllNe d l := by
  rcases r with ⟨rfl, _⟩ | ⟨_, r⟩
  · exact hc
  · exact AllNe.of fun q hq => Nat.ne_of_lt (Nat.lt_of_lt_of_le (Heap.lt_size (hS q hq)) r)
theorem fresh_none {h₀ h : Heap} {L : Addr} {m : Str → Option Value} (F : Fr h₀ L h m) {q : Addr} (hq : h.get? q = none) : h₀.get? q = none ∧ q ≠ L := by
  constructor
  · cases e : h₀.get? q with
    | none => rfl
    | some x => rw [F.keep _ _ e] at hq; cases hq
  · rintro rfl
    obtain ⟨o, _, _, e, _⟩ := F.ns
    rw [e] at hq
    cases hq
theorem news_addN {h₀ h h' : Heap} {L : Addr} {m : Str → Option Value} {news : List (Addr × Obj)} (F : Fr h₀ L h m) (N : News h₀ L h' news) {q : Addr} {o : Obj} (hq : h.get? q = none) (ho : h'.get? q = some o) : News h₀ L h' ((q, o) :: news) := by
  intro p hp
  rcases List.mem_cons.mp hp with rfl | hp
  · exact ⟨ho, (fresh_none F hq).2, (fresh_none F hq).1⟩
  · exact N p hp
theorem news_neN {h₀ h : Heap} {L q : Addr} {news : List (Addr × Obj)} (N : News h₀ L h news) (hq : h.get? q = none) : AllNe q news := AllNe.of fun p hp e => by
  have := (N p hp).1
  rw [e, hq] at this
  cases this
theorem Entry.none {h g h' : Heap} {L' q : Addr} {o : Obj} {news news' : List (Addr × Obj)} (e : Entry h g L' news) (N : News g L' h' news') (hq : (q, o) ∈ news') (hne : ∀ p ∈ news, p.1 ≠ q) : h.get? q = none := by
  cases e1 : h.get? q with
  | none => rfl
  | some x =>
    have h1 := e.keep q x e1 (fun hm => by
      obtain ⟨p, hp, e2⟩ := List.mem_map.mp hm
      exact hne p hp e2)
    have h2 := (N _ hq).2.2
    dsimp only at h2
    rw [h1] at h2
    cases h2

theorem off1_ne {D : Addr} {l : List (Addr × Obj)} (h : LCg.Off1 D l) : AllNe D l := by
  induction l with
  | nil => trivial
  | cons p r ih => exact ⟨h.1, ih h.2⟩

section
variable {prog : Program} {w : World} {A : PySem.Around} {E : Value → Shared → Prop} {s : Shared} {env : Env} {h₀ : Heap} {x : Str} {body : List Stmt} {Q : Flow → Shared → Prop}

theorem loopJ {I : Addr} {fp : List Addr} {n : Nat} {P : Nat → Value → Prop} {St : Nat → Heap → Prop} {m₀ : Str → Option Value} {news cst : List (Addr × Obj)}
    (J : Nat → (Str → Option Value) → List (Addr × Obj) → Prop)
    (W : Walks prog w A I fp [I] n P St) (hIt : ∀ i h, St i h → ∃ o, h.get? I = some o) (hLf : env.locals ∉ fp) (hI : h₀.get? I = none) (hnw : ∀ p ∈ news, p.1 ≠ I) (hst : St 0 s.heap)
    (F : Fr h₀ env.locals s.heap m₀) (N : News h₀ env.locals s.heap news)
    (hfp : ∀ b ∈ fp, b ≠ I → (∃ o, h₀.get? b = some o) ∨ ∃ o, (b, o) ∈ cst) (hJc : ∀ i m l, J i m l → ∀ q ∈ cst, q ∈ l) (h0 : J 0 m₀ news)
    (turn : ∀ i v m₁ news₁ h tk it, i < n → P i v → J i m₁ news₁ → Fr h₀ env.locals h (fun y => if y = x then some v else m₁ y) → News h₀ env.locals h ((I, it) :: news₁) → AllNe I news₁ →
      wpAny (model prog w) A (execs body env) (TurnJ h₀ env.locals I it (J (i + 1)) { s with heap := h, toks := tk } Q) E { s with heap := h, toks := tk })
    (done : ∀ m₁ news₁ h tk, J n m₁ news₁ → Fr h₀ env.locals h m₁ → News h₀ env.locals h news₁ → Q .next { s with heap := h, toks := tk }) :
    LoopAtV prog w A h₀ env x body Q E (.ref I) s := by
  refine ⟨I, fp, [I], n, P, St, m₀, news, J, rfl, W, hLf, ?_, ?_, hst, F, N, h0, ?_, ?_⟩
  · intro b hb; rw [List.mem_singleton.mp hb]; exact hI
  · intro p hp hb; exact hnw p hp (List.mem_singleton.mp hb)
  · rintro i v m₁ news₁ s₁ own ⟨hh', tk', rfl⟩ hin hP hJ hoff hown hget hall hst' F₁ N₁
    obtain ⟨it, hit⟩ := hIt _ _ hst'
    have hmemI := hall I (W.sub I (List.mem_singleton.mpr rfl)) hI it hit
    have N₂ : News h₀ env.locals hh' ((I, it) :: news₁) := fun p hp => by
      rcases List.mem_cons.mp hp with rfl | hp
      · exact N₁ _ (List.mem_append_left _ hmemI)
      · exact N₁ _ (List.mem_append_right _ hp)
    refine wpAny_mono (turn i v m₁ news₁ hh' tk' it hin hP hJ F₁ N₂ (AllNe.of fun p hp e => hoff p hp (List.mem_singleton.mpr e))) (fun f s₂ p => ?_) fun _ _ e => e
    have fin : (∃ h' tk m' news', s₂ = { ({ s with heap := hh', toks := tk' } : Shared) with heap := h', toks := tk } ∧ Fr h₀ env.locals h' m' ∧ News h₀ env.locals h' ((I, it) :: news') ∧ AllNe I news' ∧ J (i + 1) m' news') →
        LoopStepU h₀ env.locals [I] own (J (i + 1)) { s with heap := hh', toks := tk' } .next s₂ := by
      rintro ⟨h', tk, m', news', e, F', N', hne, hj⟩
      refine ⟨rfl, h', tk, m', news', e, F', fun p hp => ?_, fun p hp hb => hne.at p hp (List.mem_singleton.mp hb), hj⟩
      rcases List.mem_append.mp hp with hp | hp
      · have h1 := hget p hp
        by_cases e1 : p.1 = I
        · have : p = (I, it) := by
            rw [e1] at h1
            dsimp only at h1
            rw [hit] at h1
            exact Prod.ext e1 (Option.some.inj h1).symm
          rw [this]; exact N' _ (List.mem_cons_self ..)
        · rcases hfp p.1 (hown p hp) e1 with ⟨o, ho⟩ | ⟨o, ho⟩
          · have := (N₁ p (List.mem_append_left _ hp)).2.2
            rw [ho] at this; cases this
          · have h2 := (N₁ _ (List.mem_append_right _ (hJc _ _ _ hJ _ ho))).1
            dsimp only at h1 h2
            rw [h1] at h2
            have : p = (p.1, o) := Prod.ext rfl (Option.some.inj h2)
            rw [this]; exact N' _ (List.mem_cons_of_mem _ (hJc _ _ _ hj _ ho))
      · exact N' _ (List.mem_cons_of_mem _ hp)
    cases f with
    | ret v => exact .ret p
    | brk => exact .brk p
    | next => exact .next (fin p)
    | cont => exact .cont (fin p)
  · rintro h' tk m' news' F' N' _ hJ
    exact done m' news' h' tk hJ F' N'

/-- over a list of the ledger -/
theorem iterJ_list {l : Addr} {vs : List Value} {e : Nat} {m₀ : Str → Option Value} {news : List (Addr × Obj)} (J : Nat → (Str → Option Value) → List (Addr × Obj) → Prop)
    (hh : A.handled = none) (F : Fr h₀ env.locals s.heap m₀) (N : News h₀ env.locals s.heap news) (hl : (l, W.listOf vs.toArray e) ∈ news) (hJc : ∀ i m k, J i m k → (l, W.listOf vs.toArray e) ∈ k) (h0 : J 0 m₀ news)
    (turn : ∀ I i v m₁ news₁ h tk it, s.heap.objs.size ≤ I → i < vs.length → vs[i]? = some v → J i m₁ news₁ → Fr h₀ env.locals h (fun y => if y = x then some v else m₁ y) → News h₀ env.locals h ((I, it) :: news₁) → AllNe I news₁ → ∀ K : (Str → Option Value) → List (Addr × Obj) → Prop, (∀ m n, J (i + 1) m n → K m n) → ∀ Q9 : Flow → Shared → Prop, (∀ f s', Q f s' → Q9 f s') → ∀ s1 : Shared, s1 = s →
      wpAny (model prog w) A (execs body env) (TurnJ h₀ env.locals I it K s1 Q9) E { s1 with heap := h, toks := tk })
    (done : ∀ m₁ news₁ h tk, J vs.length m₁ news₁ → Fr h₀ env.locals h m₁ → News h₀ env.locals h news₁ → Q .next { s with heap := h, toks := tk }) :
    wpAny (model prog w) A (pyIter (.ref l)) (fun it s₂ => LoopAtV prog w A h₀ env x body Q E it s₂) E s := by
  have hml := N _ hl
  have hls : s.heap.IsList l vs.toArray := ⟨_, hml.1, rfl, e, rfl⟩
  have hne : l ≠ s.heap.objs.size := Nat.ne_of_lt (Heap.lt_size hml.1)
  refine wpAny_pyIter_list hls ?_
  have Wk := Walks.list (prog := prog) (w := w) hh s.heap.objs.size l hne vs.toArray
  have hlen : vs.toArray.size = vs.length := by simp
  rw [hlen] at Wk
  refine loopJ (cst := [(l, W.listOf vs.toArray e)]) J Wk (fun i h x => let ⟨o, ho, _⟩ := x.1; ⟨o, ho⟩) ?_ ?_ (fun p hp e => ?_) ⟨⟨_, Heap.get?_push_size _ rfl, rfl, rfl⟩, hls.at fun o e => Heap.get?_push_of_some _ e⟩ (F.push _) (fun p hp => ⟨Heap.get?_push_of_some _ (N p hp).1, (N p hp).2⟩) (fun b hb hn => ?_)
    (fun i m k hj q hq => by rw [List.mem_singleton.mp hq]; exact hJc i m k hj) h0 (fun i v m₁ news₁ h tk it hi hP hJ F₁ N₁ hn => turn _ i v m₁ news₁ h tk it (Nat.le_refl _) hi (by simpa using hP) hJ F₁ N₁ hn (J (i + 1)) (fun _ _ z => z) Q (fun _ _ z => z) s rfl) done
  · intro hm
    rcases List.mem_cons.mp hm with e | hm
    · exact absurd F.ns.lt (e ▸ Nat.lt_irrefl _)
    · exact hml.2.1 (List.mem_singleton.mp hm).symm
  · exact (fresh_of F (Nat.le_refl _)).1
  · exact absurd (Heap.lt_size (N p hp).1) (by rw [e]; exact Nat.lt_irrefl _)
  · rcases List.mem_cons.mp hb with e | hb
    · exact absurd e hn
    · rw [List.mem_singleton.mp hb]
      exact .inr ⟨_, List.mem_singleton.mpr rfl⟩

/-- over a list, from its end -/
theorem iterJ_rev {l I : Addr} {vs : List Value} {e : Nat} {m₀ : Str → Option Value} {news : List (Addr × Obj)} (J : Nat → (Str → Option Value) → List (Addr × Obj) → Prop)
    (hh : A.handled = none) (F : Fr h₀ env.locals s.heap m₀) (N : News h₀ env.locals s.heap ((I, revObj l ((vs.length : Int) - 1)) :: news)) (hnI : AllNe I news) (hl : (l, W.listOf vs.toArray e) ∈ news) (hJc : ∀ i m k, J i m k → (l, W.listOf vs.toArray e) ∈ k) (h0 : J 0 m₀ news)
    (turn : ∀ i v m₁ news₁ h tk it, i < vs.length → vs.reverse[i]? = some v → J i m₁ news₁ → Fr h₀ env.locals h (fun y => if y = x then some v else m₁ y) → News h₀ env.locals h ((I, it) :: news₁) → AllNe I news₁ → ∀ K : (Str → Option Value) → List (Addr × Obj) → Prop, (∀ m n, J (i + 1) m n → K m n) → ∀ Q9 : Flow → Shared → Prop, (∀ f s', Q f s' → Q9 f s') → ∀ s1 : Shared, s1 = s →
      wpAny (model prog w) A (execs body env) (TurnJ h₀ env.locals I it K s1 Q9) E { s1 with heap := h, toks := tk })
    (done : ∀ m₁ news₁ h tk, J vs.length m₁ news₁ → Fr h₀ env.locals h m₁ → News h₀ env.locals h news₁ → Q .next { s with heap := h, toks := tk }) :
    wpAny (model prog w) A (pyIter (.ref I)) (fun it s₂ => LoopAtV prog w A h₀ env x body Q E it s₂) E s := by
  have hIx := N _ (List.mem_cons_self ..)
  have hml := N _ (List.mem_cons_of_mem _ hl)
  have hls : s.heap.IsList l vs.toArray := ⟨_, hml.1, rfl, e, rfl⟩
  have hne : l ≠ I := hnI.at _ hl
  have hit : s.heap.IsRevIter I l ((vs.length : Int) - 1) := ⟨_, hIx.1, rfl, rfl⟩
  refine wpAny_pyIter_revIter hit ?_
  have Wk := Walks.listRev (prog := prog) (w := w) hh I l hne vs.toArray
  have hlen : vs.toArray.size = vs.length := by simp
  rw [hlen] at Wk
  refine loopJ (cst := [(l, W.listOf vs.toArray e)]) J Wk (fun i h x => let ⟨o, ho, _⟩ := x.2.1; ⟨o, ho⟩) ?_ hIx.2.2 (hnI.at) ⟨Nat.zero_le _, ?_, hls⟩ F (fun p hp => N p (List.mem_cons_of_mem _ hp)) (fun b hb hn => ?_)
    (fun i m k hj q hq => by rw [List.mem_singleton.mp hq]; exact hJc i m k hj) h0 (fun i v m₁ news₁ h tk it hi hP hJ F₁ N₁ hn => turn i v m₁ news₁ h tk it hi ?_ hJ F₁ N₁ hn (J (i + 1)) (fun _ _ z => z) Q (fun _ _ z => z) s rfl) done
  · intro hm
    rcases List.mem_cons.mp hm with e | hm
    · exact hIx.2.1 e.symm
    · exact hml.2.1 (List.mem_singleton.mp hm).symm
  · rw [show (vs.length : Int) - 1 - ((0 : Nat) : Int) = (vs.length : Int) - 1 by omega]
    exact hit
  · rcases List.mem_cons.mp hb with e | hb
    · exact absurd e hn
    · rw [List.mem_singleton.mp hb]
      exact .inr ⟨_, List.mem_singleton.mpr rfl⟩
  · rw [List.getElem?_reverse hi]
    simpa using hP

/-- over a range by ones -/
theorem iterJ_range {r : Addr} {a₀ b₀ : Int} {t₀ u₀ v₀ : Tok} {n : Nat} {m₀ : Str → Option Value} {news : List (Addr × Obj)} (J : Nat → (Str → Option Value) → List (Addr × Obj) → Prop)
    (hh : A.handled = none) (hr : IsRange s.heap r a₀ b₀ 1 t₀ u₀ v₀) (hsmall : Builtin.Range.small a₀ b₀ 1 = true) (hn : Builtin.Range.rangeSize a₀ b₀ 1 = (n : Int)) (F : Fr h₀ env.locals s.heap m₀) (N : News h₀ env.locals s.heap news) (h0 : J 0 m₀ news)
    (turn : ∀ I i t m₁ news₁ h tk it, s.heap.objs.size ≤ I → i < n → J i m₁ news₁ → Fr h₀ env.locals h (fun y => if y = x then some (.int (a₀ + (i : Int)) t) else m₁ y) → News h₀ env.locals h ((I, it) :: news₁) → AllNe I news₁ → ∀ K : (Str → Option Value) → List (Addr × Obj) → Prop, (∀ m n, J (i + 1) m n → K m n) → ∀ Q9 : Flow → Shared → Prop, (∀ f s', Q f s' → Q9 f s') → ∀ s1 : Shared, s1 = s →
      wpAny (model prog w) A (execs body env) (TurnJ h₀ env.locals I it K s1 Q9) E { s1 with heap := h, toks := tk })
    (done : ∀ m₁ news₁ h tk, J n m₁ news₁ → Fr h₀ env.locals h m₁ → News h₀ env.locals h news₁ → Q .next { s with heap := h, toks := tk }) :
    wpAny (model prog w) A (pyIter (.ref r)) (fun it s₂ => LoopAtV prog w A h₀ env x body Q E it s₂) E s := by
  refine wpAny_pyIter_range hr hsmall ?_
  have Wk := Walks.range (prog := prog) (w := w) hh s.heap.objs.size a₀ 1 n
  refine loopJ (cst := []) J Wk (fun i h x => ⟨_, x⟩) ?_ ?_ (fun p hp e => ?_) (by show IsRangeIter _ _ _ _ _; rw [hn]; simpa using Heap.get?_push_size _ rfl) (F.push _) (fun p hp => ⟨Heap.get?_push_of_some _ (N p hp).1, (N p hp).2⟩) (fun b hb hn => ?_)
    (fun i m k hj q hq => nomatch hq) h0 (fun i v m₁ news₁ h tk it hi hP hJ F₁ N₁ hn => ?_) done
  · intro hm
    exact absurd F.ns.lt ((List.mem_singleton.mp hm) ▸ Nat.lt_irrefl _)
  · exact (fresh_of F (Nat.le_refl _)).1
  · exact absurd (Heap.lt_size (N p hp).1) (by rw [e]; exact Nat.lt_irrefl _)
  · exact absurd (List.mem_singleton.mp hb) hn
  · obtain ⟨t, rfl⟩ := hP
    rw [Int.mul_one] at F₁
    exact turn _ i t m₁ news₁ h tk it (Nat.le_refl _) hi hJ F₁ N₁ hn (J (i + 1)) (fun _ _ z => z) Q (fun _ _ z => z) s rfl
end
end Mine
end

section
open PySem PySem.W PyProof.Rows PySem.Calls PySem.Spec
set_option maxRecDepth 100000
set_option maxHeartbeats 8000000
namespace Mine
theorem fillK_D1 : PySem.Challenge.rw_ph0163_01 = PySem.Challenge.rw_ph0163_01 ∧ Mine.KF = Mine.KF := by
  w_top off
  (try (walk1; fail))
  k_fill
  exact ⟨rfl, rfl⟩
section
variable {prog : Program} {w : World} {p : Program} {loose : List Str} {mean : ExcName → Option Value} {mg mb : Str → Option Value}

theorem div2n1n_does {a b n : Int} {ta tb tn : Tok} (hb : b ≠ 0) (hb2 : b.natAbs < 1073741824) (hs : (Builtin.Int.intBits a : Int) - n ≤ 4000) :
    Does prog w p loose mean mg mb 35 [.int a ta, .int b tb, .int n tn] 3 40 [] (fun _ => True) []
      (fun h r h' => E3 fun q t1 t2 => A3 (r = .ref q) (h.objs.size ≤ q) (h'.get? q = some (tupObj [.int (a.fdiv b) t1, .int (a.fmod b) t2]))) := by
  refine' does_of (binds := [(Str.ofString "a", .int a ta), (Str.ofString "b", .int b tb), (Str.ofString "n", .int n tn)]) ?ho ?hcd ?hb ?hl ?c1 ?c2 ?c3 ?c4 ?c5 ?walk
  case ho => k_dflt k_is
  case hcd => k_dflt k_is
  case hb => exact fun s => BindsTo.of_eq rfl
  case hl => exact locs rfl
  case c1 => exact rfl
  case c2 => exact rfl
  case c3 => exact rfl
  case c4 => decide
  case c5 => decide
  case walk =>
    intro dp un gd cn cs a' ccd cl outer A₀ base L s g L' h' hent hpre F' N' B' X' hlt hd hu post9 hPost
    obtain ⟨X', T', c1', c2', c3'⟩ := X'
    dsimp only [AllLt] at hlt
    try dsimp only
    try k_fold
    k_steps
    try dsimp only [qk]
    rename_i Fz Nz
    exact Ret.ofA hPost (hent.grown Fz Nz (fun _ h => nomatch h)) ⟨_, _, _, rfl, hent.size_le F', (Nz _ (.head _)).1⟩
end
end Mine
end

local macro_rules | `(tactic| walk_at "call ref") => `(tactic| (k_here; refine Mine.hold_it ?_))
local macro_rules | `(tactic| walk_at "exec FunctionDef") => `(tactic| (k_here; refine Mine.hold_it ?_))
section
open PySem PySem.W PyProof.Rows PySem.Calls PySem.Spec
set_option maxRecDepth 100000
set_option maxHeartbeats 8000000
namespace Mine
theorem fillK_D2 : PySem.Challenge.rw_ph0163_01 = PySem.Challenge.rw_ph0163_01 ∧ Mine.KF = Mine.KF := by
  w_top off
  (try (walk1; fail))
  k_fill
  exact ⟨rfl, rfl⟩
section
variable {prog : Program} {w : World} {p : Program} {loose : List Str} {mean : ExcName → Option Value} {mg mb : Str → Option Value}


theorem rec_of {D : Type} {C : D → Prop} (size : D → Nat) (step : ∀ d, (∀ d', size d' < size d → C d') → C d) : ∀ d, C d := by
  have all : ∀ n, ∀ d, size d < n → C d := by
    intro n
    induction n with
    | zero => intro d h; exact absurd h (Nat.not_lt_zero _)
    | succ n ih => exact fun d h => step d fun d' h' => ih d' (Nat.lt_of_lt_of_le h' (Nat.le_of_lt_succ h))
  exact fun d => all _ d (Nat.lt_succ_self _)

structure InD where
  x : Int
  tx : Tok
  tl : Tok
  tr : Tok
  vs : List Value
  ns : List Int
  l : Nat
  m : Nat

noncomputable def InOk (d : InD) : Prop := 0 ≤ d.x ∧ d.x.natAbs < 1073741824 ∧ 0 < d.m ∧ d.l + d.m ≤ d.ns.length ∧ d.ns.length ≤ 64 ∧ IntsAre d.vs d.ns


/-- the inner function of a function object -/
noncomputable def innerIn (o : Obj) : Option (Arguments × List Stmt × Scope) :=
  match o.data with
  | .func fd => (match fd.body with
    | .stmts l => l.findSome? fun st => match st with | .FunctionDef _ args body _ _ _ scope _ _ _ => some (args, body, scope) | _ => none
    | _ => none)
  | _ => none
theorem inner_open {o : Obj} {P : Arguments → List Stmt → Scope → Prop} {pa pa' : Arguments} {bo bo' : List Stmt} {sc sc' : Scope} (f : innerIn o = some (pa, bo, sc)) (ho : innerIn o = some (pa', bo', sc')) (h : P pa' bo' sc') : P pa bo sc := by
  rw [ho] at f
  cases f
  exact h

theorem half_facts {l m len : Nat} (hm0 : 0 < m) (h1 : m ≠ 1) (hl : l + m ≤ len) : A7 (m / 2 < m) (0 < m / 2) (0 < m - m / 2) (m - m / 2 < m) (m / 2 + (m - m / 2) = m) (l + m / 2 ≤ len) (l + m / 2 + (m - m / 2) ≤ len) := by
  have a : m / 2 < m := Nat.div_lt_self hm0 (by decide)
  have b : 0 < m / 2 := Nat.div_pos (Nat.lt_of_le_of_ne hm0 (Ne.symm h1)) (by decide)
  have d : m / 2 + (m - m / 2) = m := Nat.add_sub_cancel' (Nat.le_of_lt a)
  exact ⟨a, b, Nat.sub_pos_of_lt a, Nat.sub_lt hm0 b, d, Nat.le_trans (Nat.add_le_add_left (Nat.le_of_lt a) l) hl, by rw [Nat.add_assoc, d]; exact hl⟩
theorem room_of {un r m : Nat} (h : un + (8 * m + 40) < cLine) (hr : r < m) : un + 3 + (8 * r + 40) < cLine := Nat.lt_of_le_of_lt (by omega) h
theorem deep_of {dp r m : Nat} (h : dp + (m + 3) < recursionLimit) (hr : r < m) : dp + 1 + (r + 3) < recursionLimit := Nat.lt_of_le_of_lt (by omega) h
theorem abs_low {x y : Int} (h0 : 0 ≤ y) (h : y ≤ x) (hx : x.natAbs < 1073741824) : y.natAbs < 1073741824 := by omega
theorem ne4 {L' f D : Addr} {o1 o2 o3 o4 : Obj} (hLD : @LT.lt Nat _ (L' + 1 + 1 + 1) D) (hDf : @LT.lt Nat _ D f) : ∀ q ∈ [(f, o1), (L' + 1 + 1 + 1, o2), (L' + 1 + 1, o3), (L' + 1, o4)] ++ ([] : List (Addr × Obj)), q.1 ≠ D :=
  fun q hq => AllNe.at (d := D) (l := [(f, o1), (L' + 1 + 1 + 1, o2), (L' + 1 + 1, o3), (L' + 1, o4)]) (⟨Nat.ne_of_gt hDf, Nat.ne_of_lt hLD, Nat.ne_of_lt (Nat.lt_of_succ_lt hLD), Nat.ne_of_lt (Nat.lt_of_succ_lt (Nat.lt_of_succ_lt hLD)), trivial⟩) q hq
theorem len_mid {ns ds1 : List Int} {l q : Nat} (hl1 : ds1.length = q) (h : l + q ≤ ns.length) : (ns.take l ++ ds1 ++ ns.drop (l + q)).length = ns.length := by
  rw [List.length_append, List.length_append, List.length_take, List.length_drop, hl1, Nat.min_eq_left (Nat.le_trans (Nat.le_add_right l q) h)]
  exact Nat.add_sub_cancel' h
theorem int_split {q r m : Nat} (l : Nat) (h : q + r = m) : (l : Int) + (m : Int) = ((l + q : Nat) : Int) + ((r : Nat) : Int) := by
  rw [← h, Int.natCast_add, Int.natCast_add, Int.add_assoc]
theorem mid_lo (l m : Nat) : -2 ^ 64 < ((l : Int) + ((l : Int) + (m : Int))) / 2 ^ Int.toNat 1 - (l : Int) := by
  rw [show (2 : Int) ^ Int.toNat 1 = 2 from rfl]
  omega
theorem mid_hi {l m len : Nat} (h : l + m ≤ len) (h2 : len ≤ 64) : ((l : Int) + ((l : Int) + (m : Int))) / 2 ^ Int.toNat 1 - (l : Int) < 2 ^ 64 := by
  rw [show (2 : Int) ^ Int.toNat 1 = 2 from rfl]
  omega
theorem half_shift {l m len n : Nat} (h : l + m ≤ len) (h2 : len ≤ 64) (hn : n < 64) : ((m / 2 * n : Nat) : Int) ≤ 1000000 := by
  have h1 := Nat.mul_le_mul (show m / 2 ≤ 32 by omega) (Nat.le_of_lt hn)
  omega
theorem mid_shift (l m n : Nat) : (((l : Int) + ((l : Int) + (m : Int))).fdiv (2 ^ Int.toNat 1) - (l : Int)) * (n : Int) = ((m / 2 * n : Nat) : Int) := by
  rw [mid_eq, Int.add_comm, Int.add_sub_cancel]; norm_cast
/-- one object changes, the rest of the ledger stands -/
theorem but_one {l l' : List (Addr × Obj)} {D : Addr} {o : Obj} (h : ∀ q ∈ l, q ∈ (D, o) :: l') : ∀ q ∈ l, q.1 ∈ [D] ∨ q ∈ l' := fun q hq => by
  rcases List.mem_cons.mp (h q hq) with rfl | h
  · exact .inl (.head _)
  · exact .inr h
theorem i2d_inner {pa : Arguments} {bo : List Stmt} {sc : Scope} (fI : innerIn (Mine.o49 w.params) = some (pa, bo, sc)) {n : Nat} {tn : Tok} (hn : 0 < n) (hn2 : n < 64) {L' f c D : Addr} {cdoc ctv : Value} {oI1 oA1 oN : Obj}
    (dI : oI1.data = .cell (some (.ref f))) (dA : oA1.data = .cell (some (.ref D))) (dN : oN.data = .cell (some (.int n tn))) (hLD : @LT.lt Nat _ (L' + 1 + 1 + 1) D) (hDf : @LT.lt Nat _ D f) :
    ∀ d : InD, Does prog w p loose mean mg mb f [.int d.x d.tx, .int d.l d.tl, .int ((d.l : Int) + d.m) d.tr] (d.m + 3) (8 * d.m + 40)
      [(f, fnMade (Str.ofString "inner") (Str.ofString "_int2digits.<locals>.inner") pa bo sc [(Str.ofString "n", L' + 1), (Str.ofString "inner", L' + 1 + 1 + 1), (Str.ofString "a_digits", L' + 1 + 1)] cdoc ((mg (Str.ofString "__name__")).getD Value.none) c ctv), (L' + 1 + 1 + 1, oI1), (L' + 1 + 1, oA1), (L' + 1, oN), (D, W.listOf d.vs.toArray 0)] (fun h => h.CodeRec (.ref c) (Str.ofString "_int2digits.<locals>.inner") ∧ InOk d) [D]
      (fun h r h' => E2 fun vs' ds => A5 (IntsAre vs' (d.ns.take d.l ++ ds ++ d.ns.drop (d.l + d.m))) (ds.length = d.m) (dval n ds = d.x) ((∀ y ∈ ds, 0 ≤ y ∧ y ≤ d.x)) (h'.get? D = some (W.listOf vs'.toArray 0))) := by
  refine inner_open (P := fun pa bo sc => ∀ d : InD, Does prog w p loose mean mg mb f [.int d.x d.tx, .int d.l d.tl, .int ((d.l : Int) + d.m) d.tr] (d.m + 3) (8 * d.m + 40)
      [(f, fnMade (Str.ofString "inner") (Str.ofString "_int2digits.<locals>.inner") pa bo sc [(Str.ofString "n", L' + 1), (Str.ofString "inner", L' + 1 + 1 + 1), (Str.ofString "a_digits", L' + 1 + 1)] cdoc ((mg (Str.ofString "__name__")).getD Value.none) c ctv), (L' + 1 + 1 + 1, oI1), (L' + 1 + 1, oA1), (L' + 1, oN), (D, W.listOf d.vs.toArray 0)] (fun h => h.CodeRec (.ref c) (Str.ofString "_int2digits.<locals>.inner") ∧ InOk d) [D]
      (fun h r h' => E2 fun vs' ds => A5 (IntsAre vs' (d.ns.take d.l ++ ds ++ d.ns.drop (d.l + d.m))) (ds.length = d.m) (dval n ds = d.x) ((∀ y ∈ ds, 0 ≤ y ∧ y ≤ d.x)) (h'.get? D = some (W.listOf vs'.toArray 0)))) fI rfl ?_
  refine' rec_of (fun d => d.m) (fun d IH => ?_)
  refine' does_ofF (binds := [(Str.ofString "x", .int d.x d.tx), (Str.ofString "L", .int d.l d.tl), (Str.ofString "R", .int ((d.l : Int) + d.m) d.tr)]) ?ho ?hcd ?hb ?hl ?c1 ?c2 ?c3 ?c4 ?c5 ?walk
  case ho => exact .head _
  case hcd => exact fun h hp => hp.1
  case hb => exact fun s => BindsTo.of_eq rfl
  case hl => exact locs rfl
  case c1 => exact rfl
  case c2 => exact rfl
  case c3 => exact rfl
  case c4 => decide
  case c5 => omega
  case walk =>
    intro dp un gd cn cs a' ccd cl outer A₀ base L s g L' h' hent hpre F' N' B' X' hlt hd hu post9 hPost
    obtain ⟨X', T', c1', c2', c3'⟩ := X'
    dsimp only [AllLt] at hlt
    obtain ⟨hpc, hx0, hx1, hm0, hm1, hm2, hvs⟩ := hpre
    have hme := mid_eq d.l d.m
    have hsh := mid_shift d.l d.m n
    have hs1 : (((d.l : Int) + ((d.l : Int) + (d.m : Int))).fdiv (2 ^ Int.toNat 1) - (d.l : Int)) * (n : Int) ≤ 1000000 := hsh ▸ half_shift hm1 hm2 hn2
    have hs0 : 0 ≤ (((d.l : Int) + ((d.l : Int) + (d.m : Int))).fdiv (2 ^ Int.toNat 1) - (d.l : Int)) * (n : Int) := hsh ▸ Int.natCast_nonneg _
    have hs2 := mid_lo d.l d.m
    have hs3 := mid_hi hm1 hm2
    have hq := split_low d.x (d.m / 2 * n) hx0
    have hshN : ((((d.l : Int) + ((d.l : Int) + (d.m : Int))).fdiv (2 ^ Int.toNat 1) - (d.l : Int)) * (n : Int)).toNat = d.m / 2 * n := by rw [hsh]; rfl
    have hq2 : (d.x.fdiv (2 ^ ((((d.l : Int) + ((d.l : Int) + (d.m : Int))).fdiv (2 ^ Int.toNat 1) - (d.l : Int)) * (n : Int)).toNat)).natAbs < 1073741824 := by rw [hshN]; exact abs_low hq.2.2.1 hq.2.2.2 hx1
    try dsimp only
    try k_fold
    k_steps
    · dsimp only
      rename_i hm1e h6 F6 N6 hi6 hl6 hs6
      have hm1' : d.m = 1 := by omega
      have hln : d.l < d.ns.length := by omega
      refine Ret.ofA hPost (hent.grown F6 N6 ?_) ⟨d.vs.set ((d.l : Int).toNat) (.int d.x d.tx), [d.x], ?_, ?_, ?_, ?_, ?_⟩
      · exact but_one (o := W.listOf d.vs.toArray 0) (sub_pick0 [1, 2, 3, 4, 0] rfl)
      · rw [Int.toNat_natCast, set_take _ _ _ hln] at hi6
        rw [hm1']
        exact hi6
      · rw [hm1']; rfl
      · simp [dval]
      · intro y hy
        rw [List.mem_singleton.mp hy]
        exact ⟨hx0, Int.le_refl _⟩
      · exact (N6 (D, _) (by k_mem)).1
    · unfold Hold
      rename_i hm1e h6 F6 N6
      have hm9 : d.m ≠ 1 := by
        rename (d.l : Int) + 1 ≠ (d.l : Int) + (d.m : Int) => z9
        exact fun e => z9 (by rw [e]; rfl)
      obtain ⟨q1, q2, q3, q4, q5, q6, q7⟩ := half_facts (l := d.l) hm0 hm9 hm1
      have hg6 : Grown [D] s.heap h6 := hent.grown F6 N6 (but_one (o := W.listOf d.vs.toArray 0) (by
        exact sub_pick0 [1, 2, 3, 4, 0] rfl))
      have hD0 : s.heap.get? D = some (W.listOf d.vs.toArray 0) := hent.old (D, _) (by k_mem)
      rw [hshN, xor_low _ _ hx0, hme]
      refine (IH ⟨d.x - d.x.fdiv (2 ^ (d.m / 2 * n)) * 2 ^ (d.m / 2 * n), _, d.tl, _, d.vs, d.ns, d.l, d.m / 2⟩ (show d.m / 2 < d.m from q1)).use B' F6 N6 X' T' c1' c2' c3' rfl (fun _ h => h) ?_ ?_ ?_ ?_
      · exact ⟨codeRec_grown hpc hg6 hD0, hq.1, abs_low hq.1 hq.2.1 hx1, q2, q6, hm2, hvs⟩
      · exact deep_of hd q1
      · exact room_of hu q1
      · rintro r7 h7 tk7 g7 ⟨vs1, ds1, hi1, hl1, hv1, hb1, hD1⟩
        dsimp only at hi1 hl1 hv1 hb1 g7
        have F7 := g7.fr1 F6 (N6 (D, _) (by k_mem)).2
        have N7 := news_turn (l := [_, _, _, _]) (r := []) g7 N6 (ne4 hLD hDf) hD1
        dsimp only [List.cons_append, List.nil_append] at N7
        dsimp only
        k_steps
        unfold Hold
        have hll := len_mid hl1 q6
        rw [hshN, hme, int_split d.l q5, ← Int.natCast_add d.l (d.m / 2)]
        refine (IH ⟨d.x.fdiv (2 ^ (d.m / 2 * n)), _, _, d.tr, vs1, d.ns.take d.l ++ ds1 ++ d.ns.drop (d.l + d.m / 2), d.l + d.m / 2, d.m - d.m / 2⟩ (show d.m - d.m / 2 < d.m from q4)).use B' F7 N7 X' T' c1' c2' c3' rfl (fun _ h => h) ?_ ?_ ?_ ?_
        · exact ⟨codeRec_grown hpc (hg6.trans g7) hD0, hq.2.2.1, abs_low hq.2.2.1 hq.2.2.2 hx1, q3, Nat.le_trans q7 (Nat.le_of_eq hll.symm), Nat.le_trans (Nat.le_of_eq hll) hm2, hi1⟩
        · exact deep_of hd q4
        · exact room_of hu q4
        · rintro r8 h8 tk8 g8 ⟨vs2, ds2, hi2, hl2, hv2, hb2, hD2⟩
          dsimp only at hi2 hl2 hv2 hb2 g8
          have F8 := g8.fr1 F7 (N7 (D, _) (by k_mem)).2
          have N8 := news_turn (l := [_, _, _, _]) (r := []) g8 N7 (ne4 hLD hDf) hD2
          dsimp only [List.cons_append, List.nil_append] at N8
          dsimp only
          k_steps
          dsimp only
          rw [join_two d.ns ds1 ds2 d.l (d.m / 2) d.m (Nat.le_of_lt q1) hm1 hl1] at hi2
          refine Ret.ofA hPost ((hg6.trans g7).trans g8) ⟨vs2, ds1 ++ ds2, hi2, ?_, ?_, ?_, hD2⟩
          · rw [List.length_append, hl1, hl2]; exact q5
          · rw [← hl1] at hv1 hv2
            exact dval_split n d.x ds1 ds2 hv1 hv2
          · intro y hy
            rcases List.mem_append.mp hy with hy | hy
            · exact ⟨(hb1 y hy).1, Int.le_trans (hb1 y hy).2 hq.2.1⟩
            · exact ⟨(hb2 y hy).1, Int.le_trans (hb2 y hy).2 hq.2.2.2⟩
end
end Mine
end

section
open PySem PySem.W PyProof.Rows PySem.Calls PySem.Spec
set_option maxRecDepth 100000
set_option maxHeartbeats 8000000
namespace Mine
theorem fillK_D2b : PySem.Challenge.rw_ph0163_01 = PySem.Challenge.rw_ph0163_01 ∧ Mine.KF = Mine.KF := by
  w_top off
  (try (walk1; fail))
  k_fill
  exact ⟨rfl, rfl⟩
section
variable {M : Model} {A : PySem.Around} {E : Value → Shared → Prop} {s : Shared} {h₀ : Heap} {L a c : Addr} {m mg mb : Str → Option Value} {cn : Str} {cs : Scope} {ccd : Value} {cl : List (Str × Addr)}
  {p : Program} {loose : List Str} {mean : ExcName → Option Value} {name qual : Str} {params : Arguments} {body : List Stmt} {scope : Scope} {pos : Pos} {firstLine : Nat} {clos : List (Str × Addr)}
/-- an inner function is made: its code is made or found -/
theorem def_make {Q : Value → Shared → Prop} {P : Addr} {l₁ c₁ : Int} {ps : Array Value} {kc : Addr} {koc : Obj} {rest : List (Addr × Obj)} (F : Fr h₀ L s.heap m) (N : News h₀ L s.heap ((P, tabObj ps) :: (kc, koc) :: rest)) (T : Top p loose mean mg mb h₀) (C : CodeHd h₀ c P) (hcd : ccd = .ref c)
    (hS : TabS P l₁ c₁ qual ps kc koc) (hl : (pos.line : Int) = l₁) (hc : (pos.col : Int) = c₁) (hn : AllNe P rest) (hcl : closureFor scope (envX cn cs L a ccd cl) = pure clos)
    (h : ∀ f c' oc ctv doc h' tk, Fr h₀ L h' m → News h₀ L h' ((f, fnMade name qual params body scope clos doc ((mg "__name__").getD .none) c' ctv) :: (P, tabObj #[rawInt l₁, rawInt c₁, .ref c']) :: (c', oc) :: rest) → CodeObj oc qual → (∀ q ∈ rest, q.1 < f) →
      ((c' = kc ∧ oc = koc) ∨ (kc = P ∧ ∀ q ∈ rest, q.1 < c')) → Q (.ref f) { s with heap := h', toks := tk }) :
    wpAny M A (makeFunction name qual params (.stmts body) scope (envX cn cs L a ccd cl) [] [] [] pos firstLine) Q E s := by
  subst hl
  subst hc
  rcases hS with ⟨rfl, rfl, rfl⟩ | ⟨rfl, hc⟩
  · have N1 : News h₀ L s.heap ((kc, tabObj #[]) :: rest) := pickN N [0] 2 rfl
    refine nest_K F N1 T C hcd (.head (fun p hp => hn.at p hp)) True.intro rfl hcl ?_
    intro f c' oc vs t ctv doc h' tk F' N' d1 d2 l1 l2
    exact h f c' oc ctv doc h' tk F' (pickN N' [0, 2, 1] 3 rfl) ⟨vs, t, d1, d2⟩ (fun q hq => Nat.lt_trans (l1 q (.tail _ hq)) l2) (.inr ⟨rfl, fun q hq => l1 q (.tail _ hq)⟩)
  · refine nestHit_K (c' := kc) F N T C hcd (.head _) (by simp [TriplesOk, rawInt]) (by simp [codeAmong, rawInt]) hcl ?_
    intro f ctv doc h' tk F' N' l1
    exact h f kc koc ctv doc h' tk F' N' hc (fun q hq => l1 q (.tail _ (.tail _ hq))) (.inl ⟨rfl, rfl⟩)
end
section
variable {prog : Program} {w : World} {p : Program} {loose : List Str} {mean : ExcName → Option Value} {mg mb : Str → Option Value}


/-- the heap has grown: the table alone has turned -/
theorem Entry.grown2 {h g h' : Heap} {L' P kc c' : Addr} {oc oc' : Obj} {ps : Array Value} {m' : Str → Option Value} {R : Prop} {news' : List (Addr × Obj)} (e : Entry h g L' [(P, tabObj ps), (kc, oc)]) (F : Fr g L' h' m') (N : News g L' h' news') (r : (c' = kc ∧ oc' = oc) ∨ (kc = P ∧ R)) (hm : (c', oc') ∈ news') : Grown [P] h h' := by
  refine e.grown F N fun q hq => ?_
  rcases List.mem_cons.mp hq with rfl | hq
  · exact .inl (.head _)
  · rw [List.mem_singleton.mp hq]
    rcases r with ⟨rfl, rfl⟩ | ⟨rfl, _⟩
    · exact .inr hm
    · exact .inl (.head _)
theorem count_facts {X : Int} {k : Nat} (h : X = k) (hk : k ≤ 64) : A4 (-2 ^ 63 ≤ X) (X < 2 ^ 63) (X ≤ ((1048576 : Nat) : Int)) (0 ≤ X) := by
  refine ⟨?_, ?_, ?_, ?_⟩ <;> omega
theorem int2digits_does {ps : Array Value} {kc : Addr} {oc : Obj} {a : Int} {n : Nat} {ta tn : Tok} {k : Nat} (hk1 : k ≤ 64) (hk : ((Builtin.Int.intBits a : Int) + n - 1).fdiv n = k) (hk2 : a ≠ 0 → 0 < k) (hk3 : a = 0 → k = 0) (ha : 0 ≤ a) (ha2 : a.natAbs < 1073741824) (hn : 0 < n) (hn2 : n < 64)
    (hT : TabS 44 45 4 (Str.ofString "_int2digits.<locals>.inner") ps kc oc) :
    Does prog w p loose mean mg mb 49 [.int a ta, .int n tn] 100 800 [(44, tabObj ps), (kc, oc)] (fun _ => True) [44]
      (fun h r h' => E3 fun D vs ds => A8 (r = .ref D) (h.objs.size ≤ D) (h'.get? D = some (W.listOf vs.toArray 0)) (IntsAre vs ds) (ds.length = k) (dval n ds = a) ((∀ y ∈ ds, 0 ≤ y ∧ y ≤ a)) (TabT 44 45 4 (Str.ofString "_int2digits.<locals>.inner") kc oc h h')) := by
  refine' does_ofC (binds := [(Str.ofString "a", .int a ta), (Str.ofString "n", .int n tn)]) ?ho ?hcd ?hb ?hl ?hnd ?c1 ?c2 ?c3 ?c5 ?walk
  case ho => k_dflt k_is
  case hcd => k_dflt k_is
  case hb => exact fun s => BindsTo.of_eq rfl
  case hl => exact rfl
  case hnd => decide +kernel
  case c1 => exact rfl
  case c2 => exact rfl
  case c3 => exact rfl
  case c5 => decide
  case walk =>
    intro dp un gd cn cs a' ccd cl outer A₀ base L s g L' h' tk' cells' hent hpre F' N' Y' B' X' hlt hd hu post9 hPost
    obtain ⟨X', T', c1', c2', c3'⟩ := X'
    k_cells Y'
    try simp only [List.cons_append, List.nil_append] at N'
    dsimp only [AllLt] at hlt
    obtain ⟨b1, b2, b3, b4⟩ := count_facts hk hk1
    try dsimp only
    try k_fold
    k_steps
    unfold Hold
    rename_i oI oA oN dI0 dA0 dN l1 h1 l1a D h2 i1 nn s1 e1 e2 e3 l1b h3 oA1 F5 N5 dA
    k_dflt (refine' nestDef_K ?d0 ?k0 ?a0 ?_; (case d0 => exact rfl); (case k0 => exact rfl); (case a0 => exact rfl))
    refine def_make (qual := Str.ofString "_int2digits.<locals>.inner") (P := 44) (kc := kc) (koc := oc) (rest := [(D, _), (L' + 1 + 1 + 1, oI), (L' + 1 + 1, oA1), (L' + 1, oN)]) F5 (pickN0 N5 [5, 6, 0, 2, 3, 4] rfl) T' c2' rfl hT rfl rfl ⟨Nat.ne_of_gt l1b.2.2.2.2.1, Nat.ne_of_gt (Nat.lt_succ_of_lt (Nat.lt_succ_of_lt (Nat.lt_succ_of_lt hlt.1))), Nat.ne_of_gt (Nat.lt_succ_of_lt (Nat.lt_succ_of_lt hlt.1)), Nat.ne_of_gt (Nat.lt_succ_of_lt hlt.1), trivial⟩ rfl ?_
    intro f c' oc' ctv doc h6 tk6 F6 N6 hCO hlf hrel
    have hfD := hlf (D, _) (.head _)
    have hfI : @Ne Nat f (L' + 1 + 1 + 1) := Nat.ne_of_gt (hlf (L' + 1 + 1 + 1, _) (.tail _ (.head _)))
    have hcI : @Ne Nat c' (L' + 1 + 1 + 1) := by
      rcases hrel with h9 | h9
      · exact h9.1 ▸ Nat.ne_of_lt (Nat.lt_succ_of_lt (Nat.lt_succ_of_lt (Nat.lt_succ_of_lt hlt.2.1)))
      · exact Nat.ne_of_gt (h9.2 (L' + 1 + 1 + 1, _) (.tail _ (.head _)))
    have hcD : @Ne Nat c' D := by
      rcases hrel with h9 | h9
      · exact h9.1 ▸ Nat.ne_of_lt l1b.2.2.2.2.2
      · exact Nat.ne_of_gt (h9.2 (D, _) (.head _))
    have hnew : (c' = kc ∧ oc' = oc) ∨ (kc = 44 ∧ @LE.le Nat _ s.heap.objs.size c') := hrel.imp_right fun h9 => ⟨h9.1, Nat.le_trans hent.size (Nat.le_of_lt (Nat.lt_trans (Nat.lt_succ_self L') (h9.2 (L' + 1, oN) (.tail _ (.tail _ (.tail _ (.head _)))))))⟩
    dsimp only
    k_steps
    · rename_i h7 oI1 F7 N7 dI ha0
      have hnk : (nn : Int) = (k : Int) := by
        have h9 := e3 (by rw [hk]; exact Int.natCast_nonneg _)
        rw [hk] at h9
        exact h9.trans (by rw [Int.natCast_one, Int.one_mul])
      have hCR : h7.CodeRec (.ref c') (Str.ofString "_int2digits.<locals>.inner") := by
        obtain ⟨vs0, t0, x1, x2⟩ := hCO
        exact ⟨c', oc', vs0, t0, rfl, (N7 (c', oc') (by k_mem)).1, x1, x2⟩
      have hLD : @LT.lt Nat _ (L' + 1 + 1 + 1) D := l1b.2.1
      have hrec := i2d_inner (w := w) (prog := prog) (p := p) (loose := loose) (mean := mean) (mg := mg) (mb := mb) (n := n) (tn := tn) (L' := L') (f := f) (c := c') (D := D) (cdoc := doc) (ctv := ctv) rfl hn hn2 dI dA dN hLD hfD
      unfold Hold
      rw [show (nn : Int) = ((0 : Nat) : Int) + (k : Int) by rw [hnk, Int.natCast_zero, Int.zero_add]]
      refine (hrec ⟨a, ta, _, _, (List.replicate ((↑(Builtin.Int.intBits a) + (n : Int) - 1).fdiv ↑n).toNat [Value.int 0 tk']).flatten, List.replicate k 0, 0, k⟩).use B' F7 N7 X' T' c1' c2' c3' rfl ?_ ?_ ?_ ?_ ?_
      · exact sub_pick0 [0, 4, 5, 6, 3] rfl
      · refine ⟨hCR, ha, ha2, hk2 ha0, ?_, ?_, ?_⟩
        · dsimp only; rw [List.length_replicate, Nat.zero_add]; exact Nat.le_refl _
        · dsimp only; rw [List.length_replicate]; exact hk1
        · dsimp only
          rw [hk, krep_flat] at i1
          rw [hk]
          exact i1
      · dsimp only; omega
      · dsimp only; omega
      · rintro r9 h9 tk9 g9 ⟨vs9, ds9, hi9, hl9, hv9, hb9, hD9⟩
        dsimp only at hi9 hl9 hv9 hb9 g9
        have F9 := g9.fr1 F7 (N7 (D, _) (by k_mem)).2
        have N9 := news_turn (l := [_, _, _]) (r := [_, _, _]) g9 N7 (AllNe.at (l := [_, _, _, _, _, _]) ⟨Nat.ne_of_gt hfD, Nat.ne_of_lt l1b.2.2.2.2.1, hcD, Nat.ne_of_lt hLD, Nat.ne_of_lt l1b.2.2.1, Nat.ne_of_lt l1b.2.2.2.1, trivial⟩) hD9
        dsimp only [List.cons_append, List.nil_append] at N9
        dsimp only
        k_steps
        dsimp only
        have hc9 := N9 (c', oc') (by k_mem)
        refine Ret.ofA hPost (hent.grown2 F9 N9 hrel (by k_mem)) ⟨D, vs9, ds9, rfl, ?_, hD9, ?_, hl9, hv9, hb9, c', oc', (N9 (44, _) (by k_mem)).1, hc9.1, hCO, ?_⟩
        · exact Nat.le_trans hent.size (Nat.le_of_lt (Nat.lt_trans (Nat.lt_succ_of_lt (Nat.lt_succ_of_lt (Nat.lt_succ_self L'))) hLD))
        · simpa using hi9
        · exact hnew
    · rename_i h7 oI1 F7 N7 dI ha0
      dsimp only
      refine Ret.ofA hPost (hent.grown2 F7 N7 hrel (by k_mem)) ⟨D, [], [], rfl, ?_, ?_, .nil, (hk3 ha0).symm, ha0.symm, (fun _ h => nomatch h), c', oc', (N7 (44, _) (by k_mem)).1, (N7 (c', oc') (by k_mem)).1, hCO, hnew⟩
      · exact Nat.le_trans hent.size (Nat.le_of_lt (Nat.lt_trans (Nat.lt_succ_of_lt (Nat.lt_succ_of_lt (Nat.lt_succ_self L'))) l1b.2.1))
      · have := (N7 (D, _) (by k_mem)).1
        rw [hk, hk3 ha0] at this
        exact this
end
end Mine
end

section
open PySem PySem.W PyProof.Rows PySem.Calls PySem.Spec
set_option maxRecDepth 100000
set_option maxHeartbeats 8000000
namespace Mine
theorem fillK_D3 : PySem.Challenge.rw_ph0163_01 = PySem.Challenge.rw_ph0163_01 ∧ Mine.KF = Mine.KF := by
  w_top off
  (try (walk1; fail))
  k_fill
  exact ⟨rfl, rfl⟩
section
variable {prog : Program} {w : World} {p : Program} {loose : List Str} {mean : ExcName → Option Value} {mg mb : Str → Option Value}

structure SeD where
  tl : Tok
  tr : Tok
  l : Nat
  m : Nat

theorem d2i_inner {pa : Arguments} {bo : List Stmt} {sc : Scope} (fI : innerIn (Mine.o56 w.params) = some (pa, bo, sc)) {n : Nat} {tn : Tok} {vs : List Value} {e : Nat} {ds : List Int} (hi : IntsAre vs ds) (hk1 : ds.length ≤ 64) (hd0 : ∀ y ∈ ds, 0 ≤ y) (hd1 : dval n ds < 1073741824) (hn : 0 < n) (hn2 : n < 64) {L' f c D : Addr} {cdoc ctv : Value} {oI1 oDg oN : Obj}
    (dI : oI1.data = .cell (some (.ref f))) (dDg : oDg.data = .cell (some (.int n tn))) (dN : oN.data = .cell (some (.ref D))) :
    ∀ d : SeD, Does prog w p loose mean mg mb f [.int d.l d.tl, .int ((d.l : Int) + d.m) d.tr] (d.m + 3) (8 * d.m + 40)
      [(f, fnMade (Str.ofString "inner") (Str.ofString "_digits2int.<locals>.inner") pa bo sc [(Str.ofString "n", L' + 1 + 1), (Str.ofString "inner", L' + 1 + 1 + 1), (Str.ofString "digits", L' + 1)] cdoc ((mg (Str.ofString "__name__")).getD Value.none) c ctv), (L' + 1 + 1 + 1, oI1), (L' + 1 + 1, oDg), (L' + 1, oN), (D, W.listOf vs.toArray e)] (fun h => h.CodeRec (.ref c) (Str.ofString "_digits2int.<locals>.inner") ∧ 0 < d.m ∧ d.l + d.m ≤ ds.length) []
      (fun h r h' => ∃ t, r = .int (dval n ((ds.drop d.l).take d.m)) t) := by
  refine inner_open (P := fun pa bo sc => ∀ d : SeD, Does prog w p loose mean mg mb f [.int d.l d.tl, .int ((d.l : Int) + d.m) d.tr] (d.m + 3) (8 * d.m + 40)
      [(f, fnMade (Str.ofString "inner") (Str.ofString "_digits2int.<locals>.inner") pa bo sc [(Str.ofString "n", L' + 1 + 1), (Str.ofString "inner", L' + 1 + 1 + 1), (Str.ofString "digits", L' + 1)] cdoc ((mg (Str.ofString "__name__")).getD Value.none) c ctv), (L' + 1 + 1 + 1, oI1), (L' + 1 + 1, oDg), (L' + 1, oN), (D, W.listOf vs.toArray e)] (fun h => h.CodeRec (.ref c) (Str.ofString "_digits2int.<locals>.inner") ∧ 0 < d.m ∧ d.l + d.m ≤ ds.length) []
      (fun h r h' => ∃ t, r = .int (dval n ((ds.drop d.l).take d.m)) t)) fI rfl ?_
  refine' rec_of (fun d => d.m) (fun d IH => ?_)
  refine' does_ofF (binds := [(Str.ofString "L", .int d.l d.tl), (Str.ofString "R", .int ((d.l : Int) + d.m) d.tr)]) ?ho ?hcd ?hb ?hl ?c1 ?c2 ?c3 ?c4 ?c5 ?walk
  case ho => exact .head _
  case hcd => exact fun h hp => hp.1
  case hb => exact fun s => BindsTo.of_eq rfl
  case hl => exact locs rfl
  case c1 => exact rfl
  case c2 => exact rfl
  case c3 => exact rfl
  case c4 => decide
  case c5 => omega
  case walk =>
    intro dp un gd cn cs a' ccd cl outer A₀ base L s g L' h' hent hpre F' N' B' X' hlt hd hu post9 hPost
    obtain ⟨X', T', c1', c2', c3'⟩ := X'
    dsimp only [AllLt] at hlt
    obtain ⟨hpc, hm0, hm1⟩ := hpre
    have hme := mid_eq d.l d.m
    have hsh := mid_shift d.l d.m n
    have hs1 : (((d.l : Int) + ((d.l : Int) + (d.m : Int))).fdiv (2 ^ Int.toNat 1) - (d.l : Int)) * (n : Int) ≤ 1000000 := hsh ▸ half_shift hm1 hk1 hn2
    have hs0 : 0 ≤ (((d.l : Int) + ((d.l : Int) + (d.m : Int))).fdiv (2 ^ Int.toNat 1) - (d.l : Int)) * (n : Int) := hsh ▸ Int.natCast_nonneg _
    have hs2 := mid_lo d.l d.m
    have hs3 := mid_hi hm1 hk1
    have hshN : ((((d.l : Int) + ((d.l : Int) + (d.m : Int))).fdiv (2 ^ Int.toNat 1) - (d.l : Int)) * (n : Int)).toNat = d.m / 2 * n := by rw [hsh]; rfl
    try dsimp only
    try k_fold
    k_steps
    · dsimp only
      rename_i hm1e t6
      refine Ret.ofA hPost (hent.grown F' N' (fun q hq => .inr hq)) ⟨t6, ?_⟩
      rw [Int.toNat_natCast, show d.m = 1 by omega, dval_one n ds d.l (by omega)]
    · unfold Hold
      rename_i hm1e h6 F6 N6
      have hm9 : d.m ≠ 1 := by
        rename (d.l : Int) + 1 ≠ (d.l : Int) + (d.m : Int) => z9
        exact fun e => z9 (by rw [e]; rfl)
      obtain ⟨q1, q2, q3, q4, q5, q6, q7⟩ := half_facts (l := d.l) hm0 hm9 hm1
      have hg6 : Grown [] s.heap h6 := hent.grown F6 N6 (fun q hq => .inr hq)
      rw [hme, int_split d.l q5, ← Int.natCast_add d.l (d.m / 2)]
      refine (IH ⟨_, d.tr, d.l + d.m / 2, d.m - d.m / 2⟩ (show d.m - d.m / 2 < d.m from q4)).use B' F6 N6 X' T' c1' c2' c3' rfl (fun _ h => h) ?_ ?_ ?_ ?_
      · exact ⟨hpc.keeps (fun b o => hg6 b o (fun h => nomatch h)), q3, q7⟩
      · exact deep_of hd q4
      · exact room_of hu q4
      · rintro r7 h7 tk7 g7 ⟨t7, rfl⟩
        dsimp only at g7
        have F7 := g7.fr F6 (fun c hc => nomatch hc)
        have N7 := g7.news N6 (fun q hq h => nomatch h)
        have hb7 : (dval n (List.take (d.m - d.m / 2) (List.drop (d.l + d.m / 2) ds))).natAbs < 1073741824 := by
          have := dval_seg n ds (d.l + d.m / 2) (d.m - d.m / 2) hd0
          exact abs_low this.1 this.2 (Int.natAbs_lt_natAbs_of_nonneg_of_lt (Int.le_trans this.1 this.2) hd1)
        dsimp only
        k_steps
        unfold Hold
        rw [hshN, hme]
        refine (IH ⟨d.tl, _, d.l, d.m / 2⟩ (show d.m / 2 < d.m from q1)).use B' F7 N7 X' T' c1' c2' c3' rfl (fun _ h => h) ?_ ?_ ?_ ?_
        · exact ⟨hpc.keeps (fun b o => (hg6.trans g7) b o (fun h => nomatch h)), q2, q6⟩
        · exact deep_of hd q1
        · exact room_of hu q1
        · rintro r8 h8 tk8 g8 ⟨t8, rfl⟩
          dsimp only at g8
          have F8 := g8.fr F7 (fun c hc => nomatch hc)
          have N8 := g8.news N7 (fun q hq h => nomatch h)
          dsimp only
          k_steps
          dsimp only
          rw [dval_halves n ds d.l (d.m / 2) d.m (Nat.le_of_lt q1) hm1]
          exact Ret.ofA hPost ((hg6.trans g7).trans g8) ⟨_, rfl⟩
end
end Mine
end

section
open PySem PySem.W PyProof.Rows PySem.Calls PySem.Spec
set_option maxRecDepth 100000
set_option maxHeartbeats 8000000
namespace Mine
theorem fillK_D3b : PySem.Challenge.rw_ph0163_01 = PySem.Challenge.rw_ph0163_01 ∧ Mine.KF = Mine.KF := by
  w_top off
  (try (walk1; fail))
  k_fill
  exact ⟨rfl, rfl⟩
section
variable {prog : Program} {w : World} {p : Program} {loose : List Str} {mean : ExcName → Option Value} {mg mb : Str → Option Value}


theorem Entry.grown3 {h g h' : Heap} {L' P kc c' : Addr} {oc oc' : Obj} {x : Addr × Obj} {ps : Array Value} {m' : Str → Option Value} {R : Prop} {news' : List (Addr × Obj)} (e : Entry h g L' [x, (P, tabObj ps), (kc, oc)]) (F : Fr g L' h' m') (N : News g L' h' news') (r : (c' = kc ∧ oc' = oc) ∨ (kc = P ∧ R)) (hx : x ∈ news') (hm : (c', oc') ∈ news') : Grown [P] h h' := by
  refine e.grown F N fun q hq => ?_
  rcases List.mem_cons.mp hq with rfl | hq
  · exact .inr hx
  rcases List.mem_cons.mp hq with rfl | hq
  · exact .inl (.head _)
  · rw [List.mem_singleton.mp hq]
    rcases r with ⟨rfl, rfl⟩ | ⟨rfl, _⟩
    · exact .inr hm
    · exact .inl (.head _)
theorem digits2int_does {ps : Array Value} {kc : Addr} {oc : Obj} {n : Nat} {tn : Tok} {D : Addr} {vs : List Value} {e : Nat} {ds : List Int} (hi : IntsAre vs ds) (hk1 : ds.length ≤ 64) (hd0 : ∀ y ∈ ds, 0 ≤ y) (hd1 : dval n ds < 1073741824) (hn : 0 < n) (hn2 : n < 64)
    (hT : TabS 51 60 4 (Str.ofString "_digits2int.<locals>.inner") ps kc oc) :
    Does prog w p loose mean mg mb 56 [.ref D, .int n tn] 100 800 [(D, W.listOf vs.toArray e), (51, tabObj ps), (kc, oc)] (fun _ => True) [51]
      (fun h r h' => ∃ t, r = .int (dval n ds) t ∧ TabT 51 60 4 (Str.ofString "_digits2int.<locals>.inner") kc oc h h') := by
  refine' does_ofC (binds := [(Str.ofString "digits", .ref D), (Str.ofString "n", .int n tn)]) ?ho ?hcd ?hb ?hl ?hnd ?c1 ?c2 ?c3 ?c5 ?walk
  case ho => k_dflt k_is
  case hcd => k_dflt k_is
  case hb => exact fun s => BindsTo.of_eq rfl
  case hl => exact rfl
  case hnd => decide +kernel
  case c1 => exact rfl
  case c2 => exact rfl
  case c3 => exact rfl
  case c5 => decide
  case walk =>
    intro dp un gd cn cs a' ccd cl outer A₀ base L s g L' h' tk' cells' hent hpre F' N' Y' B' X' hlt hd hu post9 hPost
    obtain ⟨X', T', c1', c2', c3'⟩ := X'
    k_cells Y'
    try simp only [List.cons_append, List.nil_append] at N'
    dsimp only [AllLt] at hlt
    try dsimp only
    try k_fold
    have hDn : @Ne Nat D 51 := fun e9 => by
      have h1 := (N' (D, _) (by k_mem)).1
      have h2 := (N' (51, tabObj ps) (by k_mem)).1
      dsimp only at h1 h2
      rw [show D = 51 from e9, h2] at h1
      cases h1
    k_steps
    unfold Hold
    rename_i oI oDg oN dI0 dDg dN
    k_dflt (refine' nestDef_K ?d0 ?k0 ?a0 ?_; (case d0 => exact rfl); (case k0 => exact rfl); (case a0 => exact rfl))
    refine def_make (qual := Str.ofString "_digits2int.<locals>.inner") (P := 51) (kc := kc) (koc := oc) (rest := [(D, _), (L' + 1 + 1 + 1, oI), (L' + 1 + 1, oDg), (L' + 1, oN)]) F' (pickN0 N' [4, 5, 3, 0, 1, 2] rfl) T' c1' rfl hT rfl rfl ⟨hDn, Nat.ne_of_gt (Nat.lt_succ_of_lt (Nat.lt_succ_of_lt (Nat.lt_succ_of_lt hlt.2.1))), Nat.ne_of_gt (Nat.lt_succ_of_lt (Nat.lt_succ_of_lt hlt.2.1)), Nat.ne_of_gt (Nat.lt_succ_of_lt hlt.2.1), trivial⟩ rfl ?_
    intro f c' oc' ctv doc h6 tk6 F6 N6 hCO hlf hrel
    have hfI : @Ne Nat f (L' + 1 + 1 + 1) := Nat.ne_of_gt (hlf (L' + 1 + 1 + 1, _) (.tail _ (.head _)))
    have hcI : @Ne Nat c' (L' + 1 + 1 + 1) := by
      rcases hrel with h9 | h9
      · exact h9.1 ▸ Nat.ne_of_lt (Nat.lt_succ_of_lt (Nat.lt_succ_of_lt (Nat.lt_succ_of_lt hlt.2.2.1)))
      · exact Nat.ne_of_gt (h9.2 (L' + 1 + 1 + 1, _) (.tail _ (.head _)))
    have hnew : (c' = kc ∧ oc' = oc) ∨ (kc = 51 ∧ @LE.le Nat _ s.heap.objs.size c') := hrel.imp_right fun h9 => ⟨h9.1, Nat.le_trans hent.size (Nat.le_of_lt (Nat.lt_trans (Nat.lt_succ_self L') (h9.2 (L' + 1, oN) (.tail _ (.tail _ (.tail _ (.head _)))))))⟩
    dsimp only
    k_steps
    · rename_i h7 oI1 F7 N7 dI ha0
      have hCR : h7.CodeRec (.ref c') (Str.ofString "_digits2int.<locals>.inner") := by
        obtain ⟨vs0, t0, x1, x2⟩ := hCO
        exact ⟨c', oc', vs0, t0, rfl, (N7 (c', oc') (by k_mem)).1, x1, x2⟩
      have hrec := d2i_inner (w := w) (prog := prog) (p := p) (loose := loose) (mean := mean) (mg := mg) (mb := mb) (n := n) (tn := tn) (e := e) (L' := L') (f := f) (c := c') (D := D) (cdoc := doc) (ctv := ctv) rfl hi hk1 hd0 hd1 hn hn2 dI dDg dN
      unfold Hold
      rw [show ((ds.length : Nat) : Int) = ((0 : Nat) : Int) + (ds.length : Int) from (Int.zero_add _).symm]
      refine (hrec ⟨_, _, 0, ds.length⟩).use B' F7 N7 X' T' c1' c2' c3' rfl ?_ ?_ ?_ ?_ ?_
      · exact sub_pick0 [0, 4, 5, 6, 3] rfl
      · exact ⟨hCR, ha0, Nat.le_of_eq (Nat.zero_add _)⟩
      · dsimp only; omega
      · dsimp only; omega
      · rintro r9 h9 tk9 g9 ⟨t9, rfl⟩
        have F9 := g9.fr F7 (fun c hc => nomatch hc)
        have N9 := g9.news N7 (fun q hq h => nomatch h)
        dsimp only
        k_steps
        try dsimp only
        rw [List.drop_zero, List.take_length]
        exact Ret.ofA hPost (hent.grown3 F9 N9 hrel (by k_mem) (by k_mem)) ⟨t9, rfl, c', oc', (N9 (51, _) (by k_mem)).1, (N9 (c', oc') (by k_mem)).1, hCO, hnew⟩
    · rename_i h7 oI1 F7 N7 dI ha0
      try dsimp only
      have hd9 : ds = [] := List.length_eq_zero_iff.mp (by omega)
      subst hd9
      exact Ret.ofA hPost (hent.grown3 F7 N7 hrel (by k_mem) (by k_mem)) ⟨_, rfl, c', oc', (N7 (51, _) (by k_mem)).1, (N7 (c', oc') (by k_mem)).1, hCO, hnew⟩
end
end Mine
end

inductive Mine.StopAt (k : String) : Prop
  | mk
inductive Mine.StopRows (n : Nat) : Prop
  | mk
theorem Mine.hold_rows {prog : Program} {w : World} {A : PySem.Around} {l : List Stmt} {env : Env} {Q : Flow → Shared → Prop} {E : Value → Shared → Prop} {s : Shared} {k : Nat} (hs : Mine.StopRows k) (hl : l.length = k) (h : Mine.Hold (wpAny (model prog w) A (execs l env) Q E s)) : wpAny (model prog w) A (execs l env) Q E s := h
local macro_rules | `(tactic| walk_at $k:str) => `(tactic| (with_reducible (rename Mine.StopAt $k => hStop9); clear hStop9; refine Mine.hold_it ?_))
local macro_rules | `(tactic| walk_at "execs cons") => `(tactic| (with_reducible (rename Mine.StopRows _ => hStop9); refine Mine.hold_rows hStop9 rfl ?_))
section
local macro_rules | `(tactic| walk_at "exec For Name Call cons nil") => `(tactic| (k_here; refine Mine.hold_it ?_))
local macro_rules | `(tactic| walk_at "exec For Name Name cons nil") => `(tactic| (k_here; refine Mine.hold_it ?_))
local macro_rules | `(tactic| walk_at "exec For Name Attribute cons nil") => `(tactic| (k_here; refine Mine.hold_it ?_))
local macro_rules | `(tactic| walk_at "pyIter ref") => `(tactic| (k_here; refine Mine.hold_it ?_))
section
open PySem PySem.W PyProof.Rows PySem.Calls PySem.Spec
set_option maxRecDepth 100000
set_option maxHeartbeats 8000000
namespace Mine
theorem fillK_D4 : PySem.Challenge.rw_ph0163_01 = PySem.Challenge.rw_ph0163_01 ∧ Mine.KF = Mine.KF := by
  w_top off
  (try (walk1; fail))
  k_fill
  exact ⟨rfl, rfl⟩
section
variable {prog : Program} {w : World} {p : Program} {loose : List Str} {mean : ExcName → Option Value} {mg mb : Str → Option Value}

local macro_rules | `(tactic| walk_at "call builtin:list.reverse") => `(tactic| (k_here; (with_reducible show wpAny _ _ (call (Value.builtin _) [Value.ref _]) _ _ _); k_dflt (refine' kl_reverse ?F ?N ?e ?U ?z ?_; (case F => k_asm); (case N => k_asm); (case e => exact rfl); (case U => k_upd); (case z => assumption)); intro h' F' N'))

theorem divmod_pos_does {p44 p51 : Array Value} {k1 k2 : Addr} {o1 o2 : Obj} {a b : Int} {ta tb : Tok} (ha : 0 ≤ a) (ha2 : a.natAbs < 1073741824) (hb : 0 < b) (hb2 : b.natAbs < 1073741824)
    (hT1 : TabS 44 45 4 (Str.ofString "_int2digits.<locals>.inner") p44 k1 o1) (hT2 : TabS 51 60 4 (Str.ofString "_digits2int.<locals>.inner") p51 k2 o2) :
    Does prog w p loose mean mg mb 63 [.int a ta, .int b tb] 110 900 [(44, tabObj p44), (51, tabObj p51), (k1, o1), (k2, o2)] (fun _ => True) [44, 51]
      (fun h r h' => E3 fun q t1 t2 => A5 (r = .ref q) (h.objs.size ≤ q) (h'.get? q = some (tupObj [.int (a.fdiv b) t1, .int (a.fmod b) t2])) (TabT 44 45 4 (Str.ofString "_int2digits.<locals>.inner") k1 o1 h h') (TabT 51 60 4 (Str.ofString "_digits2int.<locals>.inner") k2 o2 h h')) := by
  refine' does_of (binds := [(Str.ofString "a", .int a ta), (Str.ofString "b", .int b tb)]) ?ho ?hcd ?hb ?hl ?c1 ?c2 ?c3 ?c4 ?c5 ?walk
  case ho => k_dflt k_is
  case hcd => k_dflt k_is
  case hb => exact fun s => BindsTo.of_eq rfl
  case hl => exact locs rfl
  case c1 => exact rfl
  case c2 => exact rfl
  case c3 => exact rfl
  case c4 => decide
  case c5 => decide
  case walk =>
    intro dp un gd cn cs a' ccd cl outer A₀ base L s g L' h' hent hpre F' N' B' X' hlt hd hu post9 hPost
    obtain ⟨X', T', c1', c2', c3'⟩ := X'
    dsimp only [AllLt] at hlt
    try dsimp only
    try k_fold
    k_steps
    unfold Hold
    rename_i h5 F5 N5
    have hsz5 : s.heap.objs.size ≤ h5.objs.size := hent.size_le F5
    have hn1 : 0 < Builtin.Int.intBits b := bits_pos (by omega)
    have hn2 : Builtin.Int.intBits b ≤ 30 := intBits_le_iff.mpr hb2
    have ha3 : Builtin.Int.intBits a ≤ 30 := intBits_le_iff.mpr ha2
    have hk := bits_div (Builtin.Int.intBits a) (Builtin.Int.intBits b) hn1
    have hk9 := bits_div_le (Builtin.Int.intBits a) (Builtin.Int.intBits b) hn1
    refine (int2digits_does (ps := p44) (kc := k1) (oc := o1) (k := (Builtin.Int.intBits a + Builtin.Int.intBits b - 1) / Builtin.Int.intBits b) (by omega) hk (fun h => bits_div_pos _ _ hn1 (bits_pos h)) (fun h => by rw [h]; exact bits_div_zero _ hn1) ha ha2 hn1 (by omega) hT1).use B' F5 N5 X' T' c1' c2' c3' rfl ?_ ?_ ?_ ?_ ?_
    · exact sub_pick0 [0, 2] rfl
    · trivial
    · dsimp only; omega
    · dsimp only; omega
    rintro r7 h7 tk7 g7 ⟨D, vs, ds, rfl, hDf, hD, hi, hl, hv, hbd, c1, oc1, hT7, hC7, hO7, hc7⟩
    dsimp only at hDf hc7
    have F7 := g7.fr1 F5 (N5 (44, _) (.head _)).2
    have hk2n : k2 ≠ 44 := hT2.ne (by decide) hT1.noRec (N5 (k2, o2) (by k_mem)).1 (N5 (44, tabObj p44) (by k_mem)).1
    have N7 : News g L' h7 [(D, W.listOf vs.toArray 0), (44, tabObj #[rawInt 45, rawInt 4, .ref c1]), (51, tabObj p51), (c1, oc1), (k2, o2)] := by
      exact news_add F5 (newsP (l := [(44, tabObj #[rawInt 45, rawInt 4, .ref c1]), (51, tabObj p51), (c1, oc1), (k2, o2)]) ⟨⟨hT7, (N5 (44, tabObj p44) (by k_mem)).2⟩, keep_one g7 (N5 (51, tabObj p51) (by k_mem)) (show (51 : Nat) ≠ 44 by decide), pick_ok F5 (N5 (k1, o1) (by k_mem)) hC7 hc7, keep_one g7 (N5 (k2, o2) (by k_mem)) hk2n, trivial⟩) hDf hD
    have l7 := news_lt N5 hDf
    dsimp only [AllLt] at l7
    clear N5 F5
    dsimp only
    k_steps
    unfold Hold
    rename_i h8 h9 l h10 l8 h11 F8 N8
    with_unfolding_all refine For_invVF F8 rfl rfl ?_
    k_steps
    unfold Hold
    rename_i I h12 F9 N9 l9
    have hlen : ds.length = vs.length := hi.length.symm
    refine iterJ_rev (vs := vs) (e := 0) (J := fun i m news => E5 fun qvs qs e r tr => A8 (news = [(l, W.listOf qvs.toArray e), (D, W.listOf vs.toArray 0), (44, tabObj #[rawInt 45, rawInt 4, .ref c1]), (51, tabObj p51), (c1, oc1), (k2, o2)]) (IntsAre qvs qs) (qs.length = i) ((∀ y ∈ qs, 0 ≤ y)) (0 ≤ r) (r < b) (dval (Builtin.Int.intBits b) qs.reverse * b + r = dval (Builtin.Int.intBits b) (ds.drop (ds.length - i))) (∃ tn, Knows m [(Str.ofString "b", .int b tb), (Str.ofString "n", .int (Builtin.Int.intBits b) tn), (Str.ofString "r", .int r tr), (Str.ofString "q_digits", .ref l)])) rfl F9 N9 ?_ ?_ ?_ ?_ ?_ ?_
    · refine ⟨?_, ?_, ?_, ?_, ?_, ?_, trivial⟩ <;> (refine neN ?_; dsimp only; omega)
    · exact .tail _ (.head _)
    · rintro i m k ⟨qvs, qs, e, r, tr, rfl, _⟩
      exact .tail _ (.head _)
    · refine ⟨[], [], 0, 0, _, rfl, .nil, rfl, (fun _ h => nomatch h), Int.le_refl _, hb, ?_, _, rfl, rfl, rfl, rfl, trivial⟩
      rw [Nat.sub_zero, List.drop_length]
      simp [dval]
    · rintro i v m₁ news₁ h13 tk13 it hil hv13 ⟨qvs, qs, e, r, tr, rfl, hq1, hq2, hq3, hr0, hr1, hq4, tn, hkn⟩ F13 N13 hn13 K hK Q9 hQ s1 hs1
      obtain ⟨d, td, rfl, hd9⟩ := ints_rev hi hv13 hil
      have hdm := hbd d (List.mem_of_getElem? hd9)
      have F14 := Fr.knows F13 hkn
      dsimp only [at_] at F14
      clear F13
      simp only [AllNe, and_true] at hn13
      have hst := div_step (Builtin.Int.intBits b) ds i d b r qs hb (by omega) hd9 hdm.1 hr0 hq4
      k_steps
      unfold Hold
      rw [Int.toNat_natCast]
      refine (div2n1n_does (by omega) hb2 (div_size r d _ hn2 (by omega) (by omega))).use B' F14 N13 X' T' c1' c2' c3' rfl (fun _ h => nomatch h) trivial ?_ ?_ ?_
      · dsimp only; omega
      · dsimp only; omega
      rintro r15 h15 tk15 g15 ⟨q, t1, t2, rfl, hqf, hq⟩
      dsimp only at hqf
      have F15 := g15.fr F14 (fun c hc => nomatch hc)
      have N15 := news_add F14 (g15.news N13 (fun q hq h => nomatch h)) hqf hq
      have l15 := news_lt N13 hqf
      dsimp only [AllLt] at l15
      dsimp only
      k_steps
      rename_i F16 N16
      refine TurnJ.nextA hK F16 N16 (news' := _) (.tail _ (.head _)) (fun p hp => .tail _ (.tail _ hp)) ?_ ⟨qvs ++ [.int ((r * 2 ^ Builtin.Int.intBits b + d).fdiv b) t1], qs ++ [(r * 2 ^ Builtin.Int.intBits b + d).fdiv b], e + 1, _, t2, ?_, hq1.append (.cons _ _ .nil), ?_, ?_, hst.2.2.1, hst.2.2.2, hst.1, tn, rfl, rfl, rfl, rfl, trivial⟩
      · simp only [AllNe, and_true]; exact hn13
      · simp
      · rw [List.length_append, hq2]; rfl
      · intro y hy
        rcases List.mem_append.mp hy with hy | hy
        · exact hq3 y hy
        · rw [List.mem_singleton.mp hy]; exact hst.2.1
    · rintro m₁ news₁ h13 tk13 ⟨qvs, qs, e, r, tr, rfl, hq1, hq2, hq3, hr0, hr1, hq4, tn, hkn⟩ F13 N13
      have F14 := Fr.knows0 F13 hkn
      dsimp only [at_] at F14
      clear F13 F9 N9
      rw [← hlen] at hq2 hq4
      have hend := div_end (Builtin.Int.intBits b) ds qs b r hb hr0 hr1 hq4
      have hz : qvs.toArray.toList.length ≤ sizeLine := by
        have h1 : qvs.toArray.toList.length = qs.length := by rw [← hq1.length]
        rw [h1, sizeLine_eq]; omega
      dsimp only
      k_steps
      unfold Hold
      rename_i F16 N16
      have hsz16' := hent.size_le F16
      have hsz : dval (Builtin.Int.intBits b) qs.reverse < 1073741824 := by
        rw [hend.1, hv]
        have := natAbs_fdiv_le a b
        omega
      refine (digits2int_does (ps := p51) (kc := k2) (oc := o2) (e := e) (vs := qvs.reverse) (ds := qs.reverse) (ints_reverse hq1) (by rw [List.length_reverse]; omega) (fun y hy => hq3 y (List.mem_reverse.mp hy)) hsz hn1 (by omega) hT2).use B' F16 N16 X' T' c1' c2' c3' rfl ?_ ?_ ?_ ?_ ?_
      · exact sub_pick0 [0, 3, 5] rfl
      · trivial
      · dsimp only; omega
      · dsimp only; omega
      rintro r17 h17 tk17 g17 ⟨t17, rfl, c2, oc2, hT17, hC17, hO17, hc17⟩
      dsimp only at hc17
      have F17 := g17.fr1 F16 (N16 (51, _) (by k_mem)).2
      have hc1n : c1 ≠ 51 := hO7.ne hT2.noRec (N16 (c1, oc1) (by k_mem)).1 (N16 (51, tabObj p51) (by k_mem)).1
      have N17 : News g L' h17 [(44, tabObj #[rawInt 45, rawInt 4, .ref c1]), (51, tabObj #[rawInt 60, rawInt 4, .ref c2]), (c1, oc1), (c2, oc2), (D, W.listOf vs.toArray 0)] := by
        exact newsP ⟨keep_one g17 (N16 (44, tabObj #[rawInt 45, rawInt 4, .ref c1]) (by k_mem)) (show (44 : Nat) ≠ 51 by decide), ⟨hT17, (N16 (51, tabObj p51) (by k_mem)).2⟩, keep_one g17 (N16 (c1, oc1) (by k_mem)) hc1n, pick_ok F16 (N16 (k2, o2) (by k_mem)) hC17 hc17, keep_one g17 (N16 (D, W.listOf vs.toArray 0) (by k_mem)) (neN (a := D) (b := 51) (by omega)), trivial⟩
      dsimp only
      k_steps
      try dsimp only
      rename_i F18 N18 l18
      have hend1 := hend.1
      have hend2 := hend.2
      rw [hv] at hend1 hend2
      rw [hend1, hend2] at N18
      dsimp only [qk]
      refine Ret.ofA hPost (hent.grown F18 N18 ?_) ⟨_, _, _, rfl, ?_, (N18 _ (.head _)).1, ⟨c1, oc1, (N18 (44, tabObj #[rawInt 45, rawInt 4, .ref c1]) (by k_mem)).1, (N18 (c1, oc1) (by k_mem)).1, hO7, hc7.imp id fun x => ⟨x.1, Nat.le_trans hsz5 x.2⟩⟩, ⟨c2, oc2, (N18 (51, tabObj #[rawInt 60, rawInt 4, .ref c2]) (by k_mem)).1, (N18 (c2, oc2) (by k_mem)).1, hO17, hc17.imp id fun x => ⟨x.1, Nat.le_trans hsz16' x.2⟩⟩⟩
      · exact AllP.mem ⟨.inl (.head _), .inl (.tail _ (.head _)), hc7.elim (fun h => h.1 ▸ h.2 ▸ .inr (by k_mem)) (fun h => .inl (h.1 ▸ .head _)), hc17.elim (fun h => h.1 ▸ h.2 ▸ .inr (by k_mem)) (fun h => .inl (h.1 ▸ .tail _ (.head _))), trivial⟩
      · exact Nat.le_trans (Nat.le_trans hsz5 hDf) (Nat.le_of_lt (ltN (by omega)))
end
end Mine
end

section
open PySem PySem.W PyProof.Rows PySem.Calls PySem.Spec
set_option maxRecDepth 100000
set_option maxHeartbeats 8000000
namespace Mine
theorem fillK_D5 : PySem.Challenge.rw_ph0163_01 = PySem.Challenge.rw_ph0163_01 ∧ Mine.KF = Mine.KF := by
  w_top off
  (try (walk1; fail))
  k_fill
  exact ⟨rfl, rfl⟩
section
variable {prog : Program} {w : World} {p : Program} {loose : List Str} {mean : ExcName → Option Value} {mg mb : Str → Option Value}

theorem not_fdiv (a b : Int) (hb : 0 < b) : Builtin.bitNot ((Builtin.bitNot a).fdiv b) = a.fdiv b ∧ b + Builtin.bitNot ((Builtin.bitNot a).fmod b) = a.fmod b := by
  unfold Builtin.bitNot
  rw [Int.fdiv_eq_ediv_of_nonneg _ (Int.le_of_lt hb), Int.fmod_eq_emod_of_nonneg _ (Int.le_of_lt hb), Int.fdiv_eq_ediv_of_nonneg _ (Int.le_of_lt hb), Int.fmod_eq_emod_of_nonneg _ (Int.le_of_lt hb)]
  have h1 := Int.mul_ediv_add_emod (-a - 1) b
  have h2 := Int.emod_nonneg (-a - 1) (show b ≠ 0 by omega)
  have h3 := Int.emod_lt_of_pos (-a - 1) hb
  have e : a = (b - 1 - (-a - 1) % b) + b * (-((-a - 1) / b) - 1) := by
    rw [Int.mul_sub, Int.mul_neg, Int.mul_one]
    omega
  have h4 : a / b = -((-a - 1) / b) - 1 := by
    conv => lhs; rw [e]
    rw [Int.add_mul_ediv_left _ _ (by omega), Int.ediv_eq_zero_of_lt (by omega) (by omega), Int.zero_add]
  have h5 : a % b = b - 1 - (-a - 1) % b := by
    conv => lhs; rw [e]
    rw [Int.add_mul_emod_self_left, Int.emod_eq_of_lt (by omega) (by omega)]
  rw [h4, h5]
  omega
theorem neg_fdiv_neg' (a b : Int) : (-a).fdiv (-b) = a.fdiv b := Int.neg_fdiv_neg a b
theorem neg_fmod_neg' (a b : Int) : -((-a).fmod (-b)) = a.fmod b := by
  rw [Int.fmod_def, Int.fmod_def, Int.neg_fdiv_neg, Int.neg_mul]
  omega

theorem int_divmod_pp {p44 p51 : Array Value} {k1 k2 : Addr} {o1 o2 : Obj} {a b : Int} {ta tb : Tok} (ha : 0 ≤ a) (ha2 : a.natAbs < 1073741824) (hb : 0 < b) (hb2 : b.natAbs < 1073741824)
    (hT1 : TabS 44 45 4 (Str.ofString "_int2digits.<locals>.inner") p44 k1 o1) (hT2 : TabS 51 60 4 (Str.ofString "_digits2int.<locals>.inner") p51 k2 o2) :
    Does prog w p loose mean mg mb 70 [.int a ta, .int b tb] 120 910 [(44, tabObj p44), (51, tabObj p51), (k1, o1), (k2, o2)] (fun _ => True) [44, 51]
      (fun h r h' => E3 fun q t1 t2 => A5 (r = .ref q) (h.objs.size ≤ q) (h'.get? q = some (tupObj [.int (a.fdiv b) t1, .int (a.fmod b) t2])) (TabT 44 45 4 (Str.ofString "_int2digits.<locals>.inner") k1 o1 h h') (TabT 51 60 4 (Str.ofString "_digits2int.<locals>.inner") k2 o2 h h')) := by
  refine' does_of (binds := [(Str.ofString "a", .int a ta), (Str.ofString "b", .int b tb)]) ?ho ?hcd ?hb ?hl ?c1 ?c2 ?c3 ?c4 ?c5 ?walk
  case ho => k_dflt k_is
  case hcd => k_dflt k_is
  case hb => exact fun s => BindsTo.of_eq rfl
  case hl => exact locs rfl
  case c1 => exact rfl
  case c2 => exact rfl
  case c3 => exact rfl
  case c4 => decide
  case c5 => decide
  case walk =>
    intro dp un gd cn cs a' ccd cl outer A₀ base L s g L' h' hent hpre F' N' B' X' hlt hd hu post9 hPost
    obtain ⟨X', T', c1', c2', c3'⟩ := X'
    dsimp only [AllLt] at hlt
    try dsimp only
    try k_fold
    k_steps
    all_goals first | (exfalso; omega) | skip
    unfold Hold
    refine (divmod_pos_does ha ha2 hb hb2 hT1 hT2).use B' (by assumption) (by assumption) X' T' c1' c2' c3' rfl (fun q hq => hq) trivial (by dsimp only; omega) (by dsimp only; omega) ?_
    rintro r7 h7 tk7 g7 ⟨q, t1, t2, rfl, hqf, hq, ⟨c1, oc1, hT7, hC7, hO7, hc7⟩, ⟨c2, oc2, hT8, hC8, hO8, hc8⟩⟩
    dsimp only at hqf hc7 hc8

    rename Fr _ _ _ _ => F5
    rename News _ _ _ _ => N5
    have hsz := hent.size_le F5
    have hgr : Grown [44, 51] s.heap h7 := (hent.grown F5 N5 (fun q hq => .inr hq)).trans g7

    dsimp only
    k_steps
    try dsimp only [qk]
    exact Ret.ofA hPost hgr ⟨q, t1, t2, rfl, Nat.le_trans hsz hqf, hq, ⟨c1, oc1, hT7, hC7, hO7, hc7.imp id fun x => ⟨x.1, Nat.le_trans hsz x.2⟩⟩, ⟨c2, oc2, hT8, hC8, hO8, hc8.imp id fun x => ⟨x.1, Nat.le_trans hsz x.2⟩⟩⟩

theorem int_divmod_np {p44 p51 : Array Value} {k1 k2 : Addr} {o1 o2 : Obj} {a b : Int} {ta tb : Tok} (ha : a < 0) (ha2 : a.natAbs < 1073741824) (hb : 0 < b) (hb2 : b.natAbs < 1073741824)
    (hT1 : TabS 44 45 4 (Str.ofString "_int2digits.<locals>.inner") p44 k1 o1) (hT2 : TabS 51 60 4 (Str.ofString "_digits2int.<locals>.inner") p51 k2 o2) :
    Does prog w p loose mean mg mb 70 [.int a ta, .int b tb] 122 920 [(44, tabObj p44), (51, tabObj p51), (k1, o1), (k2, o2)] (fun _ => True) [44, 51]
      (fun h r h' => E3 fun q t1 t2 => A5 (r = .ref q) (h.objs.size ≤ q) (h'.get? q = some (tupObj [.int (a.fdiv b) t1, .int (a.fmod b) t2])) (TabT 44 45 4 (Str.ofString "_int2digits.<locals>.inner") k1 o1 h h') (TabT 51 60 4 (Str.ofString "_digits2int.<locals>.inner") k2 o2 h h')) := by
  refine' does_of (binds := [(Str.ofString "a", .int a ta), (Str.ofString "b", .int b tb)]) ?ho ?hcd ?hb ?hl ?c1 ?c2 ?c3 ?c4 ?c5 ?walk
  case ho => k_dflt k_is
  case hcd => k_dflt k_is
  case hb => exact fun s => BindsTo.of_eq rfl
  case hl => exact locs rfl
  case c1 => exact rfl
  case c2 => exact rfl
  case c3 => exact rfl
  case c4 => decide
  case c5 => decide
  case walk =>
    intro dp un gd cn cs a' ccd cl outer A₀ base L s g L' h' hent hpre F' N' B' X' hlt hd hu post9 hPost
    obtain ⟨X', T', c1', c2', c3'⟩ := X'
    dsimp only [AllLt] at hlt
    try dsimp only
    try k_fold
    k_steps
    all_goals first | (exfalso; omega) | skip
    unfold Hold
    refine (int_divmod_pp (a := Builtin.bitNot a) (b := b) (by unfold Builtin.bitNot; omega) (by unfold Builtin.bitNot; omega) hb hb2 hT1 hT2).use B' (by assumption) (by assumption) X' T' c1' c2' c3' rfl (fun q hq => hq) trivial (by dsimp only; omega) (by dsimp only; omega) ?_
    rintro r7 h7 tk7 g7 ⟨q, t1, t2, rfl, hqf, hq, ⟨c1, oc1, hT7, hC7, hO7, hc7⟩, ⟨c2, oc2, hT8, hC8, hO8, hc8⟩⟩
    dsimp only at hqf hc7 hc8

    rename Fr _ _ _ _ => F5
    rename News _ _ _ _ => N5
    have hsz := hent.size_le F5
    have F7 := g7.fr2 F5 (N5 (44, tabObj p44) (by k_mem)).2 (N5 (51, tabObj p51) (by k_mem)).2
    have N7 := news_add F5 (news_tabs F5 N5 hT7 hC7 hc7 hT8 hC8 hc8) hqf hq
    clear F5
    dsimp only
    k_steps
    try dsimp only [qk]
    rename_i F9 N9 l9
    have hnf := not_fdiv a b hb
    rw [hnf.1, hnf.2] at N9
    refine Ret.ofA hPost (hent.grown F9 N9 ?_) ⟨_, _, _, rfl, ?_, (N9 _ (.head _)).1, ⟨c1, oc1, (N9 (44, tabObj #[rawInt 45, rawInt 4, .ref c1]) (by k_mem)).1, (N9 (c1, oc1) (by k_mem)).1, hO7, hc7.imp id fun x => ⟨x.1, Nat.le_trans hsz x.2⟩⟩, ⟨c2, oc2, (N9 (51, tabObj #[rawInt 60, rawInt 4, .ref c2]) (by k_mem)).1, (N9 (c2, oc2) (by k_mem)).1, hO8, hc8.imp id fun x => ⟨x.1, Nat.le_trans hsz x.2⟩⟩⟩
    · exact AllP.mem ⟨.inl (.head _), .inl (.tail _ (.head _)), hc7.elim (fun h => h.1 ▸ h.2 ▸ .inr (by k_mem)) (fun h => .inl (h.1 ▸ .head _)), hc8.elim (fun h => h.1 ▸ h.2 ▸ .inr (by k_mem)) (fun h => .inl (h.1 ▸ .tail _ (.head _))), trivial⟩
    · exact Nat.le_trans (Nat.le_trans hsz hqf) (Nat.le_of_lt (ltN (by omega)))

theorem int_divmod_p {p44 p51 : Array Value} {k1 k2 : Addr} {o1 o2 : Obj} {a b : Int} {ta tb : Tok} (ha2 : a.natAbs < 1073741824) (hb : 0 < b) (hb2 : b.natAbs < 1073741824)
    (hT1 : TabS 44 45 4 (Str.ofString "_int2digits.<locals>.inner") p44 k1 o1) (hT2 : TabS 51 60 4 (Str.ofString "_digits2int.<locals>.inner") p51 k2 o2) :
    Does prog w p loose mean mg mb 70 [.int a ta, .int b tb] 122 920 [(44, tabObj p44), (51, tabObj p51), (k1, o1), (k2, o2)] (fun _ => True) [44, 51]
      (fun h r h' => E3 fun q t1 t2 => A5 (r = .ref q) (h.objs.size ≤ q) (h'.get? q = some (tupObj [.int (a.fdiv b) t1, .int (a.fmod b) t2])) (TabT 44 45 4 (Str.ofString "_int2digits.<locals>.inner") k1 o1 h h') (TabT 51 60 4 (Str.ofString "_digits2int.<locals>.inner") k2 o2 h h')) := by
  intro dp un gd cn cs a' ccd cl outer A₀ base h₀ L m s Q E B F X hke N hpre hd hu hret
  rcases Int.lt_or_le a 0 with ha | ha
  · exact int_divmod_np ha ha2 hb hb2 hT1 hT2 dp un gd cn cs a' ccd cl outer A₀ base h₀ L m s Q E B F X hke N hpre hd hu hret
  · exact int_divmod_pp ha ha2 hb hb2 hT1 hT2 dp un gd cn cs a' ccd cl outer A₀ base h₀ L m s Q E B F X hke N hpre (by omega) (by omega) hret

theorem int_divmod_n {p44 p51 : Array Value} {k1 k2 : Addr} {o1 o2 : Obj} {a b : Int} {ta tb : Tok} (ha2 : a.natAbs < 1073741824) (hb : b < 0) (hb2 : b.natAbs < 1073741824)
    (hT1 : TabS 44 45 4 (Str.ofString "_int2digits.<locals>.inner") p44 k1 o1) (hT2 : TabS 51 60 4 (Str.ofString "_digits2int.<locals>.inner") p51 k2 o2) :
    Does prog w p loose mean mg mb 70 [.int a ta, .int b tb] 124 930 [(44, tabObj p44), (51, tabObj p51), (k1, o1), (k2, o2)] (fun _ => True) [44, 51]
      (fun h r h' => E3 fun q t1 t2 => A5 (r = .ref q) (h.objs.size ≤ q) (h'.get? q = some (tupObj [.int (a.fdiv b) t1, .int (a.fmod b) t2])) (TabT 44 45 4 (Str.ofString "_int2digits.<locals>.inner") k1 o1 h h') (TabT 51 60 4 (Str.ofString "_digits2int.<locals>.inner") k2 o2 h h')) := by
  refine' does_of (binds := [(Str.ofString "a", .int a ta), (Str.ofString "b", .int b tb)]) ?ho ?hcd ?hb ?hl ?c1 ?c2 ?c3 ?c4 ?c5 ?walk
  case ho => k_dflt k_is
  case hcd => k_dflt k_is
  case hb => exact fun s => BindsTo.of_eq rfl
  case hl => exact locs rfl
  case c1 => exact rfl
  case c2 => exact rfl
  case c3 => exact rfl
  case c4 => decide
  case c5 => decide
  case walk =>
    intro dp un gd cn cs a' ccd cl outer A₀ base L s g L' h' hent hpre F' N' B' X' hlt hd hu post9 hPost
    obtain ⟨X', T', c1', c2', c3'⟩ := X'
    dsimp only [AllLt] at hlt
    try dsimp only
    try k_fold
    k_steps
    all_goals first | (exfalso; omega) | skip
    unfold Hold
    refine (int_divmod_p (a := -a) (b := -b) (by omega) (by omega) (by omega) hT1 hT2).use B' (by assumption) (by assumption) X' T' c1' c2' c3' rfl (fun q hq => hq) trivial (by dsimp only; omega) (by dsimp only; omega) ?_
    rintro r7 h7 tk7 g7 ⟨q, t1, t2, rfl, hqf, hq, ⟨c1, oc1, hT7, hC7, hO7, hc7⟩, ⟨c2, oc2, hT8, hC8, hO8, hc8⟩⟩
    dsimp only at hqf hc7 hc8

    rename Fr _ _ _ _ => F5
    rename News _ _ _ _ => N5
    have hsz := hent.size_le F5
    have F7 := g7.fr2 F5 (N5 (44, tabObj p44) (by k_mem)).2 (N5 (51, tabObj p51) (by k_mem)).2
    have N7 := news_add F5 (news_tabs F5 N5 hT7 hC7 hc7 hT8 hC8 hc8) hqf hq
    clear F5
    dsimp only
    k_steps
    try dsimp only [qk]
    rename_i F9 N9 l9
    rw [neg_fdiv_neg', neg_fmod_neg'] at N9
    refine Ret.ofA hPost (hent.grown F9 N9 ?_) ⟨_, _, _, rfl, ?_, (N9 _ (.head _)).1, ⟨c1, oc1, (N9 (44, tabObj #[rawInt 45, rawInt 4, .ref c1]) (by k_mem)).1, (N9 (c1, oc1) (by k_mem)).1, hO7, hc7.imp id fun x => ⟨x.1, Nat.le_trans hsz x.2⟩⟩, ⟨c2, oc2, (N9 (51, tabObj #[rawInt 60, rawInt 4, .ref c2]) (by k_mem)).1, (N9 (c2, oc2) (by k_mem)).1, hO8, hc8.imp id fun x => ⟨x.1, Nat.le_trans hsz x.2⟩⟩⟩
    · exact AllP.mem ⟨.inl (.head _), .inl (.tail _ (.head _)), hc7.elim (fun h => h.1 ▸ h.2 ▸ .inr (by k_mem)) (fun h => .inl (h.1 ▸ .head _)), hc8.elim (fun h => h.1 ▸ h.2 ▸ .inr (by k_mem)) (fun h => .inl (h.1 ▸ .tail _ (.head _))), trivial⟩
    · exact Nat.le_trans (Nat.le_trans hsz hqf) (Nat.le_of_lt (ltN (by omega)))

theorem int_divmod_does {p44 p51 : Array Value} {k1 k2 : Addr} {o1 o2 : Obj} {a b : Int} {ta tb : Tok} (ha2 : a.natAbs < 1073741824) (hb : b ≠ 0) (hb2 : b.natAbs < 1073741824)
    (hT1 : TabS 44 45 4 (Str.ofString "_int2digits.<locals>.inner") p44 k1 o1) (hT2 : TabS 51 60 4 (Str.ofString "_digits2int.<locals>.inner") p51 k2 o2) :
    Does prog w p loose mean mg mb 70 [.int a ta, .int b tb] 124 930 [(44, tabObj p44), (51, tabObj p51), (k1, o1), (k2, o2)] (fun _ => True) [44, 51]
      (fun h r h' => E3 fun q t1 t2 => A5 (r = .ref q) (h.objs.size ≤ q) (h'.get? q = some (tupObj [.int (a.fdiv b) t1, .int (a.fmod b) t2])) (TabT 44 45 4 (Str.ofString "_int2digits.<locals>.inner") k1 o1 h h') (TabT 51 60 4 (Str.ofString "_digits2int.<locals>.inner") k2 o2 h h')) := by
  intro dp un gd cn cs a' ccd cl outer A₀ base h₀ L m s Q E B F X hke N hpre hd hu hret
  rcases Int.lt_or_le b 0 with hb0 | hb0
  · exact int_divmod_n ha2 hb0 hb2 hT1 hT2 dp un gd cn cs a' ccd cl outer A₀ base h₀ L m s Q E B F X hke N hpre hd hu hret
  · exact int_divmod_p ha2 (by omega) hb2 hT1 hT2 dp un gd cn cs a' ccd cl outer A₀ base h₀ L m s Q E B F X hke N hpre (by omega) (by omega) hret
end
end Mine
end

section
open PySem PySem.W PyProof.Rows PySem.Calls PySem.Spec
set_option maxRecDepth 100000
set_option maxHeartbeats 8000000
namespace Mine
theorem fillK_D6 : PySem.Challenge.rw_ph0163_01 = PySem.Challenge.rw_ph0163_01 ∧ Mine.KF = Mine.KF := by
  w_top off
  (try (walk1; fail))
  k_fill
  exact ⟨rfl, rfl⟩
section
variable {prog : Program} {w : World} {p : Program} {loose : List Str} {mean : ExcName → Option Value} {mg mb : Str → Option Value}


/-- a prime for a prime's power, else one (the sizes to 12) -/
noncomputable def primeOf (s : Nat) : Nat := [0, 1, 2, 3, 2, 5, 1, 7, 2, 3, 1, 11, 1].getD s 1
theorem prime_found : ∀ s : Nat, s < 13 → ∀ p : Nat, p < 13 → (2 ≤ p ∧ s % p = 0 ∧ 1 ≤ s ∧ ∀ q : Nat, q < p → (2 ≤ q → s % q ≠ 0)) → primeOf s = (if p ^ 4 % s = 0 then p else 1) := by decide +kernel
theorem prime_none : ∀ s : Nat, s < 13 → (1 ≤ s ∧ ∀ q : Nat, q < s + 1 → (2 ≤ q → s % q ≠ 0)) → primeOf s = 1 := by decide +kernel
theorem fmod_cast (a b : Nat) : (a : Int).fmod (b : Int) = ((a % b : Nat) : Int) := by rw [Int.fmod_eq_emod_of_nonneg _ (by omega)]; norm_cast
theorem law_prime_does {s0 : Nat} {ts : Tok} (h1 : 1 ≤ s0) (h2 : s0 ≤ 12) :
    Does prog w p loose mean mg mb 143 [.int s0 ts] 4 40 [] (fun _ => True) []
      (fun h r h' => ∃ t, r = .int (primeOf s0 : Nat) t) := by
  refine' does_of (binds := [(Str.ofString "size", .int s0 ts)]) ?ho ?hcd ?hb ?hl ?c1 ?c2 ?c3 ?c4 ?c5 ?walk
  case ho => k_dflt k_is
  case hcd => k_dflt k_is
  case hb => exact fun s => BindsTo.of_eq rfl
  case hl => exact locs rfl
  case c1 => exact rfl
  case c2 => exact rfl
  case c3 => exact rfl
  case c4 => decide
  case c5 => decide
  case walk =>
    intro dp un gd cn cs a' ccd cl outer A₀ base L s g L' h' hent hpre F' N' B' X' hlt hd hu post9 hPost
    obtain ⟨X', T', c1', c2', c3'⟩ := X'
    dsimp only [AllLt] at hlt
    try dsimp only
    try k_fold
    k_steps
    unfold Hold
    rename Fr _ _ _ _ => F8
    with_unfolding_all refine For_invVF F8 rfl rfl ?_
    k_steps
    unfold Hold
    rename IsRange _ _ _ _ _ _ _ _ => hr
    rename Fr _ _ _ _ => F9
    rename News _ _ _ _ => N9
    refine iterJ_range (n := s0 - 1) (J := fun i m news => A3 (news = []) ((∀ q, q < i + 2 → 2 ≤ q → s0 % q ≠ 0)) (Knows m [(Str.ofString "size", .int s0 ts)])) rfl hr (small_one (by omega) (by omega) (by omega) (by omega)) (by rw [rangeSize_nat]; omega) F9 N9 ⟨rfl, (fun q h h' => by omega), rfl, trivial⟩ ?_ ?_
    · rintro I i t m₁ news₁ h13 tk13 it hI hi ⟨rfl, hno, hkn⟩ F13 N13 hn13 K hK Q9 hQ s1 hs1
      have F14 := Fr.knows F13 hkn
      dsimp only [at_] at F14
      rw [show (2 : Int) + (i : Int) = ((i + 2 : Nat) : Int) by omega] at F14
      clear F13 F9 N9
      have hp4 : ((i + 2 : Nat) : Int).natAbs < 2 ^ 64 := by omega
      k_steps
      · rename_i hd1 hd2
        rw [fmod_cast] at hd1
        rw [show (((i + 2 : Nat) : Int) ^ Int.toNat 4) = (((i + 2) ^ 4 : Nat) : Int) by norm_cast, fmod_cast] at hd2
        have hpf := prime_found s0 (by omega) (i + 2) (by omega) ⟨by omega, by omega, h1, hno⟩
        rw [if_pos (by omega)] at hpf
        refine hQ _ _ ?_
        subst hs1
        dsimp only [qk]
        rw [← hpf]
        exact Ret.ofA hPost (hent.grown F14 N13 (fun _ h => nomatch h)) ⟨_, rfl⟩
      · rename_i hd1 hd2
        rw [fmod_cast] at hd1
        rw [show (((i + 2 : Nat) : Int) ^ Int.toNat 4) = (((i + 2) ^ 4 : Nat) : Int) by norm_cast, fmod_cast] at hd2
        have hpf := prime_found s0 (by omega) (i + 2) (by omega) ⟨by omega, by omega, h1, hno⟩
        rw [if_neg (by omega)] at hpf
        refine hQ _ _ ?_
        subst hs1
        dsimp only [qk]
        refine Ret.ofA hPost (hent.grown F14 N13 (fun _ h => nomatch h)) ⟨_, by rw [hpf]; rfl⟩
      · rename_i hd1
        rw [fmod_cast] at hd1
        refine TurnJ.nextA hK F14 N13 (news' := []) (.head _) (fun _ h => nomatch h) trivial ⟨rfl, ?_, rfl, trivial⟩
        intro q hq hq2
        rcases Nat.lt_or_ge q (i + 2) with hlt | hge
        · exact hno q hlt hq2
        · rw [show q = i + 2 by omega]
          omega
    · rintro m₁ news₁ h13 tk13 ⟨rfl, hno, hkn⟩ F13 N13
      dsimp only
      k_steps
      dsimp only [qk]
      have hpn := prime_none s0 (by omega) ⟨h1, fun q hq => hno q (by omega)⟩
      exact Ret.ofA hPost (hent.grown F13 N13 (fun _ h => nomatch h)) ⟨_, by rw [hpn]; rfl⟩
end
end Mine
end

section
open PySem PySem.W PyProof.Rows PySem.Calls PySem.Spec
set_option maxRecDepth 100000
set_option maxHeartbeats 8000000
namespace Mine
theorem fillK_D7 : PySem.Challenge.rw_ph0163_01 = PySem.Challenge.rw_ph0163_01 ∧ Mine.KF = Mine.KF := by
  w_top off
  (try (walk1; fail))
  k_fill
  exact ⟨rfl, rfl⟩
section
variable {prog : Program} {w : World} {p : Program} {loose : List Str} {mean : ExcName → Option Value} {mg mb : Str → Option Value}


noncomputable def Trip (h : Heap) (v : Value) (d : Nat × Int × Int) : Prop := ∃ q t1 t2 t3, v = .ref q ∧ h.get? q = some (tupObj [.int d.1 t1, .int d.2.1 t2, .int d.2.2 t3])
inductive RowsAt (h : Heap) : List Value → List (Nat × Int × Int) → Prop
  | nil : RowsAt h [] []
  | cons {v d vs ds} : Trip h v d → RowsAt h vs ds → RowsAt h (v :: vs) (d :: ds)
theorem RowsAt.length {h : Heap} {vs ds} (x : RowsAt h vs ds) : vs.length = ds.length := RowsAt.rec (motive := fun vs ds _ => vs.length = ds.length) rfl (fun _ _ ih => congrArg (· + 1) ih) x
theorem RowsAt.get {h : Heap} {vs ds} (x : RowsAt h vs ds) : ∀ {i : Nat} {v}, vs[i]? = some v → ∃ d, ds[i]? = some d ∧ Trip h v d := RowsAt.rec (motive := fun vs ds _ => ∀ {i : Nat} {v}, vs[i]? = some v → ∃ d, ds[i]? = some d ∧ Trip h v d) (fun e => nomatch e) (fun t _ ih => get_two t ih) x
noncomputable def NoTup (o : Obj) : Prop := o.cls ≠ .type "tuple"
theorem Trip.entry {h g : Heap} {L' : Addr} {news : List (Addr × Obj)} {v d} (x : Trip h v d) (e : Entry h g L' news) (hn : ∀ p ∈ news, NoTup p.2) : Trip g v d := by
  obtain ⟨q, t1, t2, t3, e1, hq⟩ := x
  refine ⟨q, t1, t2, t3, e1, e.keep _ _ hq (fun hm => ?_)⟩
  obtain ⟨p, hp, rfl⟩ := List.mem_map.mp hm
  have h9 := e.old p hp
  rw [hq] at h9
  exact hn p hp (by rw [← Option.some.inj h9])
theorem RowsAt.entry {h g : Heap} {L' : Addr} {news : List (Addr × Obj)} (e : Entry h g L' news) (hn : ∀ p ∈ news, NoTup p.2) : ∀ {vs ds}, RowsAt h vs ds → RowsAt g vs ds := fun x => RowsAt.rec (motive := fun vs ds _ => RowsAt g vs ds) .nil (fun t _ ih => .cons (t.entry e hn) ih) x
theorem noTup_list {its : Array Value} {e : Nat} : NoTup (W.listOf its e) := by intro h; simp [W.listOf] at h
theorem prime_le : ∀ s : Nat, s < 13 → primeOf s ≤ 12 := by decide +kernel
noncomputable def worthOf (rows : List (Nat × Int × Int)) : Nat := rows.foldl (fun m d => m * primeOf d.1) 1
theorem law_worth_does {D : Addr} {us : List Value} {e : Nat} {rows : List (Nat × Int × Int)} (hrows : ∀ d ∈ rows, 1 ≤ d.1 ∧ d.1 ≤ 12) :
    Does prog w p loose mean mg mb 150 [.ref D] 8 80 [(D, W.listOf us.toArray e)] (fun h => RowsAt h us rows) []
      (fun h r h' => ∃ t, r = .int (worthOf rows : Nat) t) := by
  refine' does_of (binds := [(Str.ofString "rows", .ref D)]) ?ho ?hcd ?hb ?hl ?c1 ?c2 ?c3 ?c4 ?c5 ?walk
  case ho => k_dflt k_is
  case hcd => k_dflt k_is
  case hb => exact fun s => BindsTo.of_eq rfl
  case hl => exact locs rfl
  case c1 => exact rfl
  case c2 => exact rfl
  case c3 => exact rfl
  case c4 => decide
  case c5 => decide
  case walk =>
    intro dp un gd cn cs a' ccd cl outer A₀ base L s g L' h' hent hpre F' N' B' X' hlt hd hu post9 hPost
    obtain ⟨X', T', c1', c2', c3'⟩ := X'
    dsimp only [AllLt] at hlt
    try dsimp only
    try k_fold
    have hr := hpre.entry hent (fun q hq => by rw [List.mem_singleton.mp hq]; exact noTup_list)
    k_steps
    unfold Hold
    rename Fr _ _ _ _ => F8
    with_unfolding_all refine For_invVF F8 rfl rfl ?_
    k_steps
    unfold Hold
    rename Fr _ _ _ _ => F9
    rename News _ _ _ _ => N9
    refine iterJ_list (vs := us) (e := e) (J := fun i m news => news = [(D, W.listOf us.toArray e)] ∧ ∃ tm, Knows m [(Str.ofString "made", .int (((rows.take i).foldl (fun m d => m * primeOf d.1) 1 : Nat) : Int) tm)]) rfl F9 N9 (.head _) ?_ ⟨rfl, _, rfl, trivial⟩ ?_ ?_
    · rintro i m k ⟨rfl, _⟩; exact .head _
    · rintro I i v m₁ news₁ h13 tk13 it hI hi hv ⟨rfl, tm, hkn⟩ F13 N13 hn13 K hK Q9 hQ s1 hs1
      obtain ⟨d, hd9, q, t1, t2, t3, rfl, hq⟩ := hr.get hv
      have hd8 := hrows d (List.mem_of_getElem? hd9)
      have F14 := Fr.knows F13 hkn
      dsimp only [at_] at F14
      clear F13 F9 N9
      simp only [AllNe, and_true] at hn13
      have ht : IsTup g q #[.int d.1 t1, .int d.2.1 t2, .int d.2.2 t3] := ⟨_, hq, rfl, 0, rfl⟩
      k_steps
      unfold Hold
      refine (law_prime_does hd8.1 hd8.2).use B' F14 N13 X' T' c1' c2' c3' rfl (fun _ h => nomatch h) trivial (by dsimp only; omega) (by dsimp only; omega) ?_
      rintro r15 h15 tk15 g15 ⟨t15, rfl⟩
      have F15 := g15.fr F14 (fun c hc => nomatch hc)
      have N15 := g15.news N13 (fun q hq h => nomatch h)
      have hpr := prime_le d.1 (by omega)
      dsimp only
      k_steps
      rename_i F16 N16
      have hfold : (rows.take (i + 1)).foldl (fun m d => m * primeOf d.1) 1 = (rows.take i).foldl (fun m d => m * primeOf d.1) 1 * primeOf d.1 := by
        rw [List.take_add_one, hd9, show (some d).toList = [d] from rfl, List.foldl_append]
        rfl
      refine TurnJ.nextA hK F16 N16 (news' := [(D, W.listOf us.toArray e)]) (.head _) (fun p hp => .tail _ hp) ⟨hn13, trivial⟩ ?_
      dsimp only
      rw [hfold, Int.natCast_mul]
      exact ⟨rfl, _, rfl, trivial⟩
    · rintro m₁ news₁ h13 tk13 ⟨rfl, tm, hkn⟩ F13 N13
      have F14 := Fr.knows0 F13 hkn
      dsimp only [at_] at F14
      rw [hr.length, List.take_length] at F14
      dsimp only
      k_steps
      dsimp only [qk]
      exact Ret.ofA hPost (hent.grown F14 N13 (fun _ h => .inr h)) ⟨_, rfl⟩
end
end Mine
end

section
open PySem PySem.W PyProof.Rows PySem.Calls PySem.Spec
namespace Mine
noncomputable def eucStep (p : Int × Int) : Int × Int := if p.2 = 0 then p else (p.2, p.1.fmod p.2)
noncomputable def eucS : Nat → Int × Int → Int × Int
  | 0, p => p
  | n + 1, p => eucStep (eucS n p)
theorem eucS_comm (n : Nat) (p : Int × Int) : eucS n (eucStep p) = eucStep (eucS n p) := by
  induction n with
  | zero => rfl
  | succ n ih => show eucStep (eucS n (eucStep p)) = _; rw [ih]; rfl
theorem eucS_zero (n : Nat) (a : Int) : eucS n (a, 0) = (a, 0) := by
  induction n with
  | zero => rfl
  | succ n ih => show eucStep (eucS n (a, 0)) = _; rw [ih]; rfl
theorem fmod_pos' (a b : Int) (h : 0 < b) : 0 ≤ a.fmod b ∧ a.fmod b < b := ⟨Int.fmod_nonneg_of_pos a h, Int.fmod_lt_of_pos a h⟩
theorem fmod_flip (a b : Int) : a.fmod b = -((-a).fmod (-b)) := by rw [Int.neg_fmod_neg]; omega
theorem fmod_neg' (a b : Int) (h : b < 0) : b < a.fmod b ∧ a.fmod b ≤ 0 := by
  have h1 := fmod_pos' (-a) (-b) (by omega)
  rw [fmod_flip a b]
  omega
theorem fmod_lt (a b : Int) (h : b ≠ 0) : (a.fmod b).natAbs < b.natAbs := by
  rcases Int.lt_or_le b 0 with hb | hb
  · have := fmod_neg' a b hb
    omega
  · have := fmod_pos' a b (by omega)
    omega
theorem emod_le_sub (b r : Int) (hr : 0 < r) (h : r ≤ b) : b.fmod r ≤ b - r := by
  rw [Int.fmod_eq_emod_of_nonneg _ (Int.le_of_lt hr)]
  have h1 := Int.mul_ediv_add_emod b r
  have h2 : 1 ≤ b / r := Int.le_ediv_of_mul_le hr (by omega)
  have h3 : r * 1 ≤ r * (b / r) := Int.mul_le_mul_of_nonneg_left h2 (Int.le_of_lt hr)
  omega
theorem fmod_two (a b : Int) (hb : b ≠ 0) (hr : a.fmod b ≠ 0) : (b.fmod (a.fmod b)).natAbs + (a.fmod b).natAbs ≤ b.natAbs := by
  rcases Int.lt_or_le b 0 with h | h
  · have h1 := fmod_neg' a b h
    generalize a.fmod b = r at *
    have h2 := emod_le_sub (-b) (-r) (by omega) (by omega)
    have h3 := fmod_neg' b r (by omega)
    rw [fmod_flip b r] at h3 ⊢
    omega
  · have h1 := fmod_pos' a b (by omega)
    generalize a.fmod b = r at *
    have h2 := emod_le_sub b r (by omega) (by omega)
    have h3 := fmod_pos' b r (by omega)
    omega
noncomputable def fib : Nat → Nat
  | 0 => 0
  | 1 => 1
  | n + 2 => fib n + fib (n + 1)
theorem lame : ∀ (k : Nat) (a b : Int), b.natAbs < fib (k + 1) → (eucS k (a, b)).2 = 0
  | 0, a, b, h => by
    have : b = 0 := by have h1 : fib (0 + 1) = 1 := rfl; omega
    exact this
  | 1, a, b, h => by
    have h1 : fib (1 + 1) = 1 := rfl
    have : b = 0 := by omega
    subst this
    rfl
  | k + 2, a, b, h => by
    by_cases hb : b = 0
    · rw [hb, eucS_zero]
    · have e1 : eucS (k + 2) (a, b) = eucS (k + 1) (b, a.fmod b) := by
        show eucStep (eucS (k + 1) (a, b)) = _
        rw [← eucS_comm]
        unfold eucStep
        rw [if_neg hb]
      rw [e1]
      by_cases h2 : (a.fmod b).natAbs < fib (k + 2)
      · exact lame (k + 1) b (a.fmod b) h2
      · by_cases hr : a.fmod b = 0
        · rw [hr, eucS_zero]
        · have e2 : eucS (k + 1) (b, a.fmod b) = eucS k (a.fmod b, b.fmod (a.fmod b)) := by
            show eucStep (eucS k (b, a.fmod b)) = _
            rw [← eucS_comm]
            unfold eucStep
            rw [if_neg hr]
          rw [e2]
          have h3 := fmod_two a b hb hr
          have h4 : fib (k + 2 + 1) = fib (k + 1) + fib (k + 2) := rfl
          exact lame k _ _ (by omega)
theorem gcd_step (p : Int × Int) : Int.gcd (eucStep p).1 (eucStep p).2 = Int.gcd p.1 p.2 := by
  unfold eucStep
  split
  · rfl
  · show Int.gcd p.2 (p.1.fmod p.2) = _
    rw [Int.fmod_def, Int.mul_comm, Int.gcd_comm, Int.gcd_sub_mul_right_left]
theorem gcd_eucS (n : Nat) (p : Int × Int) : Int.gcd (eucS n p).1 (eucS n p).2 = Int.gcd p.1 p.2 := by
  induction n with
  | zero => rfl
  | succ n ih => show Int.gcd (eucStep (eucS n p)).1 (eucStep (eucS n p)).2 = _; rw [gcd_step, ih]
theorem bound_eucS (n : Nat) (p : Int × Int) (B : Nat) (h1 : p.1.natAbs ≤ B) (h2 : p.2.natAbs ≤ B) : (eucS n p).1.natAbs ≤ B ∧ (eucS n p).2.natAbs ≤ B := by
  induction n with
  | zero => exact ⟨h1, h2⟩
  | succ n ih =>
    show (eucStep (eucS n p)).1.natAbs ≤ B ∧ (eucStep (eucS n p)).2.natAbs ≤ B
    unfold eucStep
    split
    · exact ih
    · rename_i h
      have := fmod_lt (eucS n p).1 (eucS n p).2 h
      exact ⟨ih.2, by show ((eucS n p).1.fmod (eucS n p).2).natAbs ≤ B; omega⟩
theorem euc_end (a b : Int) (hb : b.natAbs < 75025) : (eucS 25 (a, b)).1.natAbs = Int.gcd a b := by
  have h1 := gcd_eucS 25 (a, b)
  have h2 : (eucS 25 (a, b)).2 = 0 := lame 25 a b (Nat.lt_of_lt_of_le hb (by decide +kernel))
  rw [h2] at h1
  rw [← h1, Int.gcd_zero_right]
/-- the two places of a turn -/
noncomputable def pairN (L : List Nat) (i j : Nat) : List Nat := (L.set i (Nat.gcd (L.getD i 0) (L.getD j 0))).set j (Nat.lcm (L.getD i 0) (L.getD j 0))
noncomputable def rowN (L : List Nat) (i : Nat) : List Nat := (List.range (L.length - (i + 1))).foldl (fun L k => pairN L i (i + 1 + k)) L
noncomputable def sweepN (L : List Nat) : List Nat := (List.range L.length).foldl rowN L
theorem pairN_length (L : List Nat) (i j : Nat) : (pairN L i j).length = L.length := by simp [pairN]
/-- what holds of the numbers all along -/
noncomputable def Small (ns : List Int) : Prop := ∀ x ∈ ns, x ≠ 0 ∧ x.natAbs ∣ 27720
theorem Small.le {ns : List Int} (h : Small ns) {x : Int} (hx : x ∈ ns) : x ≠ 0 ∧ x.natAbs ≤ 27720 := ⟨(h x hx).1, Nat.le_of_dvd (by decide) (h x hx).2⟩
theorem getD_abs (ns : List Int) (i : Nat) : (ns.map Int.natAbs).getD i 0 = (ns.getD i 0).natAbs := by
  rw [List.getD_eq_getElem?_getD, List.getD_eq_getElem?_getD, List.getElem?_map]
  cases ns[i]? <;> rfl
theorem getD_mem {ns : List Int} {i : Nat} (h : i < ns.length) : ns.getD i 0 ∈ ns := by
  rw [List.getD_eq_getElem?_getD, List.getElem?_eq_getElem h]
  exact List.getElem_mem h
/-- a turn of the sweep upon ints -/
theorem pair_step (ns : List Int) (i j : Nat) (hi : i < ns.length) (hj : j < ns.length) (hs : Small ns) :
    let h := (eucS 25 (ns.getD i 0, ns.getD j 0)).1
    h ≠ 0 ∧ h.natAbs ≤ 27720 ∧ (ns.getD i 0 * ns.getD j 0).fmod h = 0 ∧ ((ns.set i h).set j ((ns.getD i 0 * ns.getD j 0).fdiv h)).map Int.natAbs = pairN (ns.map Int.natAbs) i j ∧ Small ((ns.set i h).set j ((ns.getD i 0 * ns.getD j 0).fdiv h)) := by
  have ha := hs _ (getD_mem hi)
  have hb := hs _ (getD_mem hj)
  have hb2 := (hs.le (getD_mem hj)).2
  intro h
  have e1 : h.natAbs = Int.gcd (ns.getD i 0) (ns.getD j 0) := euc_end _ _ (by omega)
  rw [List.map_set, List.map_set]
  unfold pairN
  rw [getD_abs, getD_abs]
  generalize ns.getD i 0 = a at *
  generalize ns.getD j 0 = b at *
  have e2 : Int.gcd a b = Nat.gcd a.natAbs b.natAbs := rfl
  have hg0 : 0 < Nat.gcd a.natAbs b.natAbs := Nat.gcd_pos_of_pos_left _ (Int.natAbs_pos.mpr ha.1)
  have h0 : h ≠ 0 := Int.natAbs_pos.mp (by rw [e1, e2]; exact hg0)
  have hd : h ∣ a * b := by
    have : h.natAbs ∣ a.natAbs := by rw [e1, e2]; exact Nat.gcd_dvd_left _ _
    exact Int.dvd_trans (Int.natAbs_dvd_natAbs.mp this) (Int.dvd_mul_right a b)
  have hm : (a * b).fmod h = 0 := Int.fmod_eq_zero_of_dvd hd
  have hq : ((a * b).fdiv h).natAbs = Nat.lcm a.natAbs b.natAbs := by
    have h3 : a * b = h * (a * b).fdiv h := by have := Int.fmod_def (a * b) h; omega
    have h4 := congrArg Int.natAbs h3
    rw [Int.natAbs_mul, Int.natAbs_mul, e1, e2, ← Nat.gcd_mul_lcm] at h4
    exact (Nat.eq_of_mul_eq_mul_left hg0 h4).symm
  have hgd : h.natAbs ∣ 27720 := by rw [e1, e2]; exact Nat.dvd_trans (Nat.gcd_dvd_left _ _) ha.2
  refine ⟨h0, Nat.le_of_dvd (by decide) hgd, hm, by rw [hq, e1, e2], ?_⟩
  intro x hx
  rcases List.mem_or_eq_of_mem_set hx with hx | hx
  · rcases List.mem_or_eq_of_mem_set hx with hx | hx
    · exact hs x hx
    · rw [hx]; exact ⟨h0, hgd⟩
  · rw [hx]
    refine ⟨fun e => ?_, by rw [hq]; exact Nat.lcm_dvd ha.2 hb.2⟩
    have h5 : Nat.lcm a.natAbs b.natAbs ≠ 0 := Nat.lcm_ne_zero (Int.natAbs_ne_zero.mpr ha.1) (Int.natAbs_ne_zero.mpr hb.1)
    rw [← hq, e] at h5
    exact h5 rfl
end Mine
end

section
open PySem PySem.W PyProof.Rows PySem.Calls PySem.Spec
set_option maxRecDepth 100000
set_option maxHeartbeats 2000000
namespace Mine
theorem fillK_D8 : PySem.Challenge.rw_ph0163_01 = PySem.Challenge.rw_ph0163_01 ∧ Mine.KF = Mine.KF := by
  w_top off
  (try (walk1; fail))
  k_fill
  exact ⟨rfl, rfl⟩
section
variable {prog : Program} {w : World} {p : Program} {loose : List Str} {mean : ExcName → Option Value} {mg mb : Str → Option Value}


theorem law_swept_does {p44 p51 : Array Value} {k1 k2 : Addr} {o1 o2 : Obj} {R : Addr} {rvs : List Value} {e : Nat} {ns : List Int} (hi : IntsAre rvs ns) (hlen : ns.length ≤ 4) (hsm : Small ns)
    (hT1 : TabS 44 45 4 QA p44 k1 o1) (hT2 : TabS 51 60 4 QB p51 k2 o2) :
    Does prog w p loose mean mg mb 155 [.ref R] 130 1000 [(R, W.listOf rvs.toArray e), (44, tabObj p44), (51, tabObj p51), (k1, o1), (k2, o2)] (fun _ => True) [44, 51]
      (fun h r h' => E3 fun D vs e' => A6 (r = .ref D) (h.get? D = none) (h'.get? D = some (W.listOf vs.toArray e')) (IntsAre vs ((sweepN (ns.map Int.natAbs)).map Int.ofNat)) (TabR 44 45 4 QA k1 o1 h h') (TabR 51 60 4 QB k2 o2 h h')) := by
  refine' does_of (binds := [(Str.ofString "row", .ref R)]) ?ho ?hcd ?hb ?hl ?c1 ?c2 ?c3 ?c4 ?c5 ?walk
  case ho => k_dflt k_is
  case hcd => k_dflt k_is
  case hb => exact fun s => BindsTo.of_eq rfl
  case hl => exact locs rfl
  case c1 => exact rfl
  case c2 => exact rfl
  case c3 => exact rfl
  case c4 => decide
  case c5 => decide
  case walk =>
    intro dp un gd cn cs a' ccd cl outer A₀ base L s g L' h' hent hpre F' N' B' X' hlt hd hu post9 hPost
    obtain ⟨X', T', c1', c2', c3'⟩ := X'
    dsimp only [AllLt] at hlt
    try dsimp only
    try k_fold
    k_steps
    unfold Hold
    rename Fr _ _ _ _ => F8
    rename_i S eS h5 lS h6 N8
    have hl2 : rvs.length = ns.length := hi.length
    with_unfolding_all refine For_invVF F8 rfl rfl ?_
    k_steps
    unfold Hold
    rename IsRange _ _ _ _ _ _ _ _ => hrg
    rename Fr _ _ _ _ => F9
    rename News _ _ _ _ => N9
    have N9' : News g L' _ [(S, W.listOf rvs.toArray eS), (44, tabObj p44), (51, tabObj p51), (k1, o1), (k2, o2), (R, W.listOf rvs.toArray e)] := pickN0 N9 [0, 2, 3, 4, 5, 1] rfl
    have hR44 : @Ne Nat R 44 := fun e9 => by
      have h1 := (N9' (R, _) (by k_mem)).1
      have h2 := (N9' (44, tabObj p44) (by k_mem)).1
      dsimp only at h1 h2
      rw [show R = 44 from e9, h2] at h1
      cases h1
    have hR51 : @Ne Nat R 51 := fun e9 => by
      have h1 := (N9' (R, _) (by k_mem)).1
      have h2 := (N9' (51, tabObj p51) (by k_mem)).1
      dsimp only at h1 h2
      rw [show R = 51 from e9, h2] at h1
      cases h1
    refine iterJ_range (n := ns.length) (J := fun i m news => E9 fun svs sns e1 p44' p51' c1 oc1 c2 oc2 => A9 (news = (S, W.listOf svs.toArray e1) :: tabsL p44' p51' c1 oc1 c2 oc2 ++ [(R, W.listOf rvs.toArray e)]) (IntsAre svs sns) (TabsOk s.heap.objs.size k1 o1 k2 o2 p44' p51' c1 oc1 c2 oc2) (@Ne Nat c1 S) (@Ne Nat c2 S) (sns.map Int.natAbs = (List.range i).foldl rowN (ns.map Int.natAbs)) (Small sns) (sns.length = ns.length) (Knows m [(Str.ofString "swept", .ref S)])) rfl hrg (small_one (by omega) (by omega) (by omega) (by omega)) (by rw [rangeSize_nat]; omega) F9 N9' ?_ ?_ ?_
    · exact ⟨rvs, ns, eS, p44, p51, k1, o1, k2, o2, rfl, hi, TabsOk.start hT1 hT2, Nat.ne_of_lt lS.2.2.2.1, Nat.ne_of_lt lS.2.2.2.2, rfl, hsm, rfl, rfl, trivial⟩
    · rintro I1 i ti m₁ news₁ h13 tk13 it1 hI1 hi1 ⟨svs, sns, e1, p44', p51', c1, oc1, c2, oc2, rfl, his, hTo, hcn1_1, hcn2_1, hfold, hsm1, hln1, hkn⟩ F13 N13 hn13 K hK Q9 hQ s1 hs1
      have F14 := Fr.knows F13 hkn
      dsimp only [at_] at F14
      rw [Int.zero_add] at F14
      have lI1 := news_lt N9' hI1
      dsimp only [AllLt] at lI1
      try clear F13
      try clear F9
      try clear N9
      try clear N9'
      dsimp only [tabsL, List.cons_append, List.nil_append] at N13
      k_steps
      unfold Hold
      with_unfolding_all refine For_invVF F14 rfl rfl ?_
      k_steps
      unfold Hold
      rename IsRange _ _ _ _ _ _ _ _ => hrg2
      rename Fr _ _ _ _ => F15
      rename News _ _ _ _ => N15
      have N15' : News g L' _ ((S, W.listOf svs.toArray e1) :: tabsL p44' p51' c1 oc1 c2 oc2 ++ [(I1, it1), (R, W.listOf rvs.toArray e)]) := pickN0 N15 [1, 2, 3, 4, 5, 0, 6] rfl
      refine iterJ_range (n := ns.length - (i + 1)) (J := fun j m news => E9 fun svs sns' e1 p44' p51' c1 oc1 c2 oc2 => A11 (news = (S, W.listOf svs.toArray e1) :: tabsL p44' p51' c1 oc1 c2 oc2 ++ [(I1, it1), (R, W.listOf rvs.toArray e)]) (AllNe c1 [(I1, it1)]) (AllNe c2 [(I1, it1)]) (IntsAre svs sns') (TabsOk s.heap.objs.size k1 o1 k2 o2 p44' p51' c1 oc1 c2 oc2) (@Ne Nat c1 S) (@Ne Nat c2 S) (sns'.map Int.natAbs = (List.range j).foldl (fun L k => pairN L i (i + 1 + k)) (sns.map Int.natAbs)) (Small sns') (sns'.length = ns.length) (Knows m [(Str.ofString "swept", .ref S), (Str.ofString "i", .int i ti)])) rfl hrg2 (small_one (by omega) (by omega) (by omega) (by omega)) (by rw [rangeSize_nat]; omega) F15 N15' ?_ ?_ ?_
      · exact ⟨svs, sns, e1, p44', p51', c1, oc1, c2, oc2, rfl, ⟨(hn13.at (c1, oc1) (by k_mem)).symm, trivial⟩, ⟨(hn13.at (c2, oc2) (by k_mem)).symm, trivial⟩, his, hTo, hcn1_1, hcn2_1, rfl, hsm1, hln1, rfl, rfl, trivial⟩
      · rintro I2 j tj m₂ news₂ h23 tk23 it2 hI2 hj2 ⟨svs, sns', e1, p44', p51', c1, oc1, c2, oc2, rfl, ha1, ha2, his, hTo, hcn1_2, hcn2_2, hfold2, hsm2, hln2, hkn2⟩ F23 N23 hn23 K hK Q9 hQ s1 hs1
        have F24 := Fr.knows F23 hkn2
        dsimp only [at_] at F24
        rw [show (i : Int) + 1 + (j : Int) = ((i + 1 + j : Nat) : Int) by omega] at F24
        have lI2 := news_lt N15' hI2
        dsimp only [AllLt, tabsL, List.cons_append, List.nil_append] at lI2
        clear hcn1_1 hcn2_1
        try clear F23
        try clear F15
        try clear N15
        try clear N15'
        try clear F14
        try clear N13
        dsimp only [tabsL, List.cons_append, List.nil_append] at N23
        k_steps
        unfold Hold
        with_unfolding_all refine For_invVF (by assumption) rfl rfl ?_
        k_steps
        unfold Hold
        rename IsRange _ _ _ _ _ _ _ _ => hrg3
        rename Fr _ _ _ _ => F25
        rename News _ _ _ _ => N25
        have N25' : News g L' _ ((S, W.listOf svs.toArray e1) :: tabsL p44' p51' c1 oc1 c2 oc2 ++ [(I2, it2), (I1, it1), (R, W.listOf rvs.toArray e)]) := pickN0 N25 [1, 2, 3, 4, 5, 0, 6, 7] rfl
        have hil : i < sns'.length := by omega
        have hjl : i + 1 + j < sns'.length := by omega
        have hba := hsm2.le (getD_mem hil)
        have hbb := hsm2.le (getD_mem hjl)
        refine iterJ_range (n := 25) (J := fun t m news => E6 fun p44' p51' c1 oc1 c2 oc2 => A7 (news = (S, W.listOf svs.toArray e1) :: tabsL p44' p51' c1 oc1 c2 oc2 ++ [(I2, it2), (I1, it1), (R, W.listOf rvs.toArray e)]) (AllNe c1 [(I2, it2), (I1, it1)]) (AllNe c2 [(I2, it2), (I1, it1)]) (TabsOk s.heap.objs.size k1 o1 k2 o2 p44' p51' c1 oc1 c2 oc2) (@Ne Nat c1 S) (@Ne Nat c2 S) (E3 fun th tr tj => Knows m [(Str.ofString "swept", .ref S), (Str.ofString "i", .int i ti), (Str.ofString "j", .int ((i + 1 + j : Nat) : Int) tj), (Str.ofString "here", .int (eucS t (sns'.getD i 0, sns'.getD (i + 1 + j) 0)).1 th), (Str.ofString "rest", .int (eucS t (sns'.getD i 0, sns'.getD (i + 1 + j) 0)).2 tr)])) rfl hrg3 (by decide) (by rw [rangeSize_nat]; rfl) F25 N25' ?_ ?_ ?_
        · exact ⟨p44', p51', c1, oc1, c2, oc2, rfl, ⟨(hn23.at (c1, oc1) (by k_mem)).symm, ha1⟩, ⟨(hn23.at (c2, oc2) (by k_mem)).symm, ha2⟩, hTo, hcn1_2, hcn2_2, _, _, _, rfl, rfl, rfl, rfl, rfl, trivial⟩
        · rintro I3 t tt m₃ news₃ h33 tk33 it3 hI3 ht3 ⟨p44', p51', c1, oc1, c2, oc2, rfl, ha1, ha2, hTo, hcn1, hcn2, th, tr, tj, hkn3⟩ F33 N33 hn33 K hK Q9 hQ s1 hs1
          have F34 := Fr.knows F33 hkn3
          dsimp only [at_] at F34
          have lI3 := news_lt N25' hI3
          dsimp only [AllLt, tabsL, List.cons_append, List.nil_append] at lI3
          clear hcn1_2 hcn2_2
          try clear F33
          try clear F25
          try clear N25
          try clear N25'
          have hbd := bound_eucS t (sns'.getD i 0, sns'.getD (i + 1 + j) 0) 27720 hba.2 hbb.2
          have hst : eucS (t + 1) (sns'.getD i 0, sns'.getD (i + 1 + j) 0) = eucStep (eucS t (sns'.getD i 0, sns'.getD (i + 1 + j) 0)) := rfl
          rw [hst] at hK
          generalize eucS t (sns'.getD i 0, sns'.getD (i + 1 + j) 0) = pr at *
          obtain ⟨here, rest⟩ := pr
          dsimp only at hbd F34
          dsimp only [tabsL, List.cons_append, List.nil_append] at N33
          k_steps
          · unfold Hold
            rename_i hr0
            refine (int_divmod_does (a := here) (b := rest) (by omega) hr0 (by omega) hTo.s1 hTo.s2).use B' F34 N33 X' T' c1' c2' c3' rfl ?_ trivial (by dsimp only; omega) (by dsimp only; omega) ?_
            · exact sub_pick0 [2, 3, 4, 5] rfl
            rintro r35 h35 tk35 g35 ⟨q, t1, t2, rfl, hqf, hq, ⟨d1, od1, hT7, hC7, hO7, hr7⟩, ⟨d2, od2, hT8, hC8, hO8, hr8⟩⟩
            dsimp only at hqf hr7 hr8 g35
            have hsz34 := hent.size_le F34
            have F35 := g35.fr2 F34 (N33 (44, tabObj p44') (by k_mem)).2 (N33 (51, tabObj p51') (by k_mem)).2
            have hcd1 := ne_step (S := S) hcn1 (N33 (S, _) (by k_mem)).1 hr7
            have hcd2 := ne_step (S := S) hcn2 (N33 (S, _) (by k_mem)).1 hr8
            have hb1 := allNe_step ha1 (fun q hq => (N33 q (by
              exact sub_pick0 [6, 7] rfl _ hq)).1) hr7
            have hb2 := allNe_step ha2 (fun q hq => (N33 q (by
              exact sub_pick0 [6, 7] rfl _ hq)).1) hr8
            have hn35a := ne_step hn33.2.2.2.1 (N33 (I3, it3) (by k_mem)).1 hr7
            have hn35b := ne_step hn33.2.2.2.2.1 (N33 (I3, it3) (by k_mem)).1 hr8
            have hTo2 := hTo.step hsz34 hO7 hr7 hO8 hr8
            have N35 := news_add F34 (news_tabs_in (pre := [(I3, it3), (S, W.listOf svs.toArray e1)]) (post := [(I2, it2), (I1, it1), (R, W.listOf rvs.toArray e)]) F34 g35 N33 ⟨⟨Nat.ne_of_gt lI3.2.1, Nat.ne_of_gt lS.2.1, trivial⟩, ⟨Nat.ne_of_gt lI3.2.2.1, Nat.ne_of_gt lS.2.2.1, trivial⟩⟩ ⟨⟨Nat.ne_of_gt lI2.2.1, Nat.ne_of_gt lI1.2.1, hR44, trivial⟩, ⟨Nat.ne_of_gt lI2.2.2.1, Nat.ne_of_gt lI1.2.2.1, hR51, trivial⟩⟩ hT7 hC7 hr7 hT8 hC8 hr8) hqf hq
            have l35 := news_lt N33 hqf
            dsimp only [AllLt] at l35
            dsimp only [tabsL, List.cons_append, List.nil_append] at N35
            dsimp only
            k_steps
            rename_i F36 N36
            refine TurnJ.nextA hK F36 N36 (news' := (S, W.listOf svs.toArray e1) :: tabsL _ _ d1 od1 d2 od2 ++ [(I2, it2), (I1, it1), (R, W.listOf rvs.toArray e)]) (by k_mem) ?_ ?_ ⟨_, _, d1, od1, d2, od2, rfl, hb1, hb2, hTo2, hcd1, hcd2, ?_⟩
            · exact sub_pick0 [3, 4, 5, 6, 7, 8, 9, 10] rfl
            · exact ⟨hn33.1, hn33.2.1, hn33.2.2.1, hn35a, hn35b, hn33.2.2.2.2.2⟩
            · unfold eucStep
              rw [if_neg hr0]
              exact ⟨_, _, _, rfl, rfl, rfl, rfl, rfl, trivial⟩
          · rename_i hr0
            have hr0' : rest = 0 := by omega
            refine TurnJ.nextA hK F34 N33 (news' := (S, W.listOf svs.toArray e1) :: tabsL _ _ c1 oc1 c2 oc2 ++ [(I2, it2), (I1, it1), (R, W.listOf rvs.toArray e)]) (by k_mem) (fun q hq => .tail _ hq) ?_ ⟨_, _, c1, oc1, c2, oc2, rfl, ha1, ha2, hTo, hcn1, hcn2, ?_⟩
            · exact hn33
            · unfold eucStep
              rw [if_pos hr0']
              exact ⟨_, _, _, rfl, rfl, rfl, rfl, rfl, trivial⟩
        · rintro m₃ news₃ h33 tk33 ⟨p44', p51', c1, oc1, c2, oc2, rfl, ha1, ha2, hTo, hcn1, hcn2, th, tr, tj, hkn3⟩ F33 N33
          have F34 := Fr.knows0 F33 hkn3
          dsimp only [at_] at F34
          try clear F33
          try clear F25
          try clear N25
          try clear N25'
          have hps := pair_step sns' i (i + 1 + j) hil hjl hsm2
          dsimp only at hps
          generalize (eucS 25 (sns'.getD i 0, sns'.getD (i + 1 + j) 0)).1 = here at *
          generalize (eucS 25 (sns'.getD i 0, sns'.getD (i + 1 + j) 0)).2 = rest at *
          dsimp only [tabsL, List.cons_append, List.nil_append] at N33
          have hm64 : (sns'.getD (i : Int).toNat 0).natAbs ≤ 27720 := hba.2
          dsimp only
          k_steps
          unfold Hold
          rename Fr _ _ _ _ => F35
          rename News _ _ _ _ => N35
          rw [Int.toNat_natCast, Int.toNat_natCast]
          have hpb : (sns'.getD i 0 * sns'.getD (i + 1 + j) 0).natAbs < 1073741824 := by
            rw [Int.natAbs_mul]
            have := Nat.mul_le_mul hba.2 hbb.2
            omega
          refine (int_divmod_does (a := sns'.getD i 0 * sns'.getD (i + 1 + j) 0) (b := here) hpb hps.1 (by omega) hTo.s1 hTo.s2).use B' F35 N35 X' T' c1' c2' c3' rfl ?_ trivial (by dsimp only; omega) (by dsimp only; omega) ?_
          · exact sub_pick0 [1, 2, 3, 4] rfl
          rintro r37 h37 tk37 g37 ⟨q, t1, t2, rfl, hqf, hq, ⟨d1, od1, hT7, hC7, hO7, hr7⟩, ⟨d2, od2, hT8, hC8, hO8, hr8⟩⟩
          dsimp only at hqf hr7 hr8 g37
          rw [hps.2.2.1] at hq
          have hsz36 := hent.size_le F35
          have F37 := g37.fr2 F35 (N35 (44, tabObj p44') (by k_mem)).2 (N35 (51, tabObj p51') (by k_mem)).2
          have hcd1 := ne_step (S := S) hcn1 (N35 (S, _) (by k_mem)).1 hr7
          have hcd2 := ne_step (S := S) hcn2 (N35 (S, _) (by k_mem)).1 hr8
          have hb1 := allNe_step ha1 (fun q hq => (N35 q (by
            exact sub_pick0 [5, 6] rfl _ hq)).1) hr7
          have hb2 := allNe_step ha2 (fun q hq => (N35 q (by
            exact sub_pick0 [5, 6] rfl _ hq)).1) hr8
          have hTo2 := hTo.step hsz36 hO7 hr7 hO8 hr8
          have N37 := news_add F35 (news_tabs_in (pre := [(S, W.listOf svs.toArray e1)]) (post := [(I2, it2), (I1, it1), (R, W.listOf rvs.toArray e)]) F35 g37 N35 ⟨⟨Nat.ne_of_gt lS.2.1, trivial⟩, ⟨Nat.ne_of_gt lS.2.2.1, trivial⟩⟩ ⟨⟨Nat.ne_of_gt lI2.2.1, Nat.ne_of_gt lI1.2.1, hR44, trivial⟩, ⟨Nat.ne_of_gt lI2.2.2.1, Nat.ne_of_gt lI1.2.2.1, hR51, trivial⟩⟩ hT7 hC7 hr7 hT8 hC8 hr8) hqf hq
          have l37 := news_lt N35 hqf
          dsimp only [AllLt] at l37
          dsimp only [tabsL, List.cons_append, List.nil_append] at N37
          clear hcn1 hcn2
          dsimp only
          k_steps
          rename_i hi38 hl38 hs38 h38 F38 N38 hi39 hl39 hs39
          rw [Int.toNat_natCast, Int.toNat_natCast] at hi39 N38
          refine TurnJ.nextA hK F38 N38 (news' := (S, W.listOf _ e1) :: tabsL _ _ d1 od1 d2 od2 ++ [(I1, it1), (R, W.listOf rvs.toArray e)]) (by k_mem) ?_ ?_ ⟨_, _, e1, _, _, d1, od1, d2, od2, rfl, ⟨hb1.2.1, trivial⟩, ⟨hb2.2.1, trivial⟩, hi39, hTo2, hcd1, hcd2, ?_, hps.2.2.2.2, ?_, rfl, rfl, trivial⟩
          · exact sub_pick0 [1, 2, 3, 4, 5, 7, 8] rfl
          · exact ⟨hn23.1, hn23.2.1, hn23.2.2.1, hb1.1.symm, hb2.1.symm, hn23.2.2.2.2.2⟩
          · rw [hps.2.2.2.1, hfold2, List.range_succ, List.foldl_append]
            rfl
          · rw [List.length_set, List.length_set]; exact hln2
      · rintro m₂ news₂ h23 tk23 ⟨svs, sns', e1, p44', p51', c1, oc1, c2, oc2, rfl, ha1, ha2, his, hTo, hcn1, hcn2, hfold2, hsm2, hln2, hkn2⟩ F23 N23
        dsimp only
        k_steps
        have hrow : sns'.map Int.natAbs = (List.range (i + 1)).foldl rowN (ns.map Int.natAbs) := by
          rw [List.range_succ, List.foldl_append, ← hfold, hfold2]
          show _ = rowN _ i
          unfold rowN
          rw [List.length_map, hln1]
        refine TurnJ.nextA hK F23 N23 (news' := (S, W.listOf _ e1) :: tabsL p44' p51' c1 oc1 c2 oc2 ++ [(R, W.listOf rvs.toArray e)]) (by k_mem) ?_ ?_ ⟨_, _, e1, _, _, c1, oc1, c2, oc2, rfl, his, hTo, hcn1, hcn2, hrow, hsm2, hln2, hkn2.1, trivial⟩
        · exact sub_pick0 [0, 1, 2, 3, 4, 6] rfl
        · exact ⟨hn13.1, hn13.2.1, hn13.2.2.1, ha1.1.symm, ha2.1.symm, hn13.2.2.2.2.2⟩
    · rintro m₁ news₁ h13 tk13 ⟨svs, sns, e1, p44', p51', c1, oc1, c2, oc2, rfl, his, hTo, hcn1, hcn2, hfold, hsm1, hln1, hkn⟩ F13 N13
      have F14 := Fr.knows0 F13 hkn
      dsimp only [at_] at F14
      dsimp only
      k_steps
      rename_i D h40 tk40 F40 N40 hof
      have hfin : sns.map (fun k' => if k' < 0 then -k' else k') = (sweepN (ns.map Int.natAbs)).map Int.ofNat := by
        rw [sweepN, List.length_map, ← hfold, List.map_map]
        exact List.map_congr_left fun x _ => by
          show (if x < 0 then -x else x) = ((x.natAbs : Nat) : Int)
          split <;> omega
      have hne := (off1_ne (l := (S, W.listOf svs.toArray e1) :: (tabsL p44' p51' c1 oc1 c2 oc2 ++ [(R, W.listOf rvs.toArray e)])) hof).at
      refine Ret.ofA hPost (hent.grown F40 N40 ?_) ⟨D, _, _, rfl, hent.none N40 (.head _) ?_, (N40 (D, _) (.head _)).1, ?_, ⟨p44', c1, oc1, (N40 (44, tabObj p44') (by k_mem)).1, (N40 (c1, oc1) (by k_mem)).1, hTo.s1, hTo.r1⟩, ⟨p51', c2, oc2, (N40 (51, tabObj p51') (by k_mem)).1, (N40 (c2, oc2) (by k_mem)).1, hTo.s2, hTo.r2⟩⟩
      · exact AllP.mem ⟨.inr (by k_mem), .inl (.head _), .inl (.tail _ (.head _)), hTo.r1.elim (fun h => h.1 ▸ h.2 ▸ .inr (by k_mem)) (fun h => .inl (h.1 ▸ .head _)), hTo.r2.elim (fun h => h.1 ▸ h.2 ▸ .inr (by k_mem)) (fun h => .inl (h.1 ▸ .tail _ (.head _))), trivial⟩
      · exact AllP.mem ⟨hne (R, _) (by k_mem), hne (44, tabObj p44') (by k_mem), hne (51, tabObj p51') (by k_mem), hTo.r1.elim (fun h => h.1 ▸ hne (c1, oc1) (by k_mem)) (fun h => h.1 ▸ hne (44, tabObj p44') (by k_mem)), hTo.r2.elim (fun h => h.1 ▸ hne (c2, oc2) (by k_mem)) (fun h => h.1 ▸ hne (51, tabObj p51') (by k_mem)), trivial⟩
      · rw [← hfin]
        assumption
end
end Mine
end

section
open PySem PySem.W PyProof.Rows PySem.Calls PySem.Spec
namespace Mine
structure WS where
  n : Nat
  b : Nat
  nt : Nat
  cnt : List Int
noncomputable def bump (cnt : List Int) (b : Nat) : List Int := (cnt ++ List.replicate (b + 1 - cnt.length) 0).set b ((cnt ++ List.replicate (b + 1 - cnt.length) 0).getD b 0 + 1)
noncomputable def wsStep (s : WS) (c : Nat) : WS := if c = 32 then ⟨s.n + 1, s.b + 1, s.nt, s.cnt⟩ else ⟨s.n + 1, 0, s.nt + 1, bump s.cnt s.b⟩
noncomputable def wsRun (codes : List Nat) : WS := codes.foldl wsStep ⟨0, 0, 0, []⟩
theorem wsRun_snoc (l : List Nat) (c : Nat) : wsRun (l ++ [c]) = wsStep (wsRun l) c := by unfold wsRun; rw [List.foldl_append]; rfl
theorem bump_len (cnt : List Int) (b : Nat) : (bump cnt b).length = max cnt.length (b + 1) := by
  unfold bump
  rw [List.length_set, List.length_append, List.length_replicate]
  omega
theorem wsRun_bound (l : List Nat) : (wsRun l).n = l.length ∧ (wsRun l).b ≤ l.length ∧ (wsRun l).nt ≤ l.length ∧ (wsRun l).cnt.length ≤ l.length := by
  suffices h : ∀ r : List Nat, (wsRun r.reverse).n = r.length ∧ (wsRun r.reverse).b ≤ r.length ∧ (wsRun r.reverse).nt ≤ r.length ∧ (wsRun r.reverse).cnt.length ≤ r.length by
    have := h l.reverse
    rwa [List.reverse_reverse, List.length_reverse] at this
  intro r
  induction r with
  | nil => exact ⟨rfl, Nat.le_refl _, Nat.le_refl _, Nat.le_refl _⟩
  | cons c r ih =>
    rw [List.reverse_cons, wsRun_snoc]
    unfold wsStep
    split
    · simp only [List.length_cons]; omega
    · simp only [List.length_cons, bump_len]; omega
theorem bump_grow (cnt : List Int) (b : Nat) : (cnt ++ (List.replicate ((b : Int) - (cnt.length : Int) + 1).toNat [0]).flatten).set (b : Int).toNat ((cnt ++ (List.replicate ((b : Int) - (cnt.length : Int) + 1).toNat [0]).flatten).getD (b : Int).toNat 0 + 1) = bump cnt b := by
  unfold bump
  rw [krep_flat, Int.toNat_natCast, show ((b : Int) - (cnt.length : Int) + 1).toNat = b + 1 - cnt.length by omega]
theorem bump_in (cnt : List Int) (b : Nat) (h : ¬(cnt.length : Int) ≤ (b : Int)) : cnt.set (b : Int).toNat (cnt.getD (b : Int).toNat 0 + 1) = bump cnt b := by
  unfold bump
  rw [Int.toNat_natCast, show b + 1 - cnt.length = 0 by omega, List.replicate_zero, List.append_nil]
end Mine
end

section
open PySem PySem.W PyProof.Rows PySem.Calls PySem.Spec
set_option maxRecDepth 100000
namespace Mine
/-- a contract of the code itself (an __init__, called beneath its class) -/
noncomputable def DoesK (prog : Program) (w : World) (p : Program) (loose : List Str) (mean : ExcName → Option Value) (mg mb : Str → Option Value)
    (f : Addr) (vs : List Value) (dn wn : Nat) (news₀ : List (Addr × Obj)) (pre : Heap → Prop) (ch : List Addr) (post : Heap → Value → Heap → Prop) : Prop :=
  ∀ (dp un : Nat) (gd : Option (List Code)) (cn : Str) (cs : Scope) (a : Addr) (ccd : Value) (cl : List (Str × Addr)) (outer : List Env) (A₀ : PySem.Around) (base h₀ : Heap) (L : Addr) (m : Str → Option Value) (s : Shared)
    (R : Result → Shared → Prop),
    Below A₀ base outer h₀ → Fr h₀ L s.heap m → Base w p loose mean mg mb h₀ → cs.kind = .function → News h₀ L s.heap news₀ → pre s.heap → dp + dn < recursionLimit → un + wn < cLine →
    (∀ r h' tk', Grown ch s.heap h' → post s.heap r h' → R (.ok (.ret r)) { s with heap := h', toks := tk' }) →
    codeAny (model prog w) (ktrTop dp un gd cn cs L a ccd cl outer) (.call (.ref f) ⟨vs, []⟩) R s
section
variable {prog : Program} {w : World} {p : Program} {loose : List Str} {mean : ExcName → Option Value} {mg mb : Str → Option Value}
theorem does_ofK {f : Addr} {vs : List Value} {dn wn : Nat} {pre : Heap → Prop} {ch : List Addr} {post : Heap → Value → Heap → Prop}
    {name qual : Str} {params : Arguments} {body : List Stmt} {scope : Scope} {dV kV doc pm cdv ct oc : Value} {an od : Option Addr} {osl : Array (Option Value)} {binds : List (Str × Value)}
    {news : List (Addr × Obj)}
    (ho : (Mine.KF w.params).lookup f = some ⟨oc, od, .func (fnOf name qual params body scope dV kV doc pm an cdv ct), osl⟩) (hcd : codeIn (Mine.KF w.params) cdv qual = true)
    (hbind : ∀ s, BindsTo s (fnOf name qual params body scope dV kV doc pm an cdv ct) ⟨vs, []⟩ binds) (hloc : ∀ y ∈ binds, scope.names.lookup y.1 = some .local)
    (hco : scope.isCoroutine = false) (hgen : scope.isGenerator = false) (hk : scope.kind = .function) (hcell : ∀ x ∈ scope.names, x.2 ≠ .cell) (hdn : 0 < dn)
    (walk : ∀ (dp un : Nat) (gd : Option (List Code)) (cn : Str) (cs : Scope) (a : Addr) (ccd : Value) (cl : List (Str × Addr)) (outer : List Env) (A₀ : PySem.Around) (base : Heap) (L : Addr) (s : Shared) (g : Heap) (L' : Addr) (h₁ : Heap),
      Entry s.heap g L' news → pre s.heap →
      Fr g L' h₁ (fun y => binds.reverse.lookup y) → News g L' h₁ news → Below (ktrTop dp un gd cn cs L a ccd cl outer) base (envX cn cs L a ccd cl :: outer) g → Base w p loose mean mg mb g → AllLt L' news →
      dp + dn < recursionLimit → un + wn < cLine → ∀ post9 : Heap → Value → Heap → Prop, (∀ h v h', post h v h' → post9 h v h') →
      wpAny (model prog w) ((ktrTop dp un gd cn cs L a ccd cl outer).deeper (envX qual scope L' f cdv [])) (execs body (envX qual scope L' f cdv []))
        (fun fl s' => Ret ch post9 s (match fl with | .ret v => v | _ => .none) s') (fun _ _ => False) { s with heap := h₁, toks := s.toks + binds.length }) :
    DoesK prog w p loose mean mg mb f vs dn wn news pre ch post := by
  intro dp un gd cn cs a ccd cl outer A₀ base h₀ L m s R B F X hke N hpre hd hu hret
  have X₁ := X.keeps F.keep
  refine codeAny_call_def (fd := fnOf name qual params body scope dV kV doc pm an cdv ct) (body := body) (binds := binds) (by show dp < recursionLimit; omega) (X₁.X _ _ ho) rfl (X.T.nolimit.keeps F.keep) (codeRec_of X₁.X hcd) rfl (hbind s) hcell hloc (fun h₁ hns hk₁ => ?_) hco hgen hk
  obtain ⟨FG, BG, st, lv⟩ := groundX (R := fun _ _ => True) (A := ktrTop dp un gd cn cs L a ccd cl outer) (env := envX cn cs L a ccd cl) B F N rfl rfl hke
  refine wpAny_mono (walk dp un gd cn cs a ccd cl outer A₀ base L s (hideAll s.heap (news.map (·.1))) s.heap.objs.size h₁ ⟨fun b o e n => hideAll_get _ e n, fun q hq => (N q hq).1, Nat.le_refl _⟩ hpre ⟨hns, fun b o e => hk₁ b o (of_hideAll _ e), Nat.le_of_eq (hideAll_size _ _)⟩
    (fun q hq => ⟨hk₁ _ _ (N q hq).1, Nat.ne_of_lt (Heap.lt_size (N q hq).1), hideAll_none _ (List.mem_map_of_mem hq)⟩) BG (X.keeps fun b o e => st b o e) (allLt_of fun q hq => Heap.lt_size (N q hq).1) hd hu post fun _ _ _ z => z) (fun fl s' hl => ?_) fun _ _ y => y.elim
  obtain ⟨h', tk', rfl, hg, hp⟩ := hl.out
  exact hret _ h' tk' hg hp
end

/-- over a text of small signs -/
theorem iterJ_str {prog : Program} {w : World} {A : PySem.Around} {E : Value → Shared → Prop} {s : Shared} {env : Env} {h₀ : Heap} {x : Str} {body : List Stmt} {Q : Flow → Shared → Prop}
    {u : Str} {tu : Tok} {m₀ : Str → Option Value} {news : List (Addr × Obj)} (J : Nat → (Str → Option Value) → List (Addr × Obj) → Prop)
    (hh : A.handled = none) (ha : u.cps.all (· < 128) = true) (F : Fr h₀ env.locals s.heap m₀) (N : News h₀ env.locals s.heap news) (h0 : J 0 m₀ news)
    (turn : ∀ I i c tc m₁ news₁ h tk it, s.heap.objs.size ≤ I → i < u.cps.size → u.cps[i]? = some c → J i m₁ news₁ → Fr h₀ env.locals h (fun y => if y = x then some (.str ⟨#[c]⟩ tc) else m₁ y) → News h₀ env.locals h ((I, it) :: news₁) → AllNe I news₁ → ∀ K : (Str → Option Value) → List (Addr × Obj) → Prop, (∀ m n, J (i + 1) m n → K m n) → ∀ Q9 : Flow → Shared → Prop, (∀ f s', Q f s' → Q9 f s') → ∀ s1 : Shared, s1 = s →
      wpAny (model prog w) A (execs body env) (TurnJ h₀ env.locals I it K s1 Q9) E { s1 with heap := h, toks := tk })
    (done : ∀ m₁ news₁ h tk, J u.cps.size m₁ news₁ → Fr h₀ env.locals h m₁ → News h₀ env.locals h news₁ → Q .next { s with heap := h, toks := tk }) :
    wpAny (model prog w) A (pyIter (.str u tu)) (fun it s₂ => LoopAtV prog w A h₀ env x body Q E it s₂) E s := by
  refine wpAny_pyIter_ascii ha ?_
  have Wk := Walks.strAscii (prog := prog) (w := w) hh s.heap.objs.size u tu
  refine loopJ (cst := []) J Wk (fun i h x => let ⟨o, ho, _⟩ := x; ⟨o, ho⟩) ?_ ?_ (fun p hp e => ?_) ⟨_, Heap.get?_push_size _ rfl, rfl, rfl⟩ (F.push _) (fun p hp => ⟨Heap.get?_push_of_some _ (N p hp).1, (N p hp).2⟩) (fun b hb hn => ?_)
    (fun i m k hj q hq => nomatch hq) h0 (fun i v m₁ news₁ h tk it hi hP hJ F₁ N₁ hn => ?_) done
  · intro hm
    exact absurd F.ns.lt ((List.mem_singleton.mp hm) ▸ Nat.lt_irrefl _)
  · exact (fresh_of F (Nat.le_refl _)).1
  · exact absurd (Heap.lt_size (N p hp).1) (by rw [e]; exact Nat.lt_irrefl _)
  · exact absurd (List.mem_singleton.mp hb) hn
  · obtain ⟨c, tc, hc, rfl⟩ := hP
    exact turn _ i c tc m₁ news₁ h tk it (Nat.le_refl _) hi hc hJ F₁ N₁ hn (J (i + 1)) (fun _ _ z => z) Q (fun _ _ z => z) s rfl
noncomputable abbrev wsDict (P : Params) (u : Str) (tu : Tok) (n nt : Nat) (tn tt : Tok) (D2 : Addr) (sb : Bool) (a1 a2 a3 a4 a5 : Tok) : Obj :=
  dictOf [⟨PyData.keyHash P (Str.ofString "raw"), .str (Str.ofString "raw") a1, .str u tu⟩, ⟨PyData.keyHash P (Str.ofString "n"), .str (Str.ofString "n") a2, .int n tn⟩, ⟨PyData.keyHash P (Str.ofString "nt"), .str (Str.ofString "nt") a3, .int nt tt⟩,
    ⟨PyData.keyHash P (Str.ofString "norm"), .str (Str.ofString "norm") a4, .ref D2⟩, ⟨PyData.keyHash P (Str.ofString "is_simple"), .str (Str.ofString "is_simple") a5, .bool sb⟩] 5
theorem ne_cls {g h : Heap} {L a b : Addr} {o o' : Obj} {news : List (Addr × Obj)} (N : News g L h news) (ha : (a, o) ∈ news) (hb : (b, o') ∈ news) (hc : o.cls ≠ o'.cls) : @Ne Nat a b := fun e => by
  have h1 := (N _ ha).1
  have h2 := (N _ hb).1
  dsimp only at h1 h2
  rw [show a = b from e, h2] at h1
  exact hc (congrArg Obj.cls (Option.some.inj h1)).symm
end Mine
end

section
open PySem PySem.W PyProof.Rows PySem.Calls PySem.Spec
set_option maxRecDepth 100000
set_option maxHeartbeats 2000000
namespace Mine
theorem fillK_D9 : PySem.Challenge.rw_ph0163_01 = PySem.Challenge.rw_ph0163_01 ∧ Mine.KF = Mine.KF := by
  w_top off
  (try (walk1; fail))
  k_fill
  exact ⟨rfl, rfl⟩
section
variable {prog : Program} {w : World} {p : Program} {loose : List Str} {mean : ExcName → Option Value} {mg mb : Str → Option Value}


local macro_rules | `(tactic| walk_at "pyIter str") => `(tactic| (k_here; refine hold_it ?_))
theorem news_at4 {g h : Heap} {L q : Addr} {o : Obj} {a b c : Addr × Obj} (N : News g L h [a, b, c, (q, o)]) : ∃ o', o' = o ∧ News g L h [a, b, c, (q, o')] := ⟨o, rfl, N⟩
theorem ws_init_does {x dx : Addr} {u : Str} {tu : Tok} {pre : List Nat} (hcps : u.cps.toList = pre ++ [120]) (hpc : ∀ c ∈ pre, c = 32 ∨ c = 9) (hpl : pre.length ≤ 1000) :
    DoesK prog w p loose mean mg mb 87 [.ref x, .str u tu] 8 80 [(x, instObj 132 dx), (dx, dictOf [] 0)] (fun _ => True) [dx]
      (fun h r h' => r = .none ∧ E11 fun tn tt a1 a2 a3 a4 a5 D1 D2 cvs tb => A6 (h'.get? dx = some (wsDict w.params u tu (wsRun pre).n (wsRun pre).nt tn tt D2 (decide (((wsRun pre).cnt.length : Int) ≤ 1)) a1 a2 a3 a4 a5)) (h.get? D2 = none) (h'.get? D2 = some (tupObj [.ref D1, .int (wsRun pre).b tb])) (h.get? D1 = none) (h'.get? D1 = some (tupObj cvs)) (IntsAre cvs (wsRun pre).cnt)) := by
  refine' does_ofK (binds := [(Str.ofString "self", .ref x), (Str.ofString "ws", .str u tu)]) ?ho ?hcd ?hb ?hl ?c1 ?c2 ?c3 ?c4 ?c5 ?walk
  case ho => k_dflt k_is
  case hcd => k_dflt k_is
  case hb => exact fun s => BindsTo.of_eq rfl
  case hl => exact locs rfl
  case c1 => exact rfl
  case c2 => exact rfl
  case c3 => exact rfl
  case c4 => decide
  case c5 => decide
  case walk =>
    intro dp un gd cn cs a' ccd cl outer A₀ base L s g L' h' hent hpre F' N' B' X' hlt hd hu post9 hPost
    obtain ⟨X', T', c1', c2', c3'⟩ := X'
    dsimp only [AllLt] at hlt
    try dsimp only
    try k_fold
    have hxd := neN (a := x) (b := dx) (fun e9 => by
      have h1 := (N' (x, _) (by k_mem)).1
      have h2 := (N' (dx, _) (by k_mem)).1
      dsimp only at h1 h2
      rw [e9, h2] at h1
      cases h1)
    k_steps
    unfold Hold
    rename Fr _ _ _ _ => F8
    rename_i TT h0 lT h1 h2 h3 h4 C0 h5 lC h6 h7 h8 h9 N8
    with_unfolding_all refine For_invVF F8 rfl rfl ?_
    k_steps
    unfold Hold
    rename Fr _ _ _ _ => F9
    rename News _ _ _ _ => N9
    have hsz : u.cps.size = pre.length + 1 := by rw [← Array.length_toList, hcps]; simp
    have hget : ∀ i c, u.cps[i]? = some c → (pre ++ [120])[i]? = some c := fun i c h => by rw [← hcps, Array.getElem?_toList]; exact h
    have hasc : u.cps.all (· < 128) = true := by
      rw [← Array.all_toList, hcps]
      simp only [List.all_append, List.all_cons, List.all_nil, Bool.and_true, Bool.and_eq_true, decide_eq_true_eq, List.all_eq_true]
      exact ⟨fun c hc => by rcases hpc c hc with rfl | rfl <;> decide, by decide⟩
    obtain ⟨oD, hoD, N10⟩ := news_at4 N9
    refine iterJ_str (J := fun i m news => i ≤ pre.length ∧ E6 fun C cvs e tb tn tt => A6 (news = [(C, W.listOf cvs e), (TT, tupObj [.str (Str.ofString " ") 304, .str (Str.ofString "\t") 305]), (x, instObj 132 dx), (dx, oD)]) (IntsAre cvs.toList (wsRun (pre.take i)).cnt) (@LT.lt Nat _ TT C) (@LT.lt Nat _ x C) (@LT.lt Nat _ dx C) (Knows m [(Str.ofString "count", .ref C), (Str.ofString "b", .int (wsRun (pre.take i)).b tb), (Str.ofString "n", .int (wsRun (pre.take i)).n tn), (Str.ofString "nt", .int (wsRun (pre.take i)).nt tt), (Str.ofString "S", .str (Str.ofString " ") 304), (Str.ofString "T", .str (Str.ofString "\t") 305), (Str.ofString "self", .ref x)])) rfl hasc F9 N10 ?_ ?_ ?_
    · exact ⟨Nat.zero_le _, C0, #[], 0, _, _, _, rfl, .nil, lC.1, lC.2.1, lC.2.2, rfl, rfl, rfl, rfl, rfl, rfl, rfl, trivial⟩
    · rintro I i c tc m₁ news₁ h13 tk13 it hI hi hc ⟨hil, C, cvs, e, tb, tn, tt, rfl, hiv, hTC, hxC, hdC, hkn⟩ F13 N13 hn13 K hK Q9 hQ s1 hs1
      have F14 := Fr.knows F13 hkn
      dsimp only [at_] at F14
      clear F13
      have hCI := hn13.1
      have lI := news_lt N10 hI
      dsimp only [AllLt] at lI
      have hbd := wsRun_bound (pre.take i)
      have hc9 := hget i c hc
      rw [List.length_take, Nat.min_eq_left hil] at hbd
      rcases Nat.lt_or_ge i pre.length with hlt | hge
      · rw [List.getElem?_append_left hlt] at hc9
        have hnx : wsRun (pre.take (i + 1)) = wsStep (wsRun (pre.take i)) c := by rw [List.take_add_one, hc9, show (some c).toList = [c] from rfl, wsRun_snoc]
        rw [hnx] at hK
        generalize wsRun (pre.take i) = st at *
        rcases hpc c (List.mem_of_getElem? hc9) with rfl | rfl
        · k_steps
          rename_i F16 N16
          exact TurnJ.nextA hK F16 N16 (news' := [(C, W.listOf cvs e), (TT, tupObj [.str (Str.ofString " ") 304, .str (Str.ofString "\t") 305]), (x, instObj 132 dx), (dx, oD)]) (.head _) (fun q hq => .tail _ hq) hn13 ⟨hlt, C, cvs, e, _, _, _, rfl, hiv, hTC, hxC, hdC, rfl, rfl, rfl, rfl, rfl, rfl, rfl, trivial⟩
        · k_steps
          · rename_i lD2 h21 tt2 h22 hi2 hl2 hs2 h23 F16 N16
            rw [bump_grow] at hi2
            refine' TurnJ.nextA hK F16 N16 (news' := [(_, _), (TT, tupObj [.str (Str.ofString " ") 304, .str (Str.ofString "\t") 305]), (x, instObj 132 dx), (dx, oD)]) (by k_mem) ?_ ?_ ⟨hlt, _, _, _, _, _, _, rfl, hi2, ?_, ?_, ?_, rfl, rfl, rfl, rfl, rfl, rfl, rfl, trivial⟩
            · intro q hq
              simp only [List.mem_cons, List.not_mem_nil, or_false] at hq
              rcases hq with rfl | rfl | rfl | rfl
              · exact .head _
              all_goals k_mem
            · exact ⟨Nat.ne_of_gt lD2.2.2.1, hn13.2⟩
            · exact lD2.2.2.2.2.1
            · exact lD2.2.2.2.2.2.1
            · exact lD2.2.2.2.2.2.2
          · rename_i hnb tt2 h22 hi2 hl2 hs2 h23 F16 N16
            rw [bump_in _ _ hnb] at hi2
            refine TurnJ.nextA hK F16 N16 (news' := [(C, _), (TT, tupObj [.str (Str.ofString " ") 304, .str (Str.ofString "\t") 305]), (x, instObj 132 dx), (dx, oD)]) (by k_mem) (fun q hq => .tail _ hq) hn13 ⟨hlt, C, _, _, _, _, _, rfl, hi2, hTC, hxC, hdC, rfl, rfl, rfl, rfl, rfl, rfl, rfl, trivial⟩
      · have hie : i = pre.length := by omega
        subst hie
        rw [List.getElem?_append_right (Nat.le_refl _), Nat.sub_self] at hc9
        have hce : c = 120 := (Option.some.inj hc9).symm
        subst hce
        rw [List.take_length] at *
        subst hoD
        k_steps
        refine hQ _ _ ?_
        subst hs1
        dsimp only
        k_steps
        rename_i D1 h21 k21 D2 h22 F22 N22 l22
        have hD1 := ne_cls (a := D1) (b := dx) N22 (.tail _ (.head _)) (by k_mem) (fun h => by simp at h)
        have hD1x := ne_cls (a := D1) (b := x) N22 (.tail _ (.head _)) (by k_mem) (fun h => by simp at h)
        k_steps
        rename_i F23 N23
        refine Ret.ofA hPost (hent.grown F23 N23 ?_) ⟨rfl, tn, tt, _, _, _, _, _, D1, D2, cvs.toList, tb, (N23 (dx, _) (.tail _ (.tail _ (.tail _ (.tail _ (.tail _ (.tail _ (.head _)))))))).1, hent.none N23 (.head _) ?_, (N23 _ (.head _)).1, hent.none N23 (.tail _ (.head _)) ?_, (N23 _ (.tail _ (.head _))).1, hiv⟩
        · exact AllP.mem ⟨.inr (by k_mem), .inl (.head _), trivial⟩
        · exact AllNe.at (l := [_, _]) ⟨Nat.ne_of_lt l22.2.2.2.2.1, Nat.ne_of_lt l22.2.2.2.2.2, trivial⟩
        · exact AllNe.at (l := [_, _]) ⟨hD1x.symm, hD1.symm, trivial⟩
    · rintro m₁ news₁ h13 tk13 ⟨hil, _⟩ F13 N13
      omega
end
end Mine
end

section
open PySem PySem.W PyProof.Rows PySem.Calls PySem.Spec
set_option maxRecDepth 100000
set_option maxHeartbeats 2000000
namespace Mine
theorem fillK_D10 : PySem.Challenge.rw_ph0163_01 = PySem.Challenge.rw_ph0163_01 ∧ Mine.KF = Mine.KF := by
  w_top off
  (try (walk1; fail))
  k_fill
  exact ⟨rfl, rfl⟩
section
variable {prog : Program} {w : World} {p : Program} {loose : List Str} {mean : ExcName → Option Value} {mg mb : Str → Option Value}


noncomputable def indentOf (cnt : List Int) (b nt ts : Nat) : Int := (b : Int) + (ts : Int) * ((List.range (cnt.length - ts)).foldl (fun il k => il + (((ts + k) / ts : Nat) : Int) * cnt.getD (ts + k) 0) 0 + (nt : Int))
/-- a Whitespace as a ledger has it -/
noncomputable abbrev wsNews (P : Params) (x dx D2 D1 : Addr) (u : Str) (tu : Tok) (n nt b : Nat) (tn tt tb : Tok) (sb : Bool) (a1 a2 a3 a4 a5 : Tok) (cvs : List Value) : List (Addr × Obj) :=
  [(x, instObj 132 dx), (dx, wsDict P u tu n nt tn tt D2 sb a1 a2 a3 a4 a5), (D2, tupObj [.ref D1, .int b tb]), (D1, tupObj cvs)]
section
variable {prog : Program} {w : World} {A : PySem.Around} {E : Value → Shared → Prop} {s : Shared}
theorem len_tupI {l : Addr} {vs : List Value} {ns : List Int} {Q : Value → Shared → Prop} (hl : IsTup s.heap l vs.toArray) (hi : IntsAre vs ns) (hz : ns.length ≤ 1000) (h : Q (.int ns.length (s.toks + 1)) { s with toks := s.toks + 1 + 1 }) :
    wpAny (model prog w) A (call (.builtin "len") [.ref l]) Q E s := by
  have e : (vs.toArray.size : Int) = ns.length := by simp [hi.length]
  exact kun_lenT hl e (by omega) h
theorem getD_memI {l : List Int} {i : Nat} (h : i < l.length) : l.getD i 0 ∈ l := by rw [List.getD_eq_getElem?_getD, List.getElem?_eq_getElem h]; exact List.getElem_mem h
end
local macro_rules | `(tactic| walk_at "call builtin:len") => `(tactic| (k_here; (with_reducible show wpAny _ _ (call (Value.builtin "len") [Value.ref _]) _ _ _); refine len_tupI (News.isTup (by k_asm) (by k_mem)) (by assumption) (by omega) ?_))
theorem indent_does {x dx D2 D1 : Addr} {u : Str} {tu tn tt tb a1 a2 a3 a4 a5 : Tok} {n nt b ts : Nat} {tts : Tok} {sb : Bool} {cvs : List Value} {cnt : List Int} (hi : IntsAre cvs cnt) (hc : ∀ y ∈ cnt, 0 ≤ y ∧ y ≤ 100) (hl : cnt.length ≤ 100) (hts : 1 ≤ ts) (hts2 : ts ≤ 100) :
    Does prog w p loose mean mg mb 101 [.ref x, .int ts tts] 8 80 (wsNews w.params x dx D2 D1 u tu n nt b tn tt tb sb a1 a2 a3 a4 a5 cvs) (fun _ => True) []
      (fun h r h' => ∃ t, r = .int (indentOf cnt b nt ts) t) := by
  refine' does_of (binds := [(Str.ofString "self", .ref x), (Str.ofString "tabsize", .int ts tts)]) ?ho ?hcd ?hb ?hl ?c1 ?c2 ?c3 ?c4 ?c5 ?walk
  case ho => k_dflt k_is
  case hcd => k_dflt k_is
  case hb => exact fun s => BindsTo.of_eq rfl
  case hl => exact locs rfl
  case c1 => exact rfl
  case c2 => exact rfl
  case c3 => exact rfl
  case c4 => decide
  case c5 => decide
  case walk =>
    intro dp un gd cn cs a' ccd cl outer A₀ base L s g L' h' hent hpre F' N' B' X' hlt hd hu post9 hPost
    obtain ⟨X', T', c1', c2', c3'⟩ := X'
    dsimp only [AllLt] at hlt
    try dsimp only
    try k_fold
    dsimp only [wsNews] at N' hent
    k_steps
    unfold Hold
    rename Fr _ _ _ _ => F8
    with_unfolding_all refine For_invVF F8 rfl rfl ?_
    k_steps
    unfold Hold
    rename IsRange _ _ _ _ _ _ _ _ => hrg
    rename Fr _ _ _ _ => F9
    rename News _ _ _ _ => N9
    refine iterJ_range (n := cnt.length - ts) (J := fun i m news => news = wsNews w.params x dx D2 D1 u tu n nt b tn tt tb sb a1 a2 a3 a4 a5 cvs ∧ ∃ ti, Knows m [(Str.ofString "il", .int ((List.range i).foldl (fun il k => il + (((ts + k) / ts : Nat) : Int) * cnt.getD (ts + k) 0) 0) ti), (Str.ofString "count", .ref D1), (Str.ofString "trailing", .int b tb), (Str.ofString "tabsize", .int ts tts), (Str.ofString "self", .ref x)]) rfl hrg (small_one (by omega) (by omega) (by omega) (by omega)) (by rw [rangeSize_nat]; omega) F9 N9 ?_ ?_ ?_
    · exact ⟨rfl, _, rfl, rfl, rfl, rfl, rfl, trivial⟩
    · rintro I i ti m₁ news₁ h13 tk13 it1 hI hi1 ⟨rfl, tl, hkn⟩ F13 N13 hn13 K hK Q9 hQ s1 hs1
      have F14 := Fr.knows F13 hkn
      dsimp only [at_] at F14
      rw [show (ts : Int) + (i : Int) = ((ts + i : Nat) : Int) by omega] at F14
      clear F13 F9 N9
      have hcb := hc (cnt.getD (ts + i) 0) (getD_memI (by omega))
      have hcn : (cnt.getD (ts + i) 0).natAbs ≤ 100 := by omega
      rw [List.range_succ, List.foldl_append] at hK
      generalize (List.range i).foldl (fun il k => il + (((ts + k) / ts : Nat) : Int) * cnt.getD (ts + k) 0) 0 = il at *
      dsimp only [wsNews] at N13 hn13
      have hil : ts + i < cnt.length := by omega
      have htn : (ts : Int) ≠ 0 := by omega
      have htp : (0 : Int) < ts := by omega
      k_steps
      rw [Int.toNat_natCast, Int.fdiv_eq_ediv_of_nonneg _ (Int.natCast_nonneg ts), ← Int.natCast_ediv]
      k_steps
      rename_i F16 N16
      exact TurnJ.nextA hK F16 N16 (.head _) (fun p hp => .tail _ hp) hn13 ⟨rfl, _, rfl, rfl, rfl, rfl, rfl, trivial⟩
    · rintro m₁ news₁ h13 tk13 ⟨rfl, tl, hkn⟩ F13 N13
      have F14 := Fr.knows0 F13 hkn
      dsimp only [at_] at F14
      dsimp only [wsNews] at N13
      dsimp only
      have htn : (ts : Int).natAbs ≤ 100 := by omega
      k_steps
      dsimp only [qk]
      exact Ret.ofA hPost (hent.grown F14 N13 (fun _ h => .inr h)) ⟨_, rfl⟩
end
end Mine
end

section
open PySem PySem.W PyProof.Rows PySem.Calls PySem.Spec
set_option maxRecDepth 100000
namespace Mine
section
variable {prog : Program} {w : World} {A : PySem.Around} {E : Value → Shared → Prop} {s : Shared} {Q : Value → Shared → Prop}
theorem reads_shaped {d : Dat} (h : kqdOk 8 d = true) : SeqAt.shaped (kqdP d) = true := by
  have la := kqd_lay 8 d h
  unfold SeqAt.shaped
  rw [la.1, Bool.true_and]
  exact decide_eq_true (Nat.le_trans la.2 (by decide))
theorem eqv_dat {d e : Dat} {b : Bool} (ha : kqdOk 8 d = true) (hb : kqdOk 8 e = true) (h : d = e ↔ b = true) : PyData.eqv (kqdP d) (kqdP e) = b := by
  have q := (kqd_eqv 8 d e 8 ha hb).trans h
  cases b
  · exact Bool.eq_false_iff.mpr fun x => by simpa using q.mp x
  · exact q.mpr rfl
theorem eq_reads {x y : Value} {d e : Dat} {as bs : List Addr} (b : Bool) (ra : Reads s.heap x (kqdP d) as) (rb : Reads s.heap y (kqdP e) bs) (ha : kqdOk 8 d = true) (hb : kqdOk 8 e = true) (hu : A.units + 64 < cLine)
    (hd : d = e ↔ b = true) (h : Q (.bool b) s) : wpAny (model prog w) A (compareOp .Eq x y) Q E s :=
  eq_dataH ra rb (reads_shaped ha) (reads_shaped hb) hu (by rw [eqv_dat ha hb hd]; exact h)
theorem ne_reads {x y : Value} {d e : Dat} {as bs : List Addr} (b : Bool) (ra : Reads s.heap x (kqdP d) as) (rb : Reads s.heap y (kqdP e) bs) (ha : kqdOk 8 d = true) (hb : kqdOk 8 e = true) (hu : A.units + 64 < cLine)
    (hd : d = e ↔ b = true) (h : Q (.bool (!b)) s) : wpAny (model prog w) A (compareOp .NotEq x y) Q E s :=
  ne_dataH ra rb (reads_shaped ha) (reads_shaped hb) hu (by rw [eqv_dat ha hb hd]; exact h)
end
theorem datAll_ints {news : List (Addr × Obj)} : ∀ {vs : List Value} {ns : List Int}, IntsAre vs ns → DatAll news vs (ns.map Dat.int)
  | _, _, .nil => .nil
  | _, _, .cons _ _ r => .cons (.int _ _) (datAll_ints r)
theorem kqdOk_ints (n : Nat) (ns : List Int) : (ns.map Dat.int).all (kqdOk n) = true := by
  induction ns with
  | nil => rfl
  | cons k r ih => rw [List.map_cons, List.all_cons, ih]; cases n <;> rfl
theorem map_inj {α β : Type} {f : α → β} (hf : ∀ x y, f x = f y → x = y) : ∀ {a b : List α}, a.map f = b.map f → a = b
  | [], [], _ => rfl
  | [], _ :: _, h => by simp at h
  | _ :: _, [], h => by simp at h
  | x :: a, y :: b, h => by
    rw [List.map_cons, List.map_cons, List.cons.injEq] at h
    rw [hf _ _ h.1, map_inj hf h.2]
theorem datInts_inj {a b : List Int} : a.map Dat.int = b.map Dat.int → a = b := by
  intro h
  exact map_inj (fun x y e => Dat.int.inj e) h
noncomputable def rowDat (d : Nat × Int × Int) : Dat := .tuple [.int d.1, .int d.2.1, .int d.2.2]
theorem rowDat_ok (d : Nat × Int × Int) : kqdOk 7 (rowDat d) = true := rfl
theorem rowsDat_ok (rows : List (Nat × Int × Int)) : kqdOk 8 (.list (rows.map rowDat)) = true := by
  show (rows.map rowDat).all (kqdOk 7) = true
  induction rows with
  | nil => rfl
  | cons k r ih => rw [List.map_cons, List.all_cons, ih]; rfl
theorem rowDat_inj {a b : Nat × Int × Int} (h : rowDat a = rowDat b) : a = b := by
  obtain ⟨a1, a2, a3⟩ := a
  obtain ⟨b1, b2, b3⟩ := b
  simp only [rowDat, Dat.tuple.injEq, List.cons.injEq, Dat.int.injEq, and_true] at h
  obtain ⟨h1, h2, h3⟩ := h
  rw [show a1 = b1 by omega, h2, h3]
theorem rowsDat_inj {a b : List (Nat × Int × Int)} (h : Dat.list (a.map rowDat) = Dat.list (b.map rowDat)) : a = b :=
  map_inj (fun x y e => rowDat_inj e) (Dat.list.inj h)
theorem trip_reads {h : Heap} {v : Value} {d : Nat × Int × Int} (x : Trip h v d) : ∃ as, Reads h v (kqdP (rowDat d)) as := by
  obtain ⟨q, t1, t2, t3, rfl, hq⟩ := x
  exact ⟨_, reads_tuple_at hq rfl rfl (.cons (.int _ _) (.cons (.int _ _) (.cons (.int _ _) .nil)))⟩
theorem rows_reads {h : Heap} : ∀ {vs : List Value} {rows : List (Nat × Int × Int)}, RowsAt h vs rows → ∃ as, ReadsAll h vs (kqdPs (rows.map rowDat)) as
  | _, _, .nil => ⟨_, .nil⟩
  | _, _, .cons t r => by
    obtain ⟨as, q⟩ := trip_reads t
    obtain ⟨bs, p⟩ := rows_reads r
    exact ⟨_, .cons q p⟩
theorem list_reads {h : Heap} {D : Addr} {vs : List Value} {e : Nat} {rows : List (Nat × Int × Int)} (hD : h.get? D = some (W.listOf vs.toArray e)) (r : RowsAt h vs rows) : ∃ as, Reads h (.ref D) (kqdP (.list (rows.map rowDat))) as := by
  obtain ⟨as, q⟩ := rows_reads r
  exact ⟨_, reads_list_at hD rfl rfl q⟩
end Mine
end

section
open PySem PySem.W PyProof.Rows PySem.Calls PySem.Spec
set_option maxRecDepth 100000
set_option maxHeartbeats 2000000
namespace Mine
theorem fillK_D11 : PySem.Challenge.rw_ph0163_01 = PySem.Challenge.rw_ph0163_01 ∧ Mine.KF = Mine.KF := by
  w_top off
  (try (walk1; fail))
  k_fill
  exact ⟨rfl, rfl⟩
section
variable {prog : Program} {w : World} {p : Program} {loose : List Str} {mean : ExcName → Option Value} {mg mb : Str → Option Value}


local macro_rules | `(tactic| walk_at "call builtin:len") => `(tactic| (k_here; (with_reducible show wpAny _ _ (call (Value.builtin "len") [Value.ref _]) _ _ _); refine len_tupI (News.isTup (by k_asm) (by k_mem)) (by assumption) (by omega) ?_))
theorem longest_does {x dx D2 D1 : Addr} {u : Str} {tu tn tt tb a1 a2 a3 a4 a5 : Tok} {n nt b : Nat} {sb : Bool} {cvs : List Value} {cnt : List Int} (hi : IntsAre cvs cnt) (hl : cnt.length ≤ 100) (hb : b + 1 ≤ cnt.length) :
    Does prog w p loose mean mg mb 94 [.ref x] 8 80 (wsNews w.params x dx D2 D1 u tu n nt b tn tt tb sb a1 a2 a3 a4 a5 cvs) (fun _ => True) []
      (fun h r h' => ∃ t, r = .int ((cnt.length - 1 : Nat) : Int) t) := by
  refine' does_of (binds := [(Str.ofString "self", .ref x)]) ?ho ?hcd ?hb ?hl ?c1 ?c2 ?c3 ?c4 ?c5 ?walk
  case ho => k_dflt k_is
  case hcd => k_dflt k_is
  case hb => exact fun s => BindsTo.of_eq rfl
  case hl => exact locs rfl
  case c1 => exact rfl
  case c2 => exact rfl
  case c3 => exact rfl
  case c4 => decide
  case c5 => decide
  case walk =>
    intro dp un gd cn cs a' ccd cl outer A₀ base L s g L' h' hent hpre F' N' B' X' hlt hd hu post9 hPost
    obtain ⟨X', T', c1', c2', c3'⟩ := X'
    dsimp only [AllLt] at hlt
    try dsimp only
    try k_fold
    dsimp only [wsNews] at N' hent
    have h9 : ((cnt.length - 1 : Nat) : Int) = (cnt.length : Int) - 1 := by omega
    k_steps
    rename_i F9 N9
    rw [if_neg (by omega), ← h9]
    exact Ret.ofA hPost (hent.grown F9 N9 (fun _ h => .inr h)) ⟨_, rfl⟩

theorem norm_reads {g h : Heap} {L D2 D1 : Addr} {b : Nat} {tb : Tok} {cvs : List Value} {cnt : List Int} {news : List (Addr × Obj)} (N : News g L h news) (m2 : (D2, tupObj [.ref D1, .int b tb]) ∈ news) (m1 : (D1, tupObj cvs) ∈ news) (hi : IntsAre cvs cnt) :
    ∃ as, Reads h (.ref D2) (kqdP (.tuple [.tuple (cnt.map Dat.int), .int b])) as :=
  kqd_in N 8 (DatIn.tuple m2 (.cons (.tuple m1 (datAll_ints hi)) (.cons (.int _ _) .nil))) (by
    show (Dat.tuple (cnt.map Dat.int) :: [Dat.int b]).all (kqdOk 7) = true
    rw [List.all_cons, List.all_cons]
    show ((cnt.map Dat.int).all (kqdOk 6) && _) = true
    rw [kqdOk_ints]
    rfl)
theorem norm_ok (cnt : List Int) (b : Nat) : kqdOk 8 (.tuple [.tuple (cnt.map Dat.int), .int b]) = true := by
  show (Dat.tuple (cnt.map Dat.int) :: [Dat.int b]).all (kqdOk 7) = true
  rw [List.all_cons, List.all_cons]
  show ((cnt.map Dat.int).all (kqdOk 6) && _) = true
  rw [kqdOk_ints]
  rfl
theorem equal_does {x dx D2 D1 : Addr} {u : Str} {tu tn tt tb a1 a2 a3 a4 a5 : Tok} {n nt b : Nat} {sb : Bool} {cvs : List Value} {cnt : List Int} {x' dx' D2' D1' : Addr} {u' : Str} {tu' tn' tt' tb' a1' a2' a3' a4' a5' : Tok} {n' nt' b' : Nat} {sb' : Bool} {cvs' : List Value} {cnt' : List Int} (hi : IntsAre cvs cnt) (hi' : IntsAre cvs' cnt') (hne : cnt ≠ cnt') :
    Does prog w p loose mean mg mb 108 [.ref x, .ref x'] 8 80 (wsNews w.params x dx D2 D1 u tu n nt b tn tt tb sb a1 a2 a3 a4 a5 cvs ++ wsNews w.params x' dx' D2' D1' u' tu' n' nt' b' tn' tt' tb' sb' a1' a2' a3' a4' a5' cvs') (fun _ => True) []
      (fun h r h' => r = .bool false) := by
  refine' does_of (binds := [(Str.ofString "self", .ref x), (Str.ofString "other", .ref x')]) ?ho ?hcd ?hb ?hl ?c1 ?c2 ?c3 ?c4 ?c5 ?walk
  case ho => k_dflt k_is
  case hcd => k_dflt k_is
  case hb => exact fun s => BindsTo.of_eq rfl
  case hl => exact locs rfl
  case c1 => exact rfl
  case c2 => exact rfl
  case c3 => exact rfl
  case c4 => decide
  case c5 => decide
  case walk =>
    intro dp un gd cn cs a' ccd cl outer A₀ base L s g L' h' hent hpre F' N' B' X' hlt hd hu post9 hPost
    obtain ⟨X', T', c1', c2', c3'⟩ := X'
    dsimp only [wsNews, List.cons_append, List.nil_append, AllLt] at hlt
    try dsimp only
    try k_fold
    dsimp only [wsNews, List.cons_append, List.nil_append] at N' hent
    k_steps
    obtain ⟨as, ra⟩ := norm_reads (D2 := D2) (D1 := D1) (b := b) (tb := tb) N' (by k_mem) (by k_mem) hi
    obtain ⟨bs, rb⟩ := norm_reads (D2 := D2') (D1 := D1') (b := b') (tb := tb') N' (by k_mem) (by k_mem) hi'
    refine eq_reads false ra rb (norm_ok _ _) (norm_ok _ _) ?_ ?_ ?_
    · ke_room
    · simp only [Dat.tuple.injEq, List.cons.injEq, and_true, Bool.false_eq_true, iff_false, not_and]
      exact fun h => absurd (datInts_inj h) hne
    · dsimp only [qk]
      exact Ret.ofA hPost (hent.grown F' N' (fun _ h => .inr h)) rfl
end
end Mine
end

section
open PySem PySem.W PyProof.Rows PySem.Calls PySem.Spec
set_option maxRecDepth 100000
set_option maxHeartbeats 2000000
namespace Mine
theorem fillK_D12 : PySem.Challenge.rw_ph0163_01 = PySem.Challenge.rw_ph0163_01 ∧ Mine.KF = Mine.KF := by
  w_top off
  (try (walk1; fail))
  k_fill
  exact ⟨rfl, rfl⟩
section
variable {prog : Program} {w : World} {p : Program} {loose : List Str} {mean : ExcName → Option Value} {mg mb : Str → Option Value}


theorem wsFst {p1 p2 p3 p4 : Addr × Obj} {r : List (Addr × Obj)} : ∀ q ∈ [p1, p2, p3, p4], q ∈ p1 :: p2 :: p3 :: p4 :: r := sub_pick0 [0, 1, 2, 3] rfl
theorem wsSnd {p1 p2 p3 p4 q1 q2 q3 q4 : Addr × Obj} {r : List (Addr × Obj)} : ∀ q ∈ [q1, q2, q3, q4], q ∈ p1 :: p2 :: p3 :: p4 :: q1 :: q2 :: q3 :: q4 :: r := sub_pick0 [4, 5, 6, 7] rfl
theorem indent_top {cnt : List Int} {b nt ts : Nat} (h : cnt.length ≤ ts) : indentOf cnt b nt ts = (b : Int) + (ts : Int) * (nt : Int) := by
  unfold indentOf
  rw [show cnt.length - ts = 0 by omega, List.range_zero, List.foldl_nil, Int.zero_add]
theorem less_ge {x dx D2 D1 : Addr} {u : Str} {tu tn tt tb a1 a2 a3 a4 a5 : Tok} {n nt b : Nat} {sb : Bool} {cvs : List Value} {cnt : List Int} {x' dx' D2' D1' : Addr} {u' : Str} {tu' tn' tt' tb' a1' a2' a3' a4' a5' : Tok} {n' nt' b' : Nat} {sb' : Bool} {cvs' : List Value} {cnt' : List Int} (hge : n' ≤ n) :
    Does prog w p loose mean mg mb 122 [.ref x, .ref x'] 20 160 (wsNews w.params x dx D2 D1 u tu n nt b tn tt tb sb a1 a2 a3 a4 a5 cvs ++ wsNews w.params x' dx' D2' D1' u' tu' n' nt' b' tn' tt' tb' sb' a1' a2' a3' a4' a5' cvs') (fun _ => True) []
      (fun h r h' => r = .bool false) := by
  refine' does_of (binds := [(Str.ofString "self", .ref x), (Str.ofString "other", .ref x')]) ?ho ?hcd ?hb ?hl ?c1 ?c2 ?c3 ?c4 ?c5 ?walk
  case ho => k_dflt k_is
  case hcd => k_dflt k_is
  case hb => exact fun s => BindsTo.of_eq rfl
  case hl => exact locs rfl
  case c1 => exact rfl
  case c2 => exact rfl
  case c3 => exact rfl
  case c4 => decide
  case c5 => decide
  case walk =>
    intro dp un gd cn cs a' ccd cl outer A₀ base L s g L' h' hent hpre F' N' B' X' hlt hd hu post9 hPost
    obtain ⟨X', T', c1', c2', c3'⟩ := X'
    dsimp only [wsNews, List.cons_append, List.nil_append, AllLt] at hlt
    try dsimp only
    try k_fold
    dsimp only [wsNews, List.cons_append, List.nil_append] at N' hent
    have hge2 : (n : Int) ≥ n' := by omega
    k_steps
    dsimp only [qk]
    exact Ret.ofA hPost (hent.grown F' N' (fun _ h => .inr h)) rfl

theorem less_loop {x dx D2 D1 : Addr} {u : Str} {tu tn tt tb a1 a2 a3 a4 a5 : Tok} {n nt b : Nat} {sb : Bool} {cvs : List Value} {cnt : List Int} {x' dx' D2' D1' : Addr} {u' : Str} {tu' tn' tt' tb' a1' a2' a3' a4' a5' : Tok} {n' nt' b' : Nat} {sb' : Bool} {cvs' : List Value} {cnt' : List Int} (hi : IntsAre cvs cnt) (hc : ∀ y ∈ cnt, 0 ≤ y ∧ y ≤ 100) (hl : cnt.length = 12) (hi' : IntsAre cvs' cnt') (hc' : ∀ y ∈ cnt', 0 ≤ y ∧ y ≤ 100) (hl' : cnt'.length = 13) (hb : b ≤ 3) (hbb : b' = b) (hntt : nt' = nt) (hlt0 : n < n') :
    Does prog w p loose mean mg mb 122 [.ref x, .ref x'] 20 160 (wsNews w.params x dx D2 D1 u tu n nt b tn tt tb false a1 a2 a3 a4 a5 cvs ++ wsNews w.params x' dx' D2' D1' u' tu' n' nt' b' tn' tt' tb' sb' a1' a2' a3' a4' a5' cvs') (fun _ => True) []
      (fun h r h' => r = .bool false) := by
  refine' does_of (binds := [(Str.ofString "self", .ref x), (Str.ofString "other", .ref x')]) ?ho ?hcd ?hb ?hl ?c1 ?c2 ?c3 ?c4 ?c5 ?walk
  case ho => k_dflt k_is
  case hcd => k_dflt k_is
  case hb => exact fun s => BindsTo.of_eq rfl
  case hl => exact locs rfl
  case c1 => exact rfl
  case c2 => exact rfl
  case c3 => exact rfl
  case c4 => decide
  case c5 => decide
  case walk =>
    intro dp un gd cn cs a' ccd cl outer A₀ base L s g L' h' hent hpre F' N' B' X' hlt hd hu post9 hPost
    obtain ⟨X', T', c1', c2', c3'⟩ := X'
    dsimp only [wsNews, List.cons_append, List.nil_append, AllLt] at hlt
    try dsimp only
    try k_fold
    dsimp only [wsNews, List.cons_append, List.nil_append] at N' hent
    have hge2 : ¬((n : Int) ≥ n') := by omega
    k_steps
    unfold Hold
    refine (longest_does hi (by omega) (by omega)).use B' F' N' X' T' c1' c2' c3' rfl wsFst trivial (by dsimp only; omega) (by dsimp only; omega) ?_
    rintro r1 h1 tk1 g1 ⟨t1, rfl⟩
    have F1 := g1.fr F' (fun c hc => nomatch hc)
    have N1 := g1.news N' (fun q hq h => nomatch h)
    rw [hl]
    dsimp only
    k_steps
    unfold Hold
    refine (longest_does hi' (by omega) (by omega)).use B' F1 N1 X' T' c1' c2' c3' rfl wsSnd trivial (by dsimp only; omega) (by dsimp only; omega) ?_
    rintro r2 h2 tk2 g2 ⟨t2, rfl⟩
    have F2 := g2.fr F1 (fun c hc => nomatch hc)
    have N2 := g2.news N1 (fun q hq h => nomatch h)
    rw [hl']
    dsimp only
    k_steps
    unfold Hold
    rename Fr _ _ _ _ => F8
    with_unfolding_all refine For_invVF F8 rfl rfl ?_
    k_steps
    unfold Hold
    rename IsRange _ _ _ _ _ _ _ _ => hrg
    rename Fr _ _ _ _ => F9
    rename News _ _ _ _ => N9
    refine iterJ_range (n := 12) (J := fun i m news => A3 (news = (wsNews w.params x dx D2 D1 u tu n nt b tn tt tb false a1 a2 a3 a4 a5 cvs ++ wsNews w.params x' dx' D2' D1' u' tu' n' nt' b' tn' tt' tb' sb' a1' a2' a3' a4' a5' cvs')) (i ≤ 11) (Knows m [(Str.ofString "self", .ref x), (Str.ofString "other", .ref x')])) rfl hrg (by decide) (by decide) F9 N9 ?_ ?_ ?_
    · exact ⟨rfl, Nat.zero_le _, rfl, rfl, trivial⟩
    · rintro I i ti m₁ news₁ h13 tk13 it1 hI hi1 ⟨rfl, hi11, hkn⟩ F13 N13 hn13 K hK Q9 hQ s1 hs1
      have F14 := Fr.knows F13 hkn
      dsimp only [at_] at F14
      rw [show (2 : Int) + (i : Int) = ((2 + i : Nat) : Int) by omega] at F14
      try clear F13
      try clear F9
      try clear N9
      try clear F1
      try clear N1
      try clear F2
      try clear N2
      try clear F8
      dsimp only [wsNews, List.cons_append, List.nil_append] at N13 hn13
      k_steps
      unfold Hold
      refine (indent_does hi hc (by omega) (by omega) (by omega)).use B' F14 N13 X' T' c1' c2' c3' rfl (fun q hq => .tail _ (wsFst q hq)) trivial (by dsimp only; omega) (by dsimp only; omega) ?_
      rintro r1 h1 tk1 g1 ⟨t1, rfl⟩
      have F1 := g1.fr F14 (fun c hc => nomatch hc)
      have N1 := g1.news N13 (fun q hq h => nomatch h)
      dsimp only
      k_steps
      unfold Hold
      refine (indent_does hi' hc' (by omega) (by omega) (by omega)).use B' F1 N1 X' T' c1' c2' c3' rfl (fun q hq => .tail _ (wsSnd q hq)) trivial (by dsimp only; omega) (by dsimp only; omega) ?_
      rintro r2 h2 tk2 g2 ⟨t2, rfl⟩
      have F2 := g2.fr F1 (fun c hc => nomatch hc)
      have N2 := g2.news N1 (fun q hq h => nomatch h)
      dsimp only
      try clear F14
      try clear F1
      try clear N1
      k_steps
      · refine hQ _ _ ?_
        subst hs1
        dsimp only [qk]
        exact Ret.ofA hPost (hent.grown F2 N2 (fun q hq => .inr (.tail _ hq))) rfl
      · rename_i hlt9
        refine TurnJ.nextA hK F2 N2 (.head _) (fun p hp => .tail _ hp) hn13 ⟨rfl, ?_, rfl, rfl, trivial⟩
        rcases Nat.lt_or_ge i 11 with h11 | h11
        · exact h11
        · rw [indent_top (by omega), indent_top (by omega), hbb, hntt] at hlt9
          exact absurd (Int.le_refl _) hlt9
    · rintro m₁ news₁ h13 tk13 ⟨rfl, hle, hkn⟩ F13 N13
      omega
end
end Mine
end

local macro_rules | `(tactic| k_all) => `(tactic| exact Mine.AllNe.at (by assumption))
section
open PySem PySem.W PyProof.Rows PySem.Calls PySem.Spec
set_option maxRecDepth 100000
set_option maxHeartbeats 2000000
namespace Mine
theorem fillK_D13 : PySem.Challenge.rw_ph0163_01 = PySem.Challenge.rw_ph0163_01 ∧ Mine.KF = Mine.KF := by
  w_top off
  (try (walk1; fail))
  k_fill
  exact ⟨rfl, rfl⟩
section
variable {prog : Program} {w : World} {p : Program} {loose : List Str} {mean : ExcName → Option Value} {mg mb : Str → Option Value}


/-- a row of three numbers as a ledger has it -/
noncomputable def TripIn (l : List (Addr × Obj)) (v : Value) (d : Nat × Int × Int) : Prop := ∃ q t1 t2 t3, v = .ref q ∧ (q, tupObj [.int d.1 t1, .int d.2.1 t2, .int d.2.2 t3]) ∈ l
inductive RowsIn (l : List (Addr × Obj)) : List Value → List (Nat × Int × Int) → Prop
  | nil : RowsIn l [] []
  | cons {v d vs ds} : TripIn l v d → RowsIn l vs ds → RowsIn l (v :: vs) (d :: ds)
theorem TripIn.mono {l l' : List (Addr × Obj)} {v d} (k : ∀ q ∈ l, q ∈ l') (x : TripIn l v d) : TripIn l' v d := by
  obtain ⟨q, t1, t2, t3, e, m⟩ := x
  exact ⟨q, t1, t2, t3, e, k _ m⟩
theorem TripIn.at {l : List (Addr × Obj)} {h : Heap} {v d} (k : ∀ q ∈ l, h.get? q.1 = some q.2) (x : TripIn l v d) : Trip h v d := by
  obtain ⟨q, t1, t2, t3, e, m⟩ := x
  exact ⟨q, t1, t2, t3, e, k _ m⟩
theorem RowsIn.mono {l l' : List (Addr × Obj)} (k : ∀ q ∈ l, q ∈ l') : ∀ {vs ds}, RowsIn l vs ds → RowsIn l' vs ds := fun x => RowsIn.rec (motive := fun vs ds _ => RowsIn l' vs ds) .nil (fun t _ ih => .cons (t.mono k) ih) x
theorem RowsIn.append {l : List (Addr × Obj)} : ∀ {vs ds ws es}, RowsIn l vs ds → RowsIn l ws es → RowsIn l (vs ++ ws) (ds ++ es) := fun {_ _ ws es} x k => RowsIn.rec (motive := fun vs ds _ => RowsIn l (vs ++ ws) (ds ++ es)) k (fun t _ ih => .cons t ih) x
theorem RowsIn.at {l : List (Addr × Obj)} {h : Heap} (k : ∀ q ∈ l, h.get? q.1 = some q.2) : ∀ {vs ds}, RowsIn l vs ds → RowsAt h vs ds := fun x => RowsIn.rec (motive := fun vs ds _ => RowsAt h vs ds) .nil (fun t _ ih => .cons (t.at k) ih) x
noncomputable def witRow (f g : Nat → Int) (i : Nat) : List (Nat × Int × Int) := if f (1 + i) = g (1 + i) then [] else [(1 + i, f (1 + i), g (1 + i))]
noncomputable def witRows (f g : Nat → Int) (k : Nat) : List (Nat × Int × Int) := (List.range k).flatMap (witRow f g)
theorem witRows_succ (f g : Nat → Int) (k : Nat) : witRows f g (k + 1) = witRows f g k ++ witRow f g k := by
  unfold witRows
  rw [List.range_succ, List.flatMap_append]
  simp
theorem wit_does {x dx D2 D1 : Addr} {u : Str} {tu tn tt tb a1 a2 a3 a4 a5 : Tok} {n nt b : Nat} {sb : Bool} {cvs : List Value} {cnt : List Int} {x' dx' D2' D1' : Addr} {u' : Str} {tu' tn' tt' tb' a1' a2' a3' a4' a5' : Tok} {n' nt' b' : Nat} {sb' : Bool} {cvs' : List Value} {cnt' : List Int} (hi : IntsAre cvs cnt) (hc : ∀ y ∈ cnt, 0 ≤ y ∧ y ≤ 100) (hl : cnt.length = 12) (hi' : IntsAre cvs' cnt') (hc' : ∀ y ∈ cnt', 0 ≤ y ∧ y ≤ 100) (hl' : cnt'.length = 13) (hb : b ≤ 3) (hb' : b' ≤ 3) :
    Does prog w p loose mean mg mb 115 [.ref x, .ref x'] 20 160 (wsNews w.params x dx D2 D1 u tu n nt b tn tt tb sb a1 a2 a3 a4 a5 cvs ++ wsNews w.params x' dx' D2' D1' u' tu' n' nt' b' tn' tt' tb' sb' a1' a2' a3' a4' a5' cvs') (fun _ => True) []
      (fun h r h' => E4 fun A us e tups => A5 (r = .ref A) (h.get? A = none) (h'.get? A = some (W.listOf us.toArray e)) ((∀ q ∈ tups, h.get? q.1 = none ∧ h'.get? q.1 = some q.2)) (RowsIn tups us (witRows (indentOf cnt b nt) (indentOf cnt' b' nt') 13))) := by
  refine' does_of (binds := [(Str.ofString "self", .ref x), (Str.ofString "other", .ref x')]) ?ho ?hcd ?hb ?hl ?c1 ?c2 ?c3 ?c4 ?c5 ?walk
  case ho => k_dflt k_is
  case hcd => k_dflt k_is
  case hb => exact fun s => BindsTo.of_eq rfl
  case hl => exact locs rfl
  case c1 => exact rfl
  case c2 => exact rfl
  case c3 => exact rfl
  case c4 => decide
  case c5 => decide
  case walk =>
    intro dp un gd cn cs a' ccd cl outer A₀ base L s g L' h' hent hpre F' N' B' X' hlt hd hu post9 hPost
    obtain ⟨X', T', c1', c2', c3'⟩ := X'
    dsimp only [wsNews, List.cons_append, List.nil_append, AllLt] at hlt
    try dsimp only
    try k_fold
    dsimp only [wsNews, List.cons_append, List.nil_append] at N' hent
    k_steps
    unfold Hold
    refine (longest_does hi (by omega) (by omega)).use B' F' N' X' T' c1' c2' c3' rfl wsFst trivial (by dsimp only; omega) (by dsimp only; omega) ?_
    rintro r1 h1 tk1 g1 ⟨t1, rfl⟩
    have F1 := g1.fr F' (fun c hc => nomatch hc)
    have N1 := g1.news N' (fun q hq h => nomatch h)
    rw [hl]
    dsimp only
    k_steps
    unfold Hold
    refine (longest_does hi' (by omega) (by omega)).use B' F1 N1 X' T' c1' c2' c3' rfl wsSnd trivial (by dsimp only; omega) (by dsimp only; omega) ?_
    rintro r2 h2 tk2 g2 ⟨t2, rfl⟩
    have F2 := g2.fr F1 (fun c hc => nomatch hc)
    have N2 := g2.news N1 (fun q hq h => nomatch h)
    rw [hl']
    dsimp only
    k_steps
    unfold Hold
    rename Fr _ _ _ _ => F8
    rename News _ _ _ _ => N8
    rename_i z0 ztk z1 A z2 lA z3
    with_unfolding_all refine For_invVF F8 rfl rfl ?_
    k_steps
    unfold Hold
    rename IsRange _ _ _ _ _ _ _ _ => hrg
    rename Fr _ _ _ _ => F9
    rename News _ _ _ _ => N9
    refine iterJ_range (n := 13) (J := fun i m news => E3 fun us e tups => A6 (news = (A, W.listOf us.toArray e) :: (wsNews w.params x dx D2 D1 u tu n nt b tn tt tb sb a1 a2 a3 a4 a5 cvs ++ (wsNews w.params x' dx' D2' D1' u' tu' n' nt' b' tn' tt' tb' sb' a1' a2' a3' a4' a5' cvs' ++ tups))) (AllNe A tups) (us.length ≤ i) (RowsIn tups us (witRows (indentOf cnt b nt) (indentOf cnt' b' nt') i)) ((∀ q ∈ tups, s.heap.get? q.1 = none)) (Knows m [(Str.ofString "a", .ref A), (Str.ofString "self", .ref x), (Str.ofString "other", .ref x')])) rfl hrg (by decide) (by decide) F9 N9 ?_ ?_ ?_
    · exact ⟨[], _, [], by simp only [List.append_nil]; rfl, trivial, Nat.le_refl _, .nil, (fun q h => nomatch h), rfl, rfl, rfl, trivial⟩
    · rintro I i ti m₁ news₁ h13 tk13 it1 hI hi1 ⟨us, e, tups, rfl, hnA, hus, hrows, hfr, hkn⟩ F13 N13 hn13 K hK Q9 hQ s1 hs1
      have F14 := Fr.knows F13 hkn
      dsimp only [at_] at F14
      rw [show (1 : Int) + (i : Int) = ((1 + i : Nat) : Int) by omega] at F14
      have lI := news_lt N9 hI
      dsimp only [AllLt] at lI
      try clear F13
      try clear F9
      try clear N9
      try clear F1
      try clear N1
      try clear F2
      try clear N2
      try clear F8
      dsimp only [wsNews, List.cons_append, List.nil_append] at N13 hn13
      k_steps
      unfold Hold
      refine (indent_does hi hc (by omega) (by omega) (by omega)).use B' F14 N13 X' T' c1' c2' c3' rfl (fun q hq => .tail _ (.tail _ (wsFst q hq))) trivial (by dsimp only; omega) (by dsimp only; omega) ?_
      rintro r1 h1 tk1 g1 ⟨t1, rfl⟩
      have F1 := g1.fr F14 (fun c hc => nomatch hc)
      have N1 := g1.news N13 (fun q hq h => nomatch h)
      dsimp only
      k_steps
      unfold Hold
      refine (indent_does hi' hc' (by omega) (by omega) (by omega)).use B' F1 N1 X' T' c1' c2' c3' rfl (fun q hq => .tail _ (.tail _ (wsSnd q hq))) trivial (by dsimp only; omega) (by dsimp only; omega) ?_
      rintro r2 h2 tk2 g2 ⟨t2, rfl⟩
      have F2 := g2.fr F1 (fun c hc => nomatch hc)
      have N2 := g2.news N1 (fun q hq h => nomatch h)
      dsimp only
      try clear F14
      try clear F1
      try clear N1
      k_steps
      · unfold Hold
        rename_i hne9
        refine (indent_does hi hc (by omega) (by omega) (by omega)).use B' F2 N2 X' T' c1' c2' c3' rfl (fun q hq => .tail _ (.tail _ (wsFst q hq))) trivial (by dsimp only; omega) (by dsimp only; omega) ?_
        rintro r3 h3 tk3 g3 ⟨t3, rfl⟩
        have F3 := g3.fr F2 (fun c hc => nomatch hc)
        have N3 := g3.news N2 (fun q hq h => nomatch h)
        dsimp only
        try clear F2
        try clear N2
        k_steps
        unfold Hold
        refine (indent_does hi' hc' (by omega) (by omega) (by omega)).use B' F3 N3 X' T' c1' c2' c3' rfl (fun q hq => .tail _ (.tail _ (wsSnd q hq))) trivial (by dsimp only; omega) (by dsimp only; omega) ?_
        rintro r4 h4 tk4 g4 ⟨t4, rfl⟩
        have F4 := g4.fr F3 (fun c hc => nomatch hc)
        have N4 := g4.news N3 (fun q hq h => nomatch h)
        dsimp only
        try clear F3
        try clear N3
        have hnAI := hn13.1
        have hsz9 : us.toArray.size ≤ sizeLine := by rw [sizeLine_eq, List.size_toArray]; omega
        k_steps
        rename_i T hT1 lT hT2 F16 N16
        rw [List.push_toArray] at N16
        refine' TurnJ.nextA hK F16 N16 (news' := _) (.tail _ (.head _)) ?_ ?_ ⟨us ++ [.ref T], e + 1, (T, tupObj [.int ((1 + i : Nat) : Int) ti, .int (indentOf cnt b nt (1 + i)) t3, .int (indentOf cnt' b' nt' (1 + i)) t4]) :: tups, rfl, ?_, ?_, ?_, ?_, rfl, rfl, rfl, trivial⟩
        · exact sub_pick [2, 3, 4, 5, 6, 7, 8, 9, 10, 0] 11 rfl
        · exact ⟨hn13.1, hn13.2.1, hn13.2.2.1, hn13.2.2.2.1, hn13.2.2.2.2.1, hn13.2.2.2.2.2.1, hn13.2.2.2.2.2.2.1, hn13.2.2.2.2.2.2.2.1, hn13.2.2.2.2.2.2.2.2.1, Nat.ne_of_gt lT.1, hn13.2.2.2.2.2.2.2.2.2⟩
        · exact ⟨Nat.ne_of_gt lT.2.1, hnA⟩
        · rw [List.length_append]
          exact Nat.add_le_add_right hus 1
        · rw [witRows_succ, witRow, if_neg hne9]
          exact (hrows.mono fun q hq => .tail _ hq).append (.cons ⟨T, _, _, _, rfl, .head _⟩ .nil)
        · intro q hq
          rcases List.mem_cons.mp hq with rfl | hq
          · exact hent.none N16 (.head _) (AllNe.at (l := [_, _, _, _, _, _, _, _]) ⟨Nat.ne_of_lt lT.2.2.1, Nat.ne_of_lt lT.2.2.2.1, Nat.ne_of_lt lT.2.2.2.2.1, Nat.ne_of_lt lT.2.2.2.2.2.1, Nat.ne_of_lt lT.2.2.2.2.2.2.1, Nat.ne_of_lt lT.2.2.2.2.2.2.2.1, Nat.ne_of_lt lT.2.2.2.2.2.2.2.2.1, Nat.ne_of_lt lT.2.2.2.2.2.2.2.2.2.1, trivial⟩)
          · exact hfr q hq
      · rename_i heq9
        refine TurnJ.nextA hK F2 N2 (.head _) (fun q hq => .tail _ hq) hn13 ⟨us, e, tups, rfl, hnA, Nat.le_succ_of_le hus, ?_, hfr, rfl, rfl, rfl, trivial⟩
        rw [witRows_succ, witRow, if_pos (by first | exact heq9 | exact Decidable.of_not_not heq9), List.append_nil]
        exact hrows
    · rintro m₁ news₁ h13 tk13 ⟨us, e, tups, rfl, hnA, hus, hrows, hfr, hkn⟩ F13 N13
      have F14 := Fr.knows0 F13 hkn
      dsimp only [at_] at F14
      dsimp only [wsNews, List.cons_append, List.nil_append] at N13
      dsimp only
      k_steps
      dsimp only [qk]
      refine Ret.ofA hPost (hent.grown F14 N13 ?_) ⟨A, us, e, tups, rfl, hent.none N13 (.head _) ?_, (N13 _ (.head _)).1, fun q hq => ⟨hfr q hq, (N13 q (.tail _ (.tail _ (.tail _ (.tail _ (.tail _ (.tail _ (.tail _ (.tail _ (.tail _ hq)))))))))).1⟩, hrows⟩
      · exact fun q hq => .inr (sub_pick0 [1, 2, 3, 4, 5, 6, 7, 8] rfl q hq)
      · exact AllNe.at (l := [_, _, _, _, _, _, _, _]) ⟨Nat.ne_of_lt lA.1, Nat.ne_of_lt lA.2.1, Nat.ne_of_lt lA.2.2.1, Nat.ne_of_lt lA.2.2.2.1, Nat.ne_of_lt lA.2.2.2.2.1, Nat.ne_of_lt lA.2.2.2.2.2.1, Nat.ne_of_lt lA.2.2.2.2.2.2.1, Nat.ne_of_lt lA.2.2.2.2.2.2.2, trivial⟩
end
end Mine
end

section
open PySem PySem.W PyProof.Rows PySem.Calls PySem.Spec
set_option maxRecDepth 100000
namespace Mine
noncomputable def pickI (ns : List Int) (a b c : Option Int) : List Int :=
  (sliceRange (sliceBounds a b c ns.length).1 (sliceBounds a b c ns.length).2.1 (sliceBounds a b c ns.length).2.2).filterMap (ns[·]?)
theorem ints_filter {vs : List Value} {ns : List Int} (hi : IntsAre vs ns) : ∀ is : List Nat, IntsAre (is.filterMap (vs[·]?)) (is.filterMap (ns[·]?))
  | [] => .nil
  | i :: is => by
    rw [List.filterMap_cons, List.filterMap_cons]
    cases e : ns[i]? with
    | none =>
      rw [show vs[i]? = none from by
        rw [List.getElem?_eq_none_iff] at e ⊢
        rw [hi.length]; exact e]
      exact ints_filter hi is
    | some n =>
      obtain ⟨t, ht⟩ := hi.get i n e
      rw [ht]
      exact .cons _ _ (ints_filter hi is)
theorem ints_pick {vs : List Value} {ns : List Int} (hi : IntsAre vs ns) (a b c : Option Int) : IntsAre (slicePick vs.toArray a b c).toList (pickI ns a b c) := by
  unfold slicePick pickI
  rw [List.size_toArray, hi.length]
  simpa using ints_filter hi _
section
variable {prog : Program} {w : World} {A : PySem.Around} {E : Value → Shared → Prop} {s : Shared} {h₀ : Heap} {L l : Addr} {m : Str → Option Value} {news : List (Addr × Obj)} {vs : List Value}
theorem sum_pick {ns : List Int} {a b c : Option Int} {Q : Value → Shared → Prop} (F : Fr h₀ L s.heap m) (N : News h₀ L s.heap news) (hh : A.handled = none) (hl : s.heap.IsList l (slicePick vs.toArray a b c)) (hi : IntsAre vs ns)
    (h : ∀ h' tk t', Fr h₀ L h' m → News h₀ L h' news → Q (.int (pickI ns a b c).sum t') { s with heap := h', toks := tk }) : wpAny (model prog w) A (call (.builtin "sum") [.ref l]) Q E s := by
  refine LSm.sum_ints F N hh (vs := (slicePick vs.toArray a b c).toList) ?_ (ints_pick hi a b c) h
  simpa using hl
end
end Mine
end

section
open PySem PySem.W PyProof.Rows PySem.Calls PySem.Spec
set_option maxRecDepth 100000
namespace Mine
/-- behind the head of a for whose target is a cell -/
noncomputable def LoopAtC (prog : Program) (w : World) (A : PySem.Around) (env : Env) (x : Str) (body : List Stmt) (Q : Flow → Shared → Prop) (E : Value → Shared → Prop) (it : Value) (s₂ : Shared) : Prop :=
  ∀ px, codeAny (model prog w) A (.forLoop (.Name x px) it body [] env) (fun r s' => match r with | .ok f => Q f s' | .error e => cameBackBy (model prog w) A env E e s') s₂
noncomputable def TurnC (h₀ : Heap) (L I : Addr) (it : Obj) (c : Addr) (oc : Obj) (Jn : (Str → Option Value) → List (Addr × Obj) → Prop) (s₁ : Shared) (Q : Flow → Shared → Prop) (f : Flow) (s₂ : Shared) : Prop :=
  match f with
  | .ret v => Q (.ret v) s₂
  | .brk => Q .next s₂
  | _ => ∃ h' tk m' news', s₂ = { s₁ with heap := h', toks := tk } ∧ Fr h₀ L h' m' ∧ News h₀ L h' ((I, it) :: (c, oc) :: news') ∧ AllNe I news' ∧ AllNe c news' ∧ Jn m' news'
theorem TurnC.next {h₀ h' : Heap} {L I c : Addr} {it oc : Obj} {Jn : (Str → Option Value) → List (Addr × Obj) → Prop} {s₁ : Shared} {Q : Flow → Shared → Prop} {tk : Nat} {m' : Str → Option Value} {news news' : List (Addr × Obj)}
    (F : Fr h₀ L h' m') (N : News h₀ L h' news) (hi : (I, it) ∈ news) (hc : (c, oc) ∈ news) (hs : ∀ p ∈ news', p ∈ news) (hn : AllNe I news') (hn2 : AllNe c news') (hJ : Jn m' news') : TurnC h₀ L I it c oc Jn s₁ Q .next { s₁ with heap := h', toks := tk } :=
  ⟨h', tk, m', news', rfl, F, fun p hp => by
    rcases List.mem_cons.mp hp with rfl | hp
    · exact N _ hi
    · rcases List.mem_cons.mp hp with rfl | hp
      · exact N _ hc
      · exact N _ (hs p hp), hn, hn2, hJ⟩
theorem TurnC.nextA {h₀ h' : Heap} {L I c : Addr} {it oc : Obj} {Jn K : (Str → Option Value) → List (Addr × Obj) → Prop} {s₁ : Shared} {Q : Flow → Shared → Prop} {tk : Nat} {m' : Str → Option Value} {news news' : List (Addr × Obj)} (hK : ∀ m n, Jn m n → K m n)
    (F : Fr h₀ L h' m') (N : News h₀ L h' news) (hi : (I, it) ∈ news) (hc : (c, oc) ∈ news) (hs : ∀ p ∈ news', p ∈ news) (hn : AllNe I news') (hn2 : AllNe c news') (hJ : Jn m' news') : TurnC h₀ L I it c oc K s₁ Q .next { s₁ with heap := h', toks := tk } :=
  TurnC.next F N hi hc hs hn hn2 (hK _ _ hJ)
noncomputable abbrev rgObj (a b : Int) : Obj := { cls := .type "range_iterator", dict := none, data := .fields #[rawInt a, rawInt b, rawInt 1], slots := #[] }
/-- where a loop over a cell stands -/
inductive CSt (h₀ : Heap) (L I c : Addr) (a₀ : Int) (n : Nat) (J : Nat → (Str → Option Value) → List (Addr × Obj) → Prop) (s : Shared) : Nat → Shared → Prop
  | mk {h' : Heap} {tk : Nat} {m' : Str → Option Value} {news' : List (Addr × Obj)} {oc' : Obj} {v' : Option Value} {i : Nat} (st : IsRangeIter h' I (a₀ + (i : Nat) * 1) ((n : Int) - (i : Nat)) 1) (ho : oc'.data = .cell v') (F : Fr h₀ L h' m') (N : News h₀ L h' ((c, oc') :: news'))
      (hn : AllNe I news') (hn2 : AllNe c news') (hJ : J i m' news') (hi : i ≤ n) : CSt h₀ L I c a₀ n J s (n + 1 - i) { s with heap := h', toks := tk }
theorem CSt.fin {h₀ h₂ : Heap} {L I c : Addr} {a₀ : Int} {n i tk₁ : Nat} {J : Nat → (Str → Option Value) → List (Addr × Obj) → Prop} {s s₃ : Shared} {Q : Flow → Shared → Prop} {oc₁ : Obj} {v : Option Value} (hlt : i < n) (hd : oc₁.data = .cell v)
    (z : TurnC h₀ L I (rgObj (a₀ + ((i + 1 : Nat) : Int) * 1) ((n : Int) - ((i + 1 : Nat) : Int))) c oc₁ (J (i + 1)) { s with heap := h₂, toks := tk₁ } Q .next s₃) : ∃ mm, mm < n + 1 - i ∧ CSt h₀ L I c a₀ n J s mm s₃ := by
  obtain ⟨h₃', tk₃, m₃, news₃, rfl, F₃, N₃, ha₃, hb₃, hJ₃⟩ := z
  exact ⟨n + 1 - (i + 1), by omega, .mk (N₃ _ (.head _)).1 hd F₃ (fun p hp => N₃ p (.tail _ hp)) ha₃ hb₃ hJ₃ hlt⟩
theorem next_keep {h₀ h' h₁ : Heap} {L I c : Addr} {m' : Str → Option Value} {oc' : Obj} {news' : List (Addr × Obj)} (hIL : L ≠ I) (hIn : h₀.get? I = none) (hcI : c ≠ I) (hn1 : AllNe I news') (F' : Fr h₀ L h' m') (N' : News h₀ L h' ((c, oc') :: news')) (hk₁ : ∀ b o, b ∉ [I] → h'.get? b = some o → h₁.get? b = some o) : Fr h₀ L h₁ m' ∧ News h₀ L h₁ ((c, oc') :: news') :=
  ⟨⟨F'.ns.at' fun o e => hk₁ _ o (fun hm => hIL (List.mem_singleton.mp hm)) e, fun b o e => hk₁ b o (fun hm => by rw [List.mem_singleton.mp hm, hIn] at e; cases e) (F'.keep b o e), F'.above⟩, fun p hp => ⟨hk₁ _ _ (fun hm => by
    rcases List.mem_cons.mp hp with rfl | hp
    · exact hcI (List.mem_singleton.mp hm)
    · exact hn1.at p hp (List.mem_singleton.mp hm)) (N' p hp).1, (N' p hp).2⟩⟩
theorem cell_keep {h₀ h₁ h₂ : Heap} {L I c : Addr} {m' : Str → Option Value} {oc' oc₁ it : Obj} {news' : List (Addr × Obj)} (hIL : L ≠ I) (hIn : h₀.get? I = none) (hcI : c ≠ I) (hcL : @Ne Nat c L ∧ h₀.get? c = none) (hn2 : AllNe c news') (F₁ : Fr h₀ L h₁ m') (N₁ : News h₀ L h₁ ((c, oc') :: news')) (hst₁ : h₁.get? I = some it)
    (hs₂ : Heap.SameBut c h₁ h₂) (ho₁ : h₂.get? c = some oc₁) : Fr h₀ L h₂ m' ∧ News h₀ L h₂ ((I, it) :: (c, oc₁) :: news') :=
  ⟨⟨F₁.ns.sameBut hs₂ (Ne.symm hcL.1), fun b ob e => (hs₂.2 b (fun q => by rw [q, hcL.2] at e; cases e)).trans (F₁.keep b ob e), F₁.above⟩, fun p hp => by
    rcases List.mem_cons.mp hp with rfl | hp
    · exact ⟨(hs₂.2 I (fun q => hcI q.symm)).trans hst₁, Ne.symm hIL, hIn⟩
    · rcases List.mem_cons.mp hp with rfl | hp
      · exact ⟨ho₁, hcL⟩
      · exact ⟨(hs₂.2 p.1 (hn2.at p hp)).trans (N₁ p (.tail _ hp)).1, (N₁ p (.tail _ hp)).2⟩⟩
section
variable {prog : Program} {w : World} {A : PySem.Around} {E : Value → Shared → Prop} {s : Shared} {env : Env} {h₀ : Heap} {x : Str} {body : List Stmt} {Q : Flow → Shared → Prop}
theorem For_cell {px pos : Pos} {iter : Expr} (h : wpAny (model prog w) A (eval iter env) (fun xv s₁ => wpAny (model prog w) A (pyIter xv) (fun it s₂ => LoopAtC prog w A env x body Q E it s₂) E s₁) E s)
    (hs : ∀ x, foldedSetIterable iter env x = pure x := by intro _; rfl) :
    wpAny (model prog w) A (exec (.For (.Name x px) iter body [] pos) env) Q E s :=
  wpAny_For (wpAny_mono h (fun xv s₁ h₁ => wpAny_mono h₁ (fun it s₂ h₂ => h₂ px) fun _ _ e => e) fun _ _ e => e) hs
/-- over a range by ones -/
theorem iterC_range {r c : Addr} {oc : Obj} {cv : Option Value} {a₀ b₀ : Int} {t₀ u₀ v₀ : Tok} {n : Nat} {m₀ : Str → Option Value} {news : List (Addr × Obj)} (J : Nat → (Str → Option Value) → List (Addr × Obj) → Prop)
    (hh : A.handled = none) (hx : env.kindOf x = some .cell) (hk : env.scope.kind = .function) (hc : env.cells.lookup x = some c) (hE : PassesOwn (model prog w) A env E)
    (hr : IsRange s.heap r a₀ b₀ 1 t₀ u₀ v₀) (hsmall : Builtin.Range.small a₀ b₀ 1 = true) (hn : Builtin.Range.rangeSize a₀ b₀ 1 = (n : Int)) (F : Fr h₀ env.locals s.heap m₀) (N : News h₀ env.locals s.heap ((c, oc) :: news)) (hoc : oc.data = .cell cv) (hnc : AllNe c news) (h0 : J 0 m₀ news)
    (turn : ∀ I i t m₁ news₁ h tk it oc₁, s.heap.objs.size ≤ I → i < n → J i m₁ news₁ → oc₁.data = .cell (some (.int (a₀ + (i : Int)) t)) → Fr h₀ env.locals h m₁ → News h₀ env.locals h ((I, it) :: (c, oc₁) :: news₁) → AllNe I news₁ → @Ne Nat c I → AllNe c news₁ → ∀ K : (Str → Option Value) → List (Addr × Obj) → Prop, (∀ m n, J (i + 1) m n → K m n) → ∀ Q9 : Flow → Shared → Prop, (∀ f s', Q f s' → Q9 f s') → ∀ s1 : Shared, s1 = s →
      wpAny (model prog w) A (execs body env) (TurnC h₀ env.locals I it c oc₁ K s1 Q9) E { s1 with heap := h, toks := tk })
    (done : ∀ m₁ news₁ h tk oc₁, J n m₁ news₁ → (∃ v, oc₁.data = .cell v) → Fr h₀ env.locals h m₁ → News h₀ env.locals h ((c, oc₁) :: news₁) → AllNe c news₁ → Q .next { s with heap := h, toks := tk }) :
    wpAny (model prog w) A (pyIter (.ref r)) (fun it s₂ => LoopAtC prog w A env x body Q E it s₂) E s := by
  refine wpAny_pyIter_range hr hsmall ?_
  intro px
  generalize hI : s.heap.objs.size = I
  have W := Walks.range (prog := prog) (w := w) hh I a₀ 1 n
  have hIL : env.locals ≠ I := fun e => absurd F.ns.lt (by rw [e, hI]; exact Nat.lt_irrefl _)
  have hIn : h₀.get? I = none := hI ▸ (fresh_of F (Nat.le_refl _)).1
  have hcI : c ≠ I := fun e => absurd (Heap.lt_size (N _ (.head _)).1) (by rw [show c = I from e, hI]; exact Nat.lt_irrefl _)
  have hnI : AllNe I news := AllNe.of fun p hp e => absurd (Heap.lt_size (N p (.tail _ hp)).1) (by rw [e, hI]; exact Nat.lt_irrefl _)
  have hcL := (N _ (.head _)).2
  refine codeAny_forLoop (CSt h₀ env.locals I c a₀ n J s) ?_ (n + 1)
    (.mk (i := 0) ?_ hoc (F.push _) (fun p hp => ⟨Heap.get?_push_of_some _ (N p hp).1, (N p hp).2⟩) hnI hnc h0 (Nat.zero_le _))
  · rintro k s' ⟨hst', hoc', F', N', hn1, hn2, hJ, hi⟩
    rename_i h' tk m' news' oc' v' i
    by_cases hlt : i < n
    · refine W.item i _ _ _ hlt hst' fun v h₁ tk₁ hP hst₁ hk₁ => ?_
      obtain ⟨t, rfl⟩ := hP
      have n1 := next_keep hIL hIn hcI hn1 F' N' hk₁
      refine wpAny_assign_Name (wpAny_storeName_cell hk hx hc ⟨oc', (n1.2 _ (.head _)).1, hoc'⟩ fun h₂ hv₂ hs₂ => ?_)
      obtain ⟨oc₁, ho₁, hd₁⟩ := hv₂
      have n2 := cell_keep hIL hIn hcI hcL hn2 n1.1 n1.2 hst₁ hs₂ ho₁
      rw [Int.mul_one] at hd₁
      refine wpAny_passesOwn hE (wpAny_mono (turn I i t m' news' h₂ _ _ oc₁ (Nat.le_of_eq hI) hlt hJ hd₁ n2.1 n2.2 hn1 hcI hn2 (J (i + 1)) (fun _ _ z => z) Q (fun _ _ z => z) s rfl) (fun f s₃ h₃ => ?_) fun _ _ e => e)
      cases f with
      | ret v => exact h₃
      | brk => exact h₃
      | next => exact CSt.fin hlt hd₁ h₃
      | cont => exact CSt.fin (Q := Q) hlt hd₁ h₃
    · obtain rfl : i = n := Nat.le_antisymm hi (Nat.not_lt.mp hlt)
      refine W.done _ _ _ hst' fun h₁ tk₁ hk₁ => wpAny_execs_nil ?_
      have n1 := next_keep hIL hIn hcI hn1 F' N' hk₁
      exact done m' news' h₁ tk₁ oc' hJ ⟨_, hoc'⟩ n1.1 n1.2 hn2
  · show IsRangeIter _ _ _ _ _
    rw [hn, ← hI]
    simpa using Heap.get?_push_size _ rfl
end
end Mine
end

section
open PySem PySem.W PyProof.Rows PySem.Calls PySem.Spec
set_option maxRecDepth 100000
set_option maxHeartbeats 2000000
namespace Mine
theorem under_tc (dp un : Nat) (gd : Option (List Code)) (cn : Str) (cs : Scope) (L a : Addr) (ccd : Value) (cl : List (Str × Addr)) (outer : List Env) (C : Addr) (pos : List Value) (kw : List (Str × Value)) :
    ∃ j, j ≤ 10 ∧ (ktrTop dp un gd cn cs L a ccd cl outer).under (.builtin "type.__call__" ⟨.ref C :: pos, kw⟩) = ktrTop (dp + 1) (un + j) gd cn cs L a ccd cl outer := by
  have h1 : (Code.builtin "type.__call__" ⟨.ref C :: pos, kw⟩).weight = 1 := by rfl
  have h2 : (Code.builtin "type.__call__" ⟨.ref C :: pos, kw⟩).envs = [] := by rfl
  have h3 : (Code.builtin "type.__call__" ⟨.ref C :: pos, kw⟩).guards = [] := by rfl
  refine ⟨(Code.builtin "type.__call__" ⟨.ref C :: pos, kw⟩).cUnits, ?_, ?_⟩
  · have h4 : (Code.builtin "type.__call__" ⟨.ref C :: pos, kw⟩).cUnits = 1 := by rfl
    rw [h4]; decide
  · unfold Around.under
    rw [h1, h2, h3]
    cases gd <;> rfl
section
variable {prog : Program} {w : World} {p : Program} {loose : List Str} {mean : ExcName → Option Value} {mg mb : Str → Option Value}
theorem fillK_C6 : PySem.Challenge.rw_ph0163_01 = PySem.Challenge.rw_ph0163_01 ∧ Mine.KF = Mine.KF := by
  w_top off
  (try (walk1; fail))
  k_fill
  exact ⟨rfl, rfl⟩
theorem ws_makes : makesIn (Mine.KF w.params) 132 = true := by k_is
theorem ws_finds : findIn (Mine.KF w.params) (.ref 132) "__init__" = some (some (.ref 87)) := by k_is
theorem ws_isFn : isFn (Mine.KF w.params) (.ref 87) = true := by k_is
/-- Whitespace(text), as the law calls it -/
theorem ws_call {u : Str} {tu : Tok} {pre : List Nat} (hcps : u.cps.toList = pre ++ [120]) (hpc : ∀ c ∈ pre, c = 32 ∨ c = 9) (hpl : pre.length ≤ 1000)
    {dp un : Nat} {gd : Option (List Code)} {cn : Str} {cs : Scope} {a : Addr} {ccd : Value} {cl : List (Str × Addr)} {outer : List Env} {A₀ : PySem.Around} {base g : Heap} {L : Addr} {m : Str → Option Value} {s : Shared} {news : List (Addr × Obj)}
    {Q E : Value → Shared → Prop} (B : Below A₀ base outer g) (F : Fr g L s.heap m) (N : News g L s.heap news) (X : (Mine.KF w.params).In g) (T : Top p loose mean mg mb g) (c1 : CodeHd g 55 51) (c2 : CodeHd g 48 44) (c3 : CodeHd g 159 157)
    (hke : cs.kind = .function) (hd : dp + 20 < recursionLimit) (hu : un + 200 < cLine)
    (ret : ∀ x dx D2 D1 tn tt tb a1 a2 a3 a4 a5 cvs h' tk', Fr g L h' m → IntsAre cvs (wsRun pre).cnt →
      News g L h' (wsNews w.params x dx D2 D1 u tu (wsRun pre).n (wsRun pre).nt (wsRun pre).b tn tt tb (decide (((wsRun pre).cnt.length : Int) ≤ 1)) a1 a2 a3 a4 a5 cvs ++ news) →
      AllNe x news → AllNe dx news → AllNe D2 news → AllNe D1 news → Q (.ref x) { s with heap := h', toks := tk' }) :
    wpAny (model prog w) (ktrTop dp un gd cn cs L a ccd cl outer) (call (.ref 132) [.str u tu]) Q E s := by
  refine call_cls F X N ws_makes ws_finds ws_isFn ?_
  intro x dx h1 F1 N1 l1 l2
  obtain ⟨j, hj, e⟩ := under_tc dp un gd cn cs L a ccd cl outer 132 [.str u tu] []
  rw [e]
  refine ws_init_does hcps hpc hpl _ _ gd cn cs a ccd cl outer A₀ base g L m { s with heap := h1 } _ B F1 ⟨X, T, c1, c2, c3⟩ hke (fun q hq => N1 q (by
    simp only [List.mem_cons, List.not_mem_nil, or_false] at hq
    rcases hq with rfl | rfl
    · exact .head _
    · exact .tail _ (.head _))) trivial (by omega) (by omega) ?_
  rintro r h' tk' hg ⟨rfl, tn, tt, a1, a2, a3, a4, a5, D1, D2, cvs, tb, e1, n2, e2, n1, e3, hi⟩
  refine ⟨rfl, ?_⟩
  dsimp only at hg e1 n2 n1
  have hdx : g.get? dx = none ∧ dx ≠ L := ⟨(N1 (dx, dictOf [] 0) (.tail _ (.head _))).2.2, (N1 (dx, dictOf [] 0) (.tail _ (.head _))).2.1⟩
  have F' := hg.fr F1 (fun c hc => by rw [List.mem_singleton.mp hc]; exact hdx)
  have hnd : AllNe dx news := AllNe.of fun p hp => Nat.ne_of_lt (l1 p hp)
  have hxd : x ≠ dx := Nat.ne_of_gt l2
  have Nn : News g L h' news := fun q hq => ⟨hg _ _ (fun hm => hnd.at q hq (List.mem_singleton.mp hm)) (N1 q (.tail _ (.tail _ hq))).1, (N1 q (.tail _ (.tail _ hq))).2⟩
  have Nx : News g L h' ((x, instObj 132 dx) :: (dx, _) :: news) := fun q hq => by
    rcases List.mem_cons.mp hq with rfl | hq
    · exact ⟨hg _ _ (fun hm => hxd (List.mem_singleton.mp hm)) (N1 _ (.head _)).1, (N1 (x, instObj 132 dx) (.head _)).2⟩
    · rcases List.mem_cons.mp hq with rfl | hq
      · exact ⟨e1, hdx.2, hdx.1⟩
      · exact Nn q hq
  refine ret x dx D2 D1 tn tt tb a1 a2 a3 a4 a5 cvs h' tk' F' hi ?_ (AllNe.of fun p hp => Nat.ne_of_lt (Nat.lt_trans (l1 p hp) l2)) hnd ?_ ?_
  · intro q hq
    simp only [wsNews, List.cons_append, List.nil_append, List.mem_cons] at hq
    rcases hq with rfl | rfl | rfl | rfl | hq
    · exact Nx _ (.head _)
    · exact Nx _ (.tail _ (.head _))
    · exact ⟨e2, (fresh_none F1 n2).2, (fresh_none F1 n2).1⟩
    · exact ⟨e3, (fresh_none F1 n1).2, (fresh_none F1 n1).1⟩
    · exact Nn q hq
  · exact AllNe.of fun q hq e => by
      have := (N1 q (.tail _ (.tail _ hq))).1
      rw [e, n2] at this; cases this
  · exact AllNe.of fun q hq e => by
      have := (N1 q (.tail _ (.tail _ hq))).1
      rw [e, n1] at this; cases this
end
end Mine
end

section
open PySem PySem.W PyProof.Rows PySem.Calls PySem.Spec
namespace Mine
/-- the blanks and tabs of a lead -/
noncomputable def rowText (ds : List Nat) : List Nat := ds.flatMap fun d => List.replicate d 32 ++ [9]
theorem rowText_cons (d : Nat) (r : List Nat) : rowText (d :: r) = List.replicate d 32 ++ [9] ++ rowText r := by
  unfold rowText; rw [List.flatMap_cons]
theorem rowText_len : ∀ ds : List Nat, (∀ d ∈ ds, d ≤ 12) → (rowText ds).length ≤ 13 * ds.length
  | [], _ => Nat.le_refl _
  | d :: r, h => by
    have h1 := h d (.head _)
    have h2 := rowText_len r fun x hx => h x (.tail _ hx)
    rw [rowText_cons]
    simp only [List.length_append, List.length_replicate, List.length_cons, List.length_nil] at *
    omega
theorem rowText_signs (ds : List Nat) : ∀ c ∈ rowText ds, c = 32 ∨ c = 9 := by
  intro c hc
  obtain ⟨d, _, hc⟩ := List.mem_flatMap.mp hc
  rcases List.mem_append.mp hc with hc | hc
  · exact .inl (List.eq_of_mem_replicate hc)
  · exact .inr (List.mem_singleton.mp hc)
theorem piece_list (n : Int) : (Txt.mul (Str.ofString " ") n ++ Str.ofString "\t").cps.toList = List.replicate n.toNat 32 ++ [9] := by
  show ((Txt.mul (Str.ofString " ") n).cps ++ (Str.ofString "\t").cps).toList = _
  rw [Array.toList_append, show Str.ofString " " = ⟨#[32]⟩ from by decide +kernel, mul_one_list, show (Str.ofString "\t").cps = #[9] from by decide +kernel]
theorem join_list (g : Int → Str) (d : Int → Nat) (h : ∀ k, (g k).cps.toList = List.replicate (d k) 32 ++ [9]) : ∀ l : List Int, (Txt.join (Str.ofString "") (l.map g)).cps.toList = rowText (l.map d)
  | [] => rfl
  | k :: r => by
    have ih := join_list g d h r
    have e : ∀ z : List Str, Txt.join (Str.ofString "") z = Str.join ⟨#[]⟩ z := fun z => by
      show Builtin.Str.glued (Str.ofString "") z = _
      rw [StrLaws.glued_eq_join]
      rfl
    rw [e] at ih ⊢
    rw [List.map_cons, List.map_cons, join_nil_cons, rowText_cons]
    show ((g k).cps ++ (Str.join ⟨#[]⟩ (r.map g)).cps).toList = _
    rw [Array.toList_append, ih, h k]
theorem lead_list {J gap : Str} {ds : List Nat} {b : Nat} (hJ : J.cps.toList = rowText ds) (hg : gap.cps.toList = List.replicate b 32) : (J ++ gap ++ Str.ofString "x").cps.toList = (rowText ds ++ List.replicate b 32) ++ [120] := by
  show ((J.cps ++ gap.cps) ++ (Str.ofString "x").cps).toList = _
  rw [Array.toList_append, Array.toList_append, hJ, hg, show (Str.ofString "x").cps = #[120] from by decide +kernel]
theorem run_blanks (d : Nat) : ∀ st : WS, (List.replicate d 32).foldl wsStep st = ⟨st.n + d, st.b + d, st.nt, st.cnt⟩ := by
  induction d with
  | zero => intro st; rfl
  | succ d ih =>
    intro st
    rw [List.replicate_succ, List.foldl_cons, ih]
    show WS.mk (st.n + 1 + d) (st.b + 1 + d) st.nt st.cnt = _
    rw [show st.n + 1 + d = st.n + (d + 1) by omega, show st.b + 1 + d = st.b + (d + 1) by omega]
theorem run_text : ∀ (ds : List Nat) (n nt : Nat) (cnt : List Int), (rowText ds).foldl wsStep ⟨n, 0, nt, cnt⟩ = ⟨n + (rowText ds).length, 0, nt + ds.length, ds.foldl bump cnt⟩
  | [], _, _, _ => rfl
  | d :: r, n, nt, cnt => by
    rw [rowText_cons, List.foldl_append, List.foldl_append, run_blanks]
    show (rowText r).foldl wsStep ⟨n + d + 1, 0, nt + 1, bump cnt (0 + d)⟩ = _
    rw [run_text r, Nat.zero_add]
    simp only [List.length_append, List.length_replicate, List.length_cons, List.length_nil, List.foldl_cons]
    rw [show n + d + 1 + (rowText r).length = n + (d + (0 + 1) + (rowText r).length) by omega, show nt + 1 + r.length = nt + (r.length + 1) by omega]
theorem ws_text (ds : List Nat) (b : Nat) : wsRun (rowText ds ++ List.replicate b 32) = ⟨(rowText ds).length + b, b, ds.length, ds.foldl bump []⟩ := by
  unfold wsRun
  rw [List.foldl_append, run_text, run_blanks]
  simp only [Nat.zero_add]
theorem fold_len : ∀ (ds : List Nat) (cnt : List Int), (∀ d ∈ ds, d + 1 ≤ cnt.length) → (ds.foldl bump cnt).length = cnt.length
  | [], _, _ => rfl
  | d :: r, cnt, h => by
    have h1 := h d (.head _)
    have e : (bump cnt d).length = cnt.length := by rw [bump_len]; omega
    rw [List.foldl_cons, fold_len r (bump cnt d) (fun x hx => by rw [e]; exact h x (.tail _ hx)), e]
theorem bump_bound {cnt : List Int} {K : Int} (hK : 0 ≤ K) (h : ∀ y ∈ cnt, 0 ≤ y ∧ y ≤ K) (b : Nat) : ∀ y ∈ bump cnt b, 0 ≤ y ∧ y ≤ K + 1 := by
  intro y hy
  have h2 : ∀ y ∈ cnt ++ List.replicate (b + 1 - cnt.length) 0, 0 ≤ y ∧ y ≤ K := fun y hy => by
    rcases List.mem_append.mp hy with hy | hy
    · exact h y hy
    · rw [List.eq_of_mem_replicate hy]; exact ⟨Int.le_refl _, hK⟩
  have h3 : 0 ≤ (cnt ++ List.replicate (b + 1 - cnt.length) 0).getD b 0 ∧ (cnt ++ List.replicate (b + 1 - cnt.length) 0).getD b 0 ≤ K := by
    apply h2
    apply getD_memI
    rw [List.length_append, List.length_replicate]
    omega
  unfold bump at hy
  rcases List.mem_or_eq_of_mem_set hy with hy | hy
  · have := h2 y hy; omega
  · omega
theorem fold_bound : ∀ (ds : List Nat) (cnt : List Int) (K : Int), 0 ≤ K → (∀ y ∈ cnt, 0 ≤ y ∧ y ≤ K) → ∀ y ∈ ds.foldl bump cnt, 0 ≤ y ∧ y ≤ K + ds.length
  | [], _, _, _, h => by simpa using h
  | d :: r, cnt, K, hK, h => by
    intro y hy
    have := fold_bound r (bump cnt d) (K + 1) (by omega) (bump_bound hK h d) y hy
    rw [List.length_cons]
    omega
/-- a weighted sum -/
noncomputable def wsum : List Int → (Nat → Int) → Int
  | [], _ => 0
  | c :: r, f => f 0 * c + wsum r (fun i => f (i + 1))
theorem wsum_set : ∀ (l : List Int) (f : Nat → Int) (b : Nat) (v : Int), b < l.length → wsum (l.set b v) f = wsum l f + f b * (v - l.getD b 0)
  | c :: r, f, 0, v, _ => by
    show f 0 * v + _ = f 0 * c + _ + f 0 * (v - c)
    rw [Int.mul_sub]; omega
  | c :: r, f, b + 1, v, h => by
    have ih := wsum_set r (fun i => f (i + 1)) b v (by rw [List.length_cons] at h; omega)
    show f 0 * c + wsum (r.set b v) _ = f 0 * c + wsum r _ + f (b + 1) * (v - r.getD b 0)
    rw [ih]; omega
theorem wsum_zeros (n : Nat) : ∀ f : Nat → Int, wsum (List.replicate n 0) f = 0 := by
  induction n with
  | zero => intro f; rfl
  | succ n ih => intro f; rw [List.replicate_succ]; show f 0 * 0 + _ = 0; rw [ih]; simp
theorem wsum_app (n : Nat) : ∀ (l : List Int) (f : Nat → Int), wsum (l ++ List.replicate n 0) f = wsum l f
  | [], f => wsum_zeros n f
  | c :: r, f => by
    have ih := wsum_app n r (fun i => f (i + 1))
    show f 0 * c + wsum (r ++ List.replicate n 0) _ = f 0 * c + wsum r _
    rw [ih]
theorem wsum_bump (cnt : List Int) (b : Nat) (f : Nat → Int) : wsum (bump cnt b) f = wsum cnt f + f b := by
  unfold bump
  rw [wsum_set _ _ _ _ (by rw [List.length_append, List.length_replicate]; omega), wsum_app]
  generalize (cnt ++ List.replicate (b + 1 - cnt.length) 0).getD b 0 = z
  rw [show z + 1 - z = 1 by omega, Int.mul_one]
theorem wsum_fold : ∀ (ds : List Nat) (cnt : List Int) (f : Nat → Int), wsum (ds.foldl bump cnt) f = wsum cnt f + (ds.map f).sum
  | [], _, _ => by simp
  | d :: r, cnt, f => by
    rw [List.foldl_cons, wsum_fold r, wsum_bump, List.map_cons, List.sum_cons]
    omega
theorem foldl_add (h : Nat → Int) : ∀ (l : List Nat) (z : Int), l.foldl (fun il k => il + h k) z = z + (l.map h).sum
  | [], z => by simp
  | k :: r, z => by rw [List.foldl_cons, foldl_add h r, List.map_cons, List.sum_cons]; omega
theorem wsum_range : ∀ (l : List Int) (h : Nat → Int), wsum l h = ((List.range l.length).map fun k => h k * l.getD k 0).sum
  | [], _ => rfl
  | c :: r, h => by
    rw [List.length_cons, List.range_succ_eq_map, List.map_cons, List.sum_cons, List.map_map]
    show h 0 * c + wsum r _ = h 0 * c + _
    rw [wsum_range r]
    rfl
theorem wsum_drop (ts : Nat) : ∀ (l : List Int) (f : Nat → Int), (∀ i, i < ts → f i = 0) → wsum l f = wsum (l.drop ts) (fun i => f (ts + i)) := by
  induction ts with
  | zero => intro l f _; rw [List.drop_zero]; congr 1; funext i; rw [Nat.zero_add]
  | succ ts ih =>
    intro l f h
    cases l with
    | nil => rfl
    | cons c r =>
      rw [List.drop_succ_cons]
      show f 0 * c + wsum r _ = _
      rw [h 0 (by omega), Int.zero_mul, Int.zero_add, ih r (fun i => f (i + 1)) (fun i hi => h (i + 1) (by omega))]
      congr 1; funext i
      rw [show ts + i + 1 = ts + 1 + i by omega]
theorem indent_sum (cnt : List Int) (b nt ts : Nat) : indentOf cnt b nt ts = (b : Int) + (ts : Int) * (wsum cnt (fun i => ((i / ts : Nat) : Int)) + nt) := by
  unfold indentOf
  rw [foldl_add (fun k => (((ts + k) / ts : Nat) : Int) * cnt.getD (ts + k) 0), Int.zero_add]
  rw [wsum_drop ts cnt (fun i => ((i / ts : Nat) : Int)) (fun i hi => by rw [Nat.div_eq_of_lt hi]; rfl), wsum_range, List.length_drop]
  congr 4
  apply List.map_congr_left
  intro k _
  rw [List.getD_eq_getElem?_getD, List.getD_eq_getElem?_getD, List.getElem?_drop]
/-- where a lead's numbers put its end, at a tab's size -/
noncomputable def endOf (b : Nat) (ds : List Nat) (ts : Nat) : Int := (b : Int) + (ts : Int) * ((ds.map fun d => d / ts + 1).sum : Nat)
theorem sum_cast (f : Nat → Nat) : ∀ l : List Nat, (l.map fun d => ((f d : Nat) : Int)).sum + l.length = ((l.map fun d => f d + 1).sum : Nat)
  | [] => rfl
  | d :: r => by
    have ih := sum_cast f r
    simp only [List.map_cons, List.sum_cons, List.length_cons] at *
    omega
theorem indent_text (ds : List Nat) (b ts : Nat) : indentOf (ds.foldl bump []) b ds.length ts = endOf b ds ts := by
  rw [indent_sum, wsum_fold]
  show _ + _ * (0 + _ + _) = _
  unfold endOf
  rw [Int.zero_add, sum_cast]
end Mine
end

section
open PySem PySem.W PyProof.Rows PySem.Calls PySem.Spec
set_option maxRecDepth 100000
namespace Mine
/-- what the head says of law's own code -/
noncomputable def LawFn (w : World) (body : List Stmt) (scope : Scope) (cdv : Value) : Prop :=
  ∃ (oc : Value) (od : Option Addr) (osl : Array (Option Value)) (name : Str) (params : Arguments) (dV kV doc pm : Value) (an : Option Addr) (ct : Value),
    (Mine.KF w.params).lookup 160 = some ⟨oc, od, .func (fnOf name (Str.ofString "law") params body scope dV kV doc pm an cdv ct), osl⟩
theorem law_open {w : World} {P : List Stmt → Scope → Value → Prop} {body body' : List Stmt} {scope scope' : Scope} {cdv cdv' : Value} (f : LawFn w body scope cdv)
    {oc : Value} {od : Option Addr} {osl : Array (Option Value)} {name qual : Str} {params : Arguments} {dV kV doc pm : Value} {an : Option Addr} {ct : Value}
    (ho : (Mine.KF w.params).lookup 160 = some ⟨oc, od, .func (fnOf name qual params body' scope' dV kV doc pm an cdv' ct), osl⟩) (h : P body' scope' cdv') : P body scope cdv := by
  obtain ⟨oc2, od2, osl2, name2, params2, dV2, kV2, doc2, pm2, an2, ct2, h2⟩ := f
  rw [ho] at h2
  simp only [Option.some.injEq, Obj.mk.injEq, Data.func.injEq, fnOf] at h2
  simp only [FuncData.mk.injEq] at h2
  obtain ⟨_, _, ⟨_, _, _, hb, hs, _, _, _, _, _, _, _, hc, _, _⟩, _⟩ := h2
  have hb' : body' = body := by injection hb
  subst hb' hs hc
  exact h
noncomputable abbrev lawTop (dp un : Nat) (gd : Option (List Code)) (outer : List Env) : Around := { handled := none, depth := dp, frames := some outer, guards := gd, units := un }
noncomputable def RowOk (row : List Int) : Prop := 2 ≤ row.length ∧ row.length ≤ 4 ∧ row.head? = some 12 ∧ ∀ x ∈ row, 1 ≤ x.natAbs ∧ x.natAbs ≤ 12
end Mine
end

section
open PySem PySem.W PyProof.Rows PySem.Calls PySem.Spec
namespace Mine
/-- the sizes of the row's numbers -/
noncomputable abbrev sizesOf (row : List Int) : List Nat := row.map Int.natAbs
/-- how many of the numbers a size divides -/
noncomputable def cntD (ms : List Nat) (t : Nat) : Nat := (ms.filter fun m => m % t == 0).length
theorem div_pred (m t : Nat) (hm : 1 ≤ m) (ht : 1 ≤ t) : m / t + 1 = ((m - 1) / t + 1) + (if m % t == 0 then 1 else 0) := by
  have h := Nat.succ_div (a := m - 1) (b := t)
  rw [show m - 1 + 1 = m by omega] at h
  by_cases hd : t ∣ m
  · rw [if_pos hd] at h
    rw [if_pos (by rw [Nat.mod_eq_zero_of_dvd hd]; rfl)]
    omega
  · rw [if_neg hd] at h
    rw [if_neg (by intro e; exact hd (Nat.dvd_of_mod_eq_zero (beq_iff_eq.mp e)))]
    omega
theorem sum_pred (t : Nat) (ht : 1 ≤ t) : ∀ ms : List Nat, (∀ m ∈ ms, 1 ≤ m) → (ms.map fun d => d / t + 1).sum = ((ms.map (· - 1)).map fun d => d / t + 1).sum + cntD ms t
  | [], _ => rfl
  | m :: r, h => by
    have ih := sum_pred t ht r fun x hx => h x (.tail _ hx)
    have h1 := div_pred m t (h m (.head _)) ht
    unfold cntD at *
    simp only [List.map_cons, List.sum_cons, List.filter_cons]
    by_cases hd : (m % t == 0) = true
    · rw [if_pos hd] at h1 ⊢
      rw [List.length_cons]
      omega
    · rw [if_neg hd] at h1 ⊢
      omega
theorem endOf_pred (b : Nat) (ms : List Nat) (t : Nat) (h : ∀ m ∈ ms, 1 ≤ m) (ht : 1 ≤ t) : endOf b ms t = endOf b (ms.map (· - 1)) t + (t : Int) * (cntD ms t : Nat) := by
  unfold endOf
  rw [sum_pred t ht ms h, Int.natCast_add, Int.mul_add]
  omega
/-- what is due of a tab's size -/
noncomputable def dueRow (b : Nat) (ms : List Nat) (t : Nat) : Nat × Int × Int := (t, endOf b (ms.map (· - 1)) t, endOf b (ms.map (· - 1)) t + (t : Int) * (cntD ms t : Nat))
noncomputable def dueRows (b : Nat) (ms : List Nat) (n : Nat) : List (Nat × Int × Int) := (List.range n).map fun i => dueRow b ms (1 + i)
theorem dueRows_succ (b : Nat) (ms : List Nat) (n : Nat) : dueRows b ms (n + 1) = dueRows b ms n ++ [dueRow b ms (1 + n)] := by
  unfold dueRows
  rw [List.range_succ, List.map_append]
  rfl
noncomputable def partsD (d : Nat × Int × Int) : Bool := !(d.2.1 == d.2.2)
noncomputable def tabRows (b : Nat) (ms : List Nat) : List (Nat × Int × Int) := (dueRows b ms 12).filter partsD
theorem cntD_big {ms : List Nat} {t : Nat} (h : ∀ m ∈ ms, 1 ≤ m ∧ m ≤ 12) (ht : 12 < t) : cntD ms t = 0 := by
  unfold cntD
  rw [List.filter_eq_nil_iff.mpr, List.length_nil]
  intro m hm e
  have h1 := h m hm
  have h2 := beq_iff_eq.mp e
  rw [Nat.mod_eq_of_lt (by omega)] at h2
  omega
theorem witRow_due (b : Nat) (ms : List Nat) (h : ∀ m ∈ ms, 1 ≤ m ∧ m ≤ 12) (i : Nat) : witRow (endOf b (ms.map (· - 1))) (endOf b ms) i = [dueRow b ms (1 + i)].filter partsD := by
  have e := endOf_pred b ms (1 + i) (fun m hm => (h m hm).1) (by omega)
  unfold witRow dueRow
  rw [e]
  generalize endOf b (ms.map (· - 1)) (1 + i) = z
  generalize ((1 + i : Nat) : Int) * (cntD ms (1 + i) : Nat) = y
  by_cases hz : z = z + y
  · rw [if_pos hz, List.filter_cons_of_neg]
    · rfl
    · show ¬ (!(z == z + y)) = true
      rw [beq_iff_eq.mpr hz]; decide
  · rw [if_neg hz, List.filter_cons_of_pos]
    · rfl
    · show (!(z == z + y)) = true
      rw [beq_eq_false_iff_ne.mpr hz]; rfl
theorem wit_rows (b : Nat) (ms : List Nat) (h : ∀ m ∈ ms, 1 ≤ m ∧ m ≤ 12) : ∀ n, witRows (endOf b (ms.map (· - 1))) (endOf b ms) n = (dueRows b ms n).filter partsD
  | 0 => rfl
  | n + 1 => by rw [witRows_succ, wit_rows b ms h n, dueRows_succ, List.filter_append, witRow_due b ms h]
theorem wit_table (b : Nat) (ms : List Nat) (h : ∀ m ∈ ms, 1 ≤ m ∧ m ≤ 12) : witRows (endOf b (ms.map (· - 1))) (endOf b ms) 13 = tabRows b ms := by
  rw [wit_rows b ms h, dueRows_succ, List.filter_append]
  have : [dueRow b ms (1 + 12)].filter partsD = [] := by
    rw [List.filter_cons_of_neg]
    · rfl
    · show ¬ (!(endOf b (ms.map (· - 1)) (1 + 12) == endOf b (ms.map (· - 1)) (1 + 12) + ((1 + 12 : Nat) : Int) * (cntD ms (1 + 12) : Nat))) = true
      rw [cntD_big h (by omega)]
      simp
  rw [this, List.append_nil]
  rfl
/-- the first number of a row is twelve -/
theorem lead_len (D : Nat) (r : List Nat) (h : ∀ d ∈ r, d ≤ D) : ((D :: r).foldl bump []).length = D + 1 := by
  rw [List.foldl_cons, fold_len]
  · rw [bump_len]; simp
  · intro d hd
    have := h d hd
    rw [bump_len]
    omega
theorem lead_bound (ds : List Nat) (h : ds.length ≤ 4) : ∀ y ∈ ds.foldl bump [], 0 ≤ y ∧ y ≤ 100 := by
  intro y hy
  have := fold_bound ds [] 0 (Int.le_refl _) (fun y hy => nomatch hy) y hy
  omega
theorem row_sizes {row : List Int} (h : RowOk row) : ∃ r, sizesOf row = 12 :: r ∧ (∀ m ∈ sizesOf row, 1 ≤ m ∧ m ≤ 12) ∧ (∀ m ∈ r, 1 ≤ m ∧ m ≤ 12) ∧ 1 ≤ r.length ∧ r.length ≤ 3 := by
  obtain ⟨h1, h2, h3, h4⟩ := h
  cases row with
  | nil => cases h3
  | cons a r =>
    have ha : a = 12 := by simpa using h3
    subst ha
    refine ⟨r.map Int.natAbs, rfl, fun m hm => ?_, fun m hm => ?_, by simp at h1 ⊢; omega, by simp at h2 ⊢; omega⟩
    · obtain ⟨x, hx, rfl⟩ := List.mem_map.mp hm
      exact h4 x hx
    · obtain ⟨x, hx, rfl⟩ := List.mem_map.mp hm
      exact h4 x (.tail _ hx)
theorem map_pred (row : List Int) : row.map (fun k : Int => k.natAbs - 1) = (sizesOf row).map (· - 1) := by
  rw [List.map_map]; rfl
theorem one_len {row : List Int} (h : RowOk row) : ((row.map (fun k : Int => k.natAbs - 1)).foldl bump []).length = 12 := by
  obtain ⟨r, e, _, hr, _⟩ := row_sizes h
  rw [map_pred, e]
  exact lead_len 11 (r.map (· - 1)) fun d hd => by
    obtain ⟨x, hx, rfl⟩ := List.mem_map.mp hd
    have := hr x hx
    omega
theorem other_len {row : List Int} (h : RowOk row) : ((row.map (fun k : Int => k.natAbs)).foldl bump []).length = 13 := by
  obtain ⟨r, e, _, hr, _⟩ := row_sizes h
  rw [show row.map (fun k : Int => k.natAbs) = sizesOf row from rfl, e]
  exact lead_len 12 r fun d hd => (hr d hd).2
theorem table_is {row : List Int} (h : RowOk row) (b : Nat) : witRows (indentOf ((row.map (fun k : Int => k.natAbs - 1)).foldl bump []) b row.length) (indentOf ((row.map (fun k : Int => k.natAbs)).foldl bump []) b row.length) 13 = tabRows b (sizesOf row) := by
  obtain ⟨r, e, hm, _⟩ := row_sizes h
  have e1 : indentOf ((row.map (fun k : Int => k.natAbs - 1)).foldl bump []) b row.length = endOf b ((sizesOf row).map (· - 1)) := by
    funext t
    rw [map_pred]
    have := indent_text ((sizesOf row).map (· - 1)) b t
    rwa [List.length_map, List.length_map] at this
  have e2 : indentOf ((row.map (fun k : Int => k.natAbs)).foldl bump []) b row.length = endOf b (sizesOf row) := by
    funext t
    have := indent_text (sizesOf row) b t
    rwa [List.length_map] at this
  rw [e1, e2, wit_table b _ hm]
end Mine
end

section
open PySem PySem.W PyProof.Rows PySem.Calls PySem.Spec
set_option maxRecDepth 100000
namespace Mine
/-- value by value -/
inductive Al {α : Type} (R : Value → α → Prop) : List Value → List α → Prop
  | nil : Al R [] []
  | cons {v a vs as} : R v a → Al R vs as → Al R (v :: vs) (a :: as)
theorem Al.length {α : Type} {R : Value → α → Prop} {vs : List Value} {as : List α} (x : Al R vs as) : vs.length = as.length := by
  induction x with
  | nil => rfl
  | cons _ _ ih => exact congrArg (· + 1) ih
theorem Al.get {α : Type} {R : Value → α → Prop} {vs : List Value} {as : List α} (x : Al R vs as) : ∀ {i : Nat} {v}, vs[i]? = some v → ∃ a, as[i]? = some a ∧ R v a := by
  induction x with
  | nil => exact fun e => nomatch e
  | cons t _ ih => exact get_two t ih
theorem Al.append {α : Type} {R : Value → α → Prop} {vs ws : List Value} {as bs : List α} (x : Al R vs as) (k : Al R ws bs) : Al R (vs ++ ws) (as ++ bs) := by
  induction x with
  | nil => exact k
  | cons t _ ih => exact .cons t ih
noncomputable def IntV (v : Value) (n : Int) : Prop := ∃ t, v = .int n t
theorem Al.ofInts {vs : List Value} {ns : List Int} (x : IntsAre vs ns) : Al IntV vs ns := by
  induction x with
  | nil => exact .nil
  | cons _ t _ ih => exact .cons ⟨t, rfl⟩ ih
theorem Al.ofRows {l : List (Addr × Obj)} {vs : List Value} {ds : List (Nat × Int × Int)} (x : RowsIn l vs ds) : Al (TripIn l) vs ds := by
  induction x with
  | nil => exact .nil
  | cons t _ ih => exact .cons t ih
theorem Al.rows {l : List (Addr × Obj)} {vs : List Value} {ds : List (Nat × Int × Int)} (x : Al (TripIn l) vs ds) : RowsIn l vs ds := by
  induction x with
  | nil => exact .nil
  | cons t _ ih => exact .cons t ih
section
variable {prog : Program} {w : World} {A : PySem.Around} {h₀ : Heap} {L : Addr} {m : Str → Option Value} {env : Env} {ct elt : PySem.Expr} {x : Str} {scope : Scope} {cl : List (Str × Addr)} {s : Shared} {S : List (Addr × Obj) → Prop} {Fin : List Value → List (Addr × Obj) → Prop} {news : List (Addr × Obj)}
/-- a list comprehension that keeps what a test passes -/
theorem compT_keep {α : Type} {R : Value → α → Prop} {vs : List Value} {as : List α} (ok : α → Bool) (hv : Al R vs as)
    (turn : ∀ v a I oI C oC D m₂ ys h tk (E' : Value → Shared → Prop), a ∈ as → R v a → LCg.NsObj oC m₂ → m₂ x = some v → Fr h₀ L h m → News h₀ L h ((I, oI) :: (C, oC) :: (D, LCg.lst ys) :: news) → LCg.Off3 I C D news → ((@Ne Nat I C) ∧ (@Ne Nat I D) ∧ (@Ne Nat C D)) →
      wpAny (model prog w) A (isTrue ct (compEnvC scope cl C env) (eval ct (compEnvC scope cl C env))) (fun b s' => if b = true then wpAny (model prog w) A (eval elt (compEnvC scope cl C env)) (LCg.CompEnd h₀ L m { s with heap := h, toks := tk } I oI C oC D (LCg.lst ys) S (fun y news' => news' = news ∧ y = v ∧ ok a = true)) E' s'
        else LCg.CompEnd h₀ L m { s with heap := h, toks := tk } I oI C oC D (LCg.lst ys) S (fun _ news' => news' = news ∧ ok a = false) Value.none s') E' { s with heap := h, toks := tk })
    (fin : ∀ ys, Al R ys (as.filter ok) → Fin ys news) : LCt.CompRestT prog w A h₀ L m env ct elt x scope cl s S (fun i v => vs.toArray[i]? = some v) Fin vs.toArray.size 0 [] news := by
  have hn : vs.toArray.size = as.length := by rw [List.size_toArray, hv.length]
  rw [hn]
  have key : ∀ (j i : Nat) (ys : List Value), i + j = as.length → Al R ys ((as.take i).filter ok) → LCt.CompRestT prog w A h₀ L m env ct elt x scope cl s S (fun i v => vs.toArray[i]? = some v) Fin j i ys news := by
    intro j
    induction j with
    | zero =>
      intro i ys hi hy
      have e : i = as.length := by omega
      subst e
      rw [List.take_length] at hy
      exact LCt.CompRestT.zero (fin ys hy)
    | succ j ih =>
      intro i ys hi hy
      refine LCt.CompRestT.succ ?_
      intro v I oI C oC D m₂ h tk E' hP hC hx F N off ne
      obtain ⟨a, ha, hR⟩ := hv.get (i := i) (v := v) (by simpa using hP)
      have hs : (as.take (i + 1)).filter ok = (as.take i).filter ok ++ [a].filter ok := by
        rw [List.take_add_one, ha, List.filter_append]; rfl
      refine wpAny_mono (turn v a I oI C oC D m₂ ys h tk E' (List.mem_of_getElem? ha) hR hC hx F N off ne) (fun b s₂ hq => ?_) fun _ _ e => e
      cases b with
      | true =>
        simp only [if_true] at hq ⊢
        refine wpAny_mono hq (fun y s₃ hr => ?_) fun _ _ e => e
        obtain ⟨h', tk', nw, e, F', N', off', hS, hn, hy', hok⟩ := hr
        rw [hn] at N' off' hS
        refine ⟨h', tk', news, e, F', N', off', hS, ih (i + 1) _ (by omega) ?_⟩
        rw [hs, List.filter_cons_of_pos hok, hy']
        exact hy.append (.cons hR .nil)
      | false =>
        simp only [Bool.false_eq_true, if_false] at hq ⊢
        obtain ⟨h', tk', nw, e, F', N', off', hS, hn, hok⟩ := hq
        rw [hn] at N' off' hS
        refine ⟨h', tk', news, e, F', N', off', hS, ih (i + 1) _ (by omega) ?_⟩
        rw [hs, List.filter_cons_of_neg (by rw [hok]; decide), List.filter_nil, List.append_nil]
        exact hy
  exact key as.length 0 [] (by omega) .nil
end
end Mine
end

section
open PySem PySem.W PyProof.Rows PySem.Calls PySem.Spec
namespace Mine
theorem part_fdiv (x : Int) (t : Nat) (h : 1 ≤ x.natAbs) : ((if x < 0 then -x else x) - 1).fdiv (t : Int) + 1 = (((x.natAbs - 1) / t + 1 : Nat) : Int) := by
  have e : (if x < 0 then -x else x) - 1 = ((x.natAbs - 1 : Nat) : Int) := by split <;> omega
  rw [e, Int.fdiv_eq_ediv_of_nonneg _ (Int.natCast_nonneg t), ← Int.natCast_ediv, Int.natCast_add]
  rfl
theorem part_sum (t : Nat) : ∀ row : List Int, (∀ x ∈ row, 1 ≤ x.natAbs) → (row.map fun x : Int => ((if x < 0 then -x else x) - 1).fdiv (t : Int) + 1).sum = ((((sizesOf row).map (· - 1)).map fun d => d / t + 1).sum : Nat)
  | [], _ => rfl
  | x :: r, h => by
    have ih := part_sum t r fun y hy => h y (.tail _ hy)
    rw [List.map_cons, List.sum_cons, ih, part_fdiv x t (h x (.head _))]
    simp only [List.map_cons, List.sum_cons, Int.natCast_add]
theorem sum_le (t : Nat) : ∀ ds : List Nat, (∀ d ∈ ds, d ≤ 12) → (ds.map fun d => d / t + 1).sum ≤ 13 * ds.length
  | [], _ => Nat.le_refl _
  | d :: r, h => by
    have ih := sum_le t r fun y hy => h y (.tail _ hy)
    have h1 := h d (.head _)
    have h2 := Nat.div_le_self d t
    simp only [List.map_cons, List.sum_cons, List.length_cons]
    omega
theorem row_sum {row : List Int} (h : RowOk row) (t : Nat) : (row.map fun x : Int => ((if x < 0 then -x else x) - 1).fdiv (t : Int) + 1).sum = ((((sizesOf row).map (· - 1)).map fun d => d / t + 1).sum : Nat) ∧ (((sizesOf row).map (· - 1)).map fun d => d / t + 1).sum ≤ 52 := by
  refine ⟨part_sum t row fun x hx => (h.2.2.2 x hx).1, ?_⟩
  have := sum_le t ((sizesOf row).map (· - 1)) (fun d hd => by
    obtain ⟨m, hm, rfl⟩ := List.mem_map.mp hd
    obtain ⟨x, hx, rfl⟩ := List.mem_map.mp hm
    have := (h.2.2.2 x hx).2
    show x.natAbs - 1 ≤ 12
    omega)
  rw [List.length_map, List.length_map] at this
  have := h.2.1
  omega
theorem fmod_abs (x : Int) (t : Nat) : (x.fmod (t : Int) == 0) = (x.natAbs % t == 0) := by
  have h : x.fmod (t : Int) = 0 ↔ x.natAbs % t = 0 := by
    constructor
    · intro e
      have := Int.dvd_of_fmod_eq_zero e
      have h2 := Int.natAbs_dvd_natAbs.mpr this
      rw [Int.natAbs_natCast] at h2
      exact Nat.mod_eq_zero_of_dvd h2
    · intro e
      apply Int.fmod_eq_zero_of_dvd
      have := Nat.dvd_of_mod_eq_zero e
      exact Int.natAbs_dvd_natAbs.mp (by rw [Int.natAbs_natCast]; exact this)
  rw [Bool.eq_iff_iff, beq_iff_eq, beq_iff_eq, h]
theorem row_count (t : Nat) : ∀ row : List Int, (row.filter fun x => x.fmod (t : Int) == 0).length = cntD (sizesOf row) t
  | [] => rfl
  | x :: r => by
    have ih := row_count t r
    unfold cntD at *
    simp only [sizesOf, List.map_cons, List.filter_cons] at *
    rw [fmod_abs]
    by_cases hd : (x.natAbs % t == 0) = true
    · rw [if_pos hd, if_pos hd, List.length_cons, List.length_cons, ih]
    · rw [if_neg hd, if_neg hd, ih]
theorem cntD_le (ms : List Nat) (t : Nat) : cntD ms t ≤ ms.length := List.length_filter_le _ _
end Mine
end

section
open PySem PySem.W PyProof.Rows PySem.Calls PySem.Spec
set_option maxRecDepth 100000
namespace Mine
/-- the sort's questions, answered by a function of two unlike places -/
noncomputable def runK {α : Type} (n : Nat) (lt : Nat → Nat → Bool) : KasT α → Option α
  | .ret a => some a
  | .ask i j k => if i < n ∧ j < n ∧ i ≠ j then runK n lt (k (lt i j)) else none
theorem runK_wp {α : Type} {n : Nat} {lt : Nat → Nat → Bool} {cmp : Nat → Nat → (Bool → Shared → Prop) → Shared → Prop} {Q : α → Shared → Prop} {s : Shared}
    (hc : ∀ i j C, i < n → j < n → i ≠ j → C (lt i j) s → cmp i j C s) : ∀ (t : KasT α) (a : α), runK n lt t = some a → Q a s → t.kasWp cmp Q s
  | .ret b, a, h, hq => by
    have e : some b = some a := h
    cases e
    exact hq
  | .ask i j k, a, h, hq => by
    have e : (if i < n ∧ j < n ∧ i ≠ j then runK n lt (k (lt i j)) else none) = some a := h
    split at e
    · rename_i hb
      exact hc i j _ hb.1 hb.2.1 hb.2.2 (runK_wp hc (k (lt i j)) a e hq)
    · cases e
theorem up_runs : ∀ n, n < 13 → runK n (fun i j => decide (i < j)) (kas_sort n) = some (List.toArray (List.range n)) := by decide +kernel
noncomputable def Rising (rows : List (Nat × Int × Int)) : Prop := rows.Pairwise fun a b => a.1 < b.1
theorem rising_iff {rows : List (Nat × Int × Int)} (h : Rising rows) {i j : Nat} {a b : Nat × Int × Int} (hi : rows[i]? = some a) (hj : rows[j]? = some b) (hne : i ≠ j) : (i < j ↔ a.1 < b.1) ∧ a.1 ≠ b.1 := by
  obtain ⟨hi', ei⟩ := List.getElem?_eq_some_iff.mp hi
  obtain ⟨hj', ej⟩ := List.getElem?_eq_some_iff.mp hj
  have up := List.pairwise_iff_getElem.mp h
  rcases Nat.lt_or_ge i j with hlt | hge
  · have := up i j hi' hj' hlt
    rw [ei, ej] at this
    omega
  · have := up j i hj' hi' (by omega)
    rw [ei, ej] at this
    omega
theorem RowsIn.get {l : List (Addr × Obj)} {vs ds} (x : RowsIn l vs ds) {i : Nat} (h : i < vs.length) : ∃ v d, vs[i]? = some v ∧ ds[i]? = some d ∧ TripIn l v d :=
  ((Al.ofRows x).get (List.getElem?_eq_getElem h)).elim fun d e => ⟨_, d, List.getElem?_eq_getElem h, e.1, e.2⟩
theorem RowsIn.length {l : List (Addr × Obj)} : ∀ {vs ds}, RowsIn l vs ds → vs.length = ds.length := fun x => (Al.ofRows x).length
theorem rows_tups {h : Heap} {l : List (Addr × Obj)} (k : ∀ q ∈ l, h.get? q.1 = some q.2) : ∀ {vs ds}, RowsIn l vs ds → ∃ fs, KatTups h vs fs ∧ IntsAre fs (ds.map fun d => (d.1 : Int)) := fun x => RowsIn.rec (motive := fun vs ds _ => ∃ fs, KatTups h vs fs ∧ IntsAre fs (ds.map fun d => (d.1 : Int))) ⟨[], KatTups.nil, .nil⟩ (fun t _ ih => by
    obtain ⟨q, t1, t2, t3, e, m⟩ := t
    obtain ⟨fs, x, y⟩ := ih
    subst e
    exact ⟨_, KatTups.cons (k _ m) rfl rfl rfl x, .cons _ t1 y⟩) x
section
variable {prog : Program} {w : World} {A : PySem.Around} {E : Value → Shared → Prop} {s : Shared} {h₀ : Heap} {L : Addr} {m : Str → Option Value} {news : List (Addr × Obj)} {vs : List Value}
theorem map_range (vs : List Value) : ((List.toArray (List.range vs.length)).toList.map fun i => vs.getD i Value.none) = vs := by
  apply List.ext_getElem
  · simp
  · intro i h1 h2
    simp only [List.getElem_map, List.getElem_range]
    rw [List.getD_eq_getElem?_getD, List.getElem?_eq_getElem h2]
    rfl
/-- sorted, of two to twelve rows that rise -/
theorem sorted_rows {l : Addr} {rows : List (Nat × Int × Int)} {Q : Value → Shared → Prop} (F : Fr h₀ L s.heap m) (N : News h₀ L s.heap news) (hl : s.heap.IsList l vs.toArray) (h2 : 2 ≤ vs.length) (h13 : vs.length < 13) (hr : RowsIn news vs rows) (hup : Rising rows)
    (h : ∀ D c h', Fr h₀ L h' m → News h₀ L h' ((D, W.listOf vs.toArray c) :: news) → (∀ q ∈ news, q.1 < D) → Q (.ref D) { s with heap := h' }) :
    wpAny (model prog w) A (call (.builtin "sorted") [.ref l]) Q E s := by
  refine kat_sorted F N hl h2 (by omega) fun D e1 h' F' N' l1 => ?_
  have kk : ∀ q ∈ news, h'.get? q.1 = some q.2 := fun q hq => (N' q (.tail _ hq)).1
  obtain ⟨fs, ht, hf⟩ := rows_tups kk hr
  have hfl : fs.length = vs.length := by rw [hf.length, List.length_map, hr.length]
  refine kat_kind (T := .type "int") ht (by omega) (fun v hv => ?_) (by decide) ?_
  · obtain ⟨i, hi⟩ := List.getElem?_of_mem hv
    obtain ⟨n, t, rfl, _⟩ := hf.at i v hi
    exact Looks.now
  refine runK_wp (n := vs.length) (lt := fun i j => decide (i < j)) (fun i j C hi hj hne hC => ?_) _ _ (up_runs vs.length h13) ?_
  · obtain ⟨v1, d1, ev1, ed1, q1, a1, a2, a3, rfl, m1⟩ := hr.get hi
    obtain ⟨v2, d2, ev2, ed2, q2, b1, b2, b3, rfl, m2⟩ := hr.get hj
    have hx := rising_iff hup ed1 ed2 hne
    unfold kas_ask
    rw [List.getD_eq_getElem?_getD, List.getD_eq_getElem?_getD, ev1, ev2]
    refine kat_lt (kk _ m1) rfl (kk _ m2) rfl ?_
    refine kat_cons (wpAny_eqBool_int ?_)
    have hne1 : ((d1.1 : Int) == (d2.1 : Int)) = false := beq_eq_false_iff_ne.mpr (by omega)
    rw [hne1]
    refine kat_no (oneLt_int ?_)
    have e : decide ((d1.1 : Int) < (d2.1 : Int)) = decide (i < j) := by
      rw [decide_eq_decide]
      omega
    rw [e]
    exact hC
  · refine KasFin.intro F' N' (.head (fun p hp => Nat.ne_of_lt (l1 p hp))) fun h3 c F3 N3 => ?_
    rw [map_range] at N3
    exact h D c h3 F3 N3 l1
end
end Mine
end

section
open PySem PySem.W PyProof.Rows PySem.Calls PySem.Spec
set_option maxRecDepth 100000
namespace Mine
section
variable {prog : Program} {w : World} {A : PySem.Around} {E : Value → Shared → Prop} {s : Shared} {h₀ : Heap} {L : Addr} {m : Str → Option Value} {news : List (Addr × Obj)} {vs : List Value}
theorem list_sort_few {a : Addr} {n : Nat} {P : PySem.Fin → Shared → Prop} (ho : s.heap.get? a = some (seqObj "list" vs.toArray n)) (h2 : vs.length < 2)
    (h : ∀ h' c, (∀ b o, b ≠ a → s.heap.get? b = some o → h'.get? b = some o) → h'.get? a = some (seqObj "list" vs.toArray c) → P (.done (.ret .none)) { s with heap := h' }) :
    wpAny (model prog w) A (Builtin.«list.sort» ⟨[.ref a], []⟩) P E s := by
  have ha : a < s.heap.objs.size := Heap.lt_size ho
  have s1 := Heap.SameBut.update s.heap a (Obj.mapSeq fun _ => (#[] : Array Value))
  obtain ⟨e1, ho1⟩ : ∃ e1, (s.heap.update a (Obj.mapSeq fun _ => (#[] : Array Value))).get? a = some (seqObj "list" #[] e1) := ⟨_, get?_update_seq ho fun _ => #[]⟩
  rw [list_sort_plain]
  refine wpAny_bind (listItems_at ho rfl ?_)
  refine wpAny_bind (listUpdate_at ho rfl ?_ (by rw [List.size_toArray, sizeLine_eq]; omega) (Nat.zero_le _))
  refine wpAny_bind (seqEpoch_at ho1 rfl ?_)
  refine wpAny_bind (wpAny_newTuple ?_ (by show vs.length ≤ _; rw [sizeLine_eq]; omega))
  refine wpAny_bind (wpAny_newList ?_ (Nat.zero_le _))
  refine wpAny_holding ?_
  show wpAny (model prog w) A _ P E { s with heap := ((s.heap.update a (Obj.mapSeq fun _ => (#[] : Array Value))).push (seqObj "tuple" vs.toArray 0)).push (seqObj "list" #[] 0) }
  dsimp only
  have hn2 : vs.toArray.size < 2 := by rw [List.size_toArray]; exact h2
  have ho6 : (((s.heap.update a (Obj.mapSeq fun _ => (#[] : Array Value))).push (seqObj "tuple" vs.toArray 0)).push (seqObj "list" #[] 0)).get? a = some (seqObj "list" #[] e1) := Heap.get?_push_of_some _ (Heap.get?_push_of_some _ ho1)
  rw [if_pos hn2, if_pos hn2]
  refine wpAny_bind (wpAny_pure ?_)
  rw [StateT.run_pure]
  refine wpAny_bind (wpAny_pure ?_)
  dsimp only
  refine wpAny_bind (seqEpoch_at ho6 rfl ?_)
  have hz : (arrOf (SortSt.mk' general' (vs.toArray.zip vs.toArray) #[] 7 none)).map (·.2) = vs.toArray := by
    show (vs.toArray.zip vs.toArray).map (·.2) = vs.toArray
    apply Array.toList_inj.mp
    simp only [Array.toList_map, Array.toList_zip]
    exact List.map_snd_zip (Nat.le_refl _)
  refine wpAny_bind (listUpdate_at ho6 rfl ?_ (Nat.zero_le _) (by
    show ((arrOf (SortSt.mk' general' (vs.toArray.zip vs.toArray) #[] 7 none)).map (·.2)).size ≤ _
    rw [hz, sizeLine_eq]; omega))
  simp only [bne_self_eq_false, Bool.false_eq_true, if_false]
  refine wpAny_pure ?_
  have s2 := Heap.SameBut.update (((s.heap.update a (Obj.mapSeq fun _ => (#[] : Array Value))).push (seqObj "tuple" vs.toArray 0)).push (seqObj "list" #[] 0)) a (Obj.mapSeq fun _ => vs.toArray)
  obtain ⟨c2, hc2⟩ : ∃ c2, ((((s.heap.update a (Obj.mapSeq fun _ => (#[] : Array Value))).push (seqObj "tuple" vs.toArray 0)).push (seqObj "list" #[] 0)).update a (Obj.mapSeq fun _ => vs.toArray)).get? a = some (seqObj "list" vs.toArray c2) := ⟨_, get?_update_seq ho6 fun _ => vs.toArray⟩
  have fin := h _ c2 (fun b o hb e => (s2.2 b hb).trans (Heap.get?_push_of_some _ (Heap.get?_push_of_some _ ((s1.2 b hb).trans e)))) hc2
  have hfin : ∀ out : Array Value, out = vs.toArray → P (.done (.ret .none)) { s with heap := (((s.heap.update a (Obj.mapSeq fun _ => (#[] : Array Value))).push (seqObj "tuple" vs.toArray 0)).push (seqObj "list" #[] 0)).update a (Obj.mapSeq fun _ => out) } := fun out e => by
    subst e; exact fin
  exact hfin _ hz
theorem sorted_few {l : Addr} {Q : Value → Shared → Prop} (F : Fr h₀ L s.heap m) (N : News h₀ L s.heap news) (hl : s.heap.IsList l vs.toArray) (h2 : vs.length < 2)
    (h : ∀ D c h', Fr h₀ L h' m → News h₀ L h' ((D, W.listOf vs.toArray c) :: news) → (∀ q ∈ news, q.1 < D) → Q (.ref D) { s with heap := h' }) :
    wpAny (model prog w) A (call (.builtin "sorted") [.ref l]) Q E s := by
  refine Calls.call_function_entry kind_sorted plain_sorted entry_sorted (args_sorted1 _) ?_
  unfold Builtin.«sorted»
  refine wpAny_bind (m := checkCount "sorted" 1 1 _) (wpAny_pure ?_)
  refine wpAny_bind (collect_list hl ?_ (by rw [sizeLine_eq]; omega))
  refine wpAny_bind (wpAny_newList ?_ (by rw [sizeLine_eq]; omega))
  have hsz : ((s.heap.push (seqObj "list" #[] 0)).update s.heap.objs.size (Obj.mapSeq (· ++ vs.toArray))).objs.size = s.heap.objs.size + 1 := by
    rw [Heap.size_update, size_push']
  have hoL : (((s.heap.push (seqObj "list" #[] 0)).update s.heap.objs.size (Obj.mapSeq (· ++ vs.toArray))).push (seqObj "list" vs.toArray 0)).get? (s.heap.objs.size + 1) = some (seqObj "list" vs.toArray 0) := by
    rw [← hsz]; exact Heap.get?_push_size _ rfl
  have keep : ∀ b o, s.heap.get? b = some o → (((s.heap.push (seqObj "list" #[] 0)).update s.heap.objs.size (Obj.mapSeq (· ++ vs.toArray))).push (seqObj "list" vs.toArray 0)).get? b = some o := fun b o q => by
    have hlt : b < s.heap.objs.size := Heap.lt_size q
    rw [Heap.get?_push_ne _ _ _ (by rw [hsz]; exact Nat.ne_of_lt (Nat.lt_succ_of_lt hlt)), Heap.get?_update_ne _ _ _ _ (Nat.ne_of_lt hlt), Heap.get?_push_ne _ _ _ (Nat.ne_of_lt hlt)]
    exact q
  have hLs : L < s.heap.objs.size := F.ns.lt
  show wpAny _ _ _ _ _ { s with heap := ((s.heap.push (seqObj "list" #[] 0)).update s.heap.objs.size (Obj.mapSeq (· ++ vs.toArray))).push (seqObj "list" vs.toArray 0) }
  rw [hsz]
  refine wpAny_bind (wpAny_holding (wpAny_call_entry slot_list_sort ⟨_, hoL, rfl⟩ entry_list_sort ?body (args_list_sort _)))
  case body =>
    refine list_sort_few (s := { s with heap := ((s.heap.push (seqObj "list" #[] 0)).update s.heap.objs.size (Obj.mapSeq (· ++ vs.toArray))).push (seqObj "list" vs.toArray 0) }) hoL h2 fun h' c hk hc => ⟨_, rfl, ?_⟩
    have up : ∀ b o, s.heap.get? b = some o → h'.get? b = some o := fun b o e => hk b o (Nat.ne_of_lt (Nat.lt_succ_of_lt (Heap.lt_size e))) (keep b o e)
    refine wpAny_pure ⟨_, rfl, h _ c h' (F.kept up) (fun p hp => ?_) fun q hq => Nat.lt_succ_of_lt (Heap.lt_size (N q hq).1)⟩
    rcases List.mem_cons.mp hp with rfl | hp
    · exact ⟨hc, Nat.ne_of_gt (Nat.lt_succ_of_lt hLs), Heap.get?_none_of_le (Nat.le_trans F.above (Nat.le_succ_of_le (Nat.le_of_lt hLs)))⟩
    · exact ⟨up _ _ (N p hp).1, (N p hp).2⟩
/-- sorted, of at most twelve rows that rise -/
theorem sorted_up {l : Addr} {rows : List (Nat × Int × Int)} {Q : Value → Shared → Prop} (F : Fr h₀ L s.heap m) (N : News h₀ L s.heap news) (hl : s.heap.IsList l vs.toArray) (h13 : vs.length < 13) (hr : RowsIn news vs rows) (hup : Rising rows)
    (h : ∀ D c h', Fr h₀ L h' m → News h₀ L h' ((D, W.listOf vs.toArray c) :: news) → (∀ q ∈ news, q.1 < D) → Q (.ref D) { s with heap := h' }) :
    wpAny (model prog w) A (call (.builtin "sorted") [.ref l]) Q E s := by
  rcases Nat.lt_or_ge vs.length 2 with h2 | h2
  · exact sorted_few F N hl h2 h
  · exact sorted_rows F N hl h2 h13 hr hup h
end
end Mine
end

section
open PySem PySem.W PyProof.Rows PySem.Calls PySem.Spec
set_option maxRecDepth 100000
namespace Mine
section
variable {prog : Program} {w : World} {p : Program} {loose : List Str} {mean : ExcName → Option Value} {mg mb : Str → Option Value}
/-- a contract for a lambda that a call has made -/
theorem does_ofL {f : Addr} {vs : List Value} {dn wn : Nat} {pre : Heap → Prop} {ch : List Addr} {post : Heap → Value → Heap → Prop}
    {name qual : Str} {params : Arguments} {body : PySem.Expr} {scope : Scope} {clos : List (Str × Addr)} {pm ctv : Value} {c' : Addr} {binds : List (Str × Value)}
    {news : List (Addr × Obj)}
    (ho : (f, kla_obj name qual params body scope clos pm c' ctv) ∈ news) (hcd : ∀ (h h₀ : Heap) (L : Addr), News h₀ L h news → h.CodeRec (.ref c') qual)
    (hbind : bindArgs (kla_fn name qual params body scope clos pm (.ref c') ctv) ⟨vs, []⟩ = pure binds) (hloc : ∀ y ∈ binds, scope.names.lookup y.1 = some .local)
    (hco : scope.isCoroutine = false) (hgen : scope.isGenerator = false) (hk : scope.kind = .function) (hcell : ∀ x ∈ scope.names, x.2 ≠ .cell) (hdn : 0 < dn)
    (walk : ∀ (dp un : Nat) (gd : Option (List Code)) (cn : Str) (cs : Scope) (a : Addr) (ccd : Value) (cl : List (Str × Addr)) (outer : List Env) (A₀ : PySem.Around) (base : Heap) (L : Addr) (s : Shared) (g : Heap) (L' : Addr) (h₁ : Heap),
      Entry s.heap g L' news → pre s.heap →
      Fr g L' h₁ (fun y => binds.reverse.lookup y) → News g L' h₁ news → Below (ktrTop dp un gd cn cs L a ccd cl outer) base (envX cn cs L a ccd cl :: outer) g → Base w p loose mean mg mb g → AllLt L' news →
      dp + dn < recursionLimit → un + wn < cLine → ∀ post9 : Heap → Value → Heap → Prop, (∀ h v h', post h v h' → post9 h v h') →
      wpAny (model prog w) ((ktrTop dp un gd cn cs L a ccd cl outer).deeper (envX qual scope L' f (.ref c') clos)) (eval body (envX qual scope L' f (.ref c') clos))
        (fun v s' => Ret ch post9 s v s') (fun _ _ => False) { s with heap := h₁, toks := s.toks + binds.length }) :
    Does prog w p loose mean mg mb f vs dn wn news pre ch post := by
  intro dp un gd cn cs a ccd cl outer A₀ base h₀ L m s Q E B F X hke N hpre hd hu hret
  have X₁ := X.keeps F.keep
  refine wpAny_call ?_
  obtain ⟨FG, BG, st, lv⟩ := groundX (R := fun _ _ => True) (A := ktrTop dp un gd cn cs L a ccd cl outer) (env := envX cn cs L a ccd cl) B F N rfl rfl hke
  refine kla_callFunE (by show dp < recursionLimit; omega) (N _ ho).1 rfl hco hgen rfl (hcd _ _ _ N) ?_
  rw [hbind]
  refine wpAny_pure (wpAny_newFunctionEnv hcell hloc (fun h₁ hns hsb => ⟨((X.T.nolimit).keeps F.keep).fresh _ hsb, ?_⟩) hk)
  show codeAny _ _ (.expr body (envX qual scope s.heap.objs.size f (.ref c') clos)) _ _
  have hk₁ : ∀ b o, s.heap.get? b = some o → h₁.get? b = some o := fun b o e => hsb.extBut b o (Nat.ne_of_lt (Heap.lt_size e)) (Heap.get?_push_of_some _ e)
  refine kla_codeExpr (wpAny_mono (walk dp un gd cn cs a ccd cl outer A₀ base L s (hideAll s.heap (news.map (·.1))) s.heap.objs.size h₁ ⟨fun b o e n => hideAll_get _ e n, fun q hq => (N q hq).1, Nat.le_refl _⟩ hpre ⟨hns, fun b o e => hk₁ b o (of_hideAll _ e), Nat.le_of_eq (hideAll_size _ _)⟩
    (fun q hq => ⟨hk₁ _ _ (N q hq).1, Nat.ne_of_lt (Heap.lt_size (N q hq).1), hideAll_none _ (List.mem_map_of_mem hq)⟩) BG (X.keeps fun b o e => st b o e) (allLt_of fun q hq => Heap.lt_size (N q hq).1) hd hu post fun _ _ _ z => z) (fun v s' hl => ?_) fun _ _ y => y.elim)
  obtain ⟨h', tk', rfl, hg, hp⟩ := hl.out
  exact hret _ h' tk' hg hp
theorem sub2 {α : Type} {a b : α} {c l : List α} (h1 : a ∈ l) (h2 : b ∈ l) (h3 : ∀ q ∈ c, q ∈ l) : ∀ q ∈ a :: b :: c, q ∈ l := fun q hq => by
  rcases List.mem_cons.mp hq with rfl | hq
  · exact h1
  · rcases List.mem_cons.mp hq with rfl | hq
    · exact h2
    · exact h3 q hq
end
end Mine
end

section
open PySem PySem.W PyProof.Rows PySem.Calls PySem.Spec
set_option maxRecDepth 100000
namespace Mine
section
variable {M : Model} {A : PySem.Around} {E : Value → Shared → Prop} {s : Shared} {h₀ : Heap} {L a c : Addr} {m mg mb : Str → Option Value} {cn : Str} {cs : Scope} {ccd : Value} {cl : List (Str × Addr)}
  {p : Program} {loose : List Str} {mean : ExcName → Option Value} {name qual : Str} {params : Arguments} {body : PySem.Expr} {scope : Scope} {pos : Pos} {firstLine : Nat} {clos : List (Str × Addr)}
/-- a lambda of the law is made: its code is made or found -/
theorem lam_make {Q : Value → Shared → Prop} {P : Addr} {ps : Array Value} {kc : Addr} {koc : Obj} {rest : List (Addr × Obj)} (F : Fr h₀ L s.heap m) (N : News h₀ L s.heap ((P, tabObj ps) :: (kc, koc) :: rest)) (T : Top p loose mean mg mb h₀) (C : CodeHd h₀ c P) (hcd : ccd = .ref c)
    (hS : TabS P pos.line pos.col qual ps kc koc) (hn : AllNe P rest) (hcl : closureFor scope (envX cn cs L a ccd cl) = pure clos)
    (h : ∀ f c' oc ctv h' tk, Fr h₀ L h' m → News h₀ L h' ((f, kla_obj name qual params body scope clos ((mg "__name__").getD .none) c' ctv) :: (P, tabObj #[rawInt pos.line, rawInt pos.col, .ref c']) :: (c', oc) :: rest) → CodeObj oc qual → AllNe f rest → @Ne Nat f P → @Ne Nat f c' →
      ((c' = kc ∧ oc = koc) ∨ (AllNe c' rest ∧ @Ne Nat c' P)) → Q (.ref f) { s with heap := h', toks := tk }) :
    wpAny M A (makeFunction name qual params (.expr body) scope (envX cn cs L a ccd cl) [] [] [] pos firstLine) Q E s := by
  rcases hS with ⟨rfl, rfl, rfl⟩ | ⟨rfl, hc⟩
  · have N1 : News h₀ L s.heap ((kc, tabObj #[]) :: rest) := pickN N [0] 2 rfl
    refine kla_nest F N1 T C hcd (.head (fun p hp => hn.at p hp)) True.intro rfl hcl ?_
    intro f c' oc vs t ctv h' tk F' N' d1 d2 l1 l2
    refine h f c' oc ctv h' tk F' (fun q hq => N' q ?_) ⟨vs, t, d1, d2⟩ ?_ ?_ (Nat.ne_of_gt l2) (.inr ⟨?_, ?_⟩)
    · rcases List.mem_cons.mp hq with rfl | hq
      · exact .head _
      · rcases List.mem_cons.mp hq with rfl | hq
        · exact .tail _ (.tail _ (.head _))
        · rcases List.mem_cons.mp hq with rfl | hq
          · exact .tail _ (.head _)
          · exact .tail _ (.tail _ (.tail _ hq))
    · exact AllNe.of fun q hq => Nat.ne_of_lt (Nat.lt_trans (l1 q (.tail _ hq)) l2)
    · exact Nat.ne_of_gt (Nat.lt_trans (l1 _ (.head _)) l2)
    · exact AllNe.of fun q hq => Nat.ne_of_lt (l1 q (.tail _ hq))
    · exact Nat.ne_of_gt (l1 _ (.head _))
  · refine kla_hit (c' := kc) F N T C hcd (.head _) (by simp [TriplesOk, rawInt]) (by simp [codeAmong, rawInt]) hcl ?_
    intro f ctv h' tk F' N' l1
    refine h f kc koc ctv h' tk F' N' hc (AllNe.of fun q hq => Nat.ne_of_lt (l1 q (.tail _ (.tail _ hq)))) (Nat.ne_of_gt (l1 _ (.head _))) (Nat.ne_of_gt (l1 (kc, koc) (.tail _ (.head _)))) (.inl ⟨rfl, rfl⟩)
/-- another lambda of the law, once only -/
theorem lam_make2 {Q : Value → Shared → Prop} {P : Addr} {l₁ c₁ : Int} {q₁ : Str} {ps : Array Value} {kc : Addr} {koc : Obj} {rest : List (Addr × Obj)} (F : Fr h₀ L s.heap m) (N : News h₀ L s.heap ((P, tabObj ps) :: rest)) (T : Top p loose mean mg mb h₀) (C : CodeHd h₀ c P) (hcd : ccd = .ref c)
    (hS : TabS P l₁ c₁ q₁ ps kc koc) (hl : (pos.line : Int) ≠ l₁) (hn : AllNe P rest) (hcl : closureFor scope (envX cn cs L a ccd cl) = pure clos)
    (h : ∀ f c' oc ctv h' tk, Fr h₀ L h' m → News h₀ L h' ((f, kla_obj name qual params body scope clos ((mg "__name__").getD .none) c' ctv) :: (c', oc) :: (P, tabObj (ps ++ #[rawInt pos.line, rawInt pos.col, .ref c'])) :: rest) → CodeObj oc qual → Q (.ref f) { s with heap := h', toks := tk }) :
    wpAny M A (makeFunction name qual params (.expr body) scope (envX cn cs L a ccd cl) [] [] [] pos firstLine) Q E s := by
  have ht : TriplesOk ps.toList := by
    rcases hS with ⟨rfl, _⟩ | ⟨rfl, _⟩
    · exact True.intro
    · simp [TriplesOk, rawInt]
  have hf : codeAmong pos ps.toList = none := by
    rcases hS with ⟨rfl, _⟩ | ⟨rfl, _⟩
    · rfl
    · simp [codeAmong, rawInt]
      omega
  refine kla_nest F N T C hcd (.head (fun p hp => hn.at p hp)) ht hf hcl ?_
  intro f c' oc vs t ctv h' tk F' N' d1 d2 l1 l2
  exact h f c' oc ctv h' tk F' N' ⟨vs, t, d1, d2⟩
end
end Mine
end

section
open PySem PySem.W PyProof.Rows PySem.Calls PySem.Spec
set_option maxRecDepth 100000
set_option maxHeartbeats 2000000
namespace Mine
theorem fillK_D14 : PySem.Challenge.rw_ph0163_01 = PySem.Challenge.rw_ph0163_01 ∧ Mine.KF = Mine.KF := by
  w_top off
  (try (walk1; fail))
  k_fill
  exact ⟨rfl, rfl⟩
section
variable {prog : Program} {w : World} {p : Program} {loose : List Str} {mean : ExcName → Option Value} {mg mb : Str → Option Value}


theorem split_does {A f : Addr} {us : List Value} {e : Nat} {oc : Value} {od : Option Addr} {fd : FuncData} {sl : Array (Option Value)} {pr tups : List (Addr × Obj)} {rows : List (Nat × Int × Int)} (ok : Nat × Int × Int → Bool) (hr : RowsIn tups us rows) (hl : us.length ≤ 12)
    (hp : ∀ v d, TripIn tups v d → d ∈ rows → Does prog w p loose mean mg mb f [v] 10 100 ((f, ⟨oc, od, .func fd, sl⟩) :: (pr ++ tups)) (fun _ => True) [] (fun h r h' => r = .bool (ok d))) :
    Does prog w p loose mean mg mb 28 [.ref A, .ref f] 20 200 ((A, W.listOf us.toArray e) :: (f, ⟨oc, od, .func fd, sl⟩) :: (pr ++ tups)) (fun _ => True) []
      (fun h r h' => E7 fun T Y Z ys zs ey ez => A9 (r = .ref T) (h.get? T = none) (h.get? Y = none) (h.get? Z = none) (h'.get? T = some (tupObj [.ref Y, .ref Z])) (h'.get? Y = some (W.listOf ys.toArray ey)) (h'.get? Z = some (W.listOf zs.toArray ez)) (RowsIn tups ys (rows.filter ok)) (RowsIn tups zs (rows.filter fun d => !ok d))) := by
  refine' does_of (binds := [(Str.ofString "s", .ref A), (Str.ofString "predicate", .ref f)]) ?ho ?hcd ?hb ?hl ?c1 ?c2 ?c3 ?c4 ?c5 ?walk
  case ho => k_dflt k_is
  case hcd => k_dflt k_is
  case hb => exact fun s => BindsTo.of_eq rfl
  case hl => exact locs rfl
  case c1 => exact rfl
  case c2 => exact rfl
  case c3 => exact rfl
  case c4 => decide
  case c5 => decide
  case walk =>
    intro dp un gd cn cs a' ccd cl outer A₀ base L s g L' h' hent hpre F' N' B' X' hlt hd hu post9 hPost
    obtain ⟨X', T', c1', c2', c3'⟩ := X'
    dsimp only [AllLt] at hlt
    try dsimp only
    try k_fold
    k_steps
    unfold Hold
    rename Fr _ _ _ _ => F8
    rename News _ _ _ _ => N8
    rename_i Y y1 lY y2 Z z1 lZ z2
    have hnY : AllNe Y (pr ++ tups) := AllNe.lt lY.2.2
    have hnZ : AllNe Z (pr ++ tups) := AllNe.lt lZ.2.2.2
    with_unfolding_all refine For_invVF F8 rfl rfl ?_
    k_steps
    unfold Hold
    rename Fr _ _ _ _ => F9
    rename News _ _ _ _ => N9
    refine iterJ_list (vs := us) (e := e) (J := fun i m news => E4 fun ys zs ey ez => A6 (news = (Z, W.listOf zs.toArray ez) :: (Y, W.listOf ys.toArray ey) :: (A, W.listOf us.toArray e) :: (f, ⟨oc, od, .func fd, sl⟩) :: (pr ++ tups)) (ys.length ≤ i) (zs.length ≤ i) (RowsIn tups ys ((rows.take i).filter ok)) (RowsIn tups zs ((rows.take i).filter fun d => !ok d)) (Knows m [(Str.ofString "no", .ref Z), (Str.ofString "yes", .ref Y), (Str.ofString "s", .ref A), (Str.ofString "predicate", .ref f)])) rfl F9 N9 (.tail _ (.tail _ (.head _))) ?_ ?_ ?_ ?_
    · rintro i m k ⟨ys, zs, ey, ez, rfl, _⟩
      exact .tail _ (.tail _ (.head _))
    · exact ⟨[], [], 0, 0, rfl, Nat.le_refl _, Nat.le_refl _, .nil, .nil, rfl, rfl, rfl, rfl, trivial⟩
    · rintro I i v m₁ news₁ h13 tk13 it hI hi hv ⟨ys, zs, ey, ez, rfl, hyl, hzl, hry, hrz, hkn⟩ F13 N13 hn13 K hK Q9 hQ s1 hs1
      have F14 := Fr.knows F13 hkn
      dsimp only [at_] at F14
      clear F13 F9 N9
      obtain ⟨d, hd9, htr⟩ := (Al.ofRows hr).get hv
      have hsy : ys.toArray.size ≤ sizeLine := by rw [sizeLine_eq, List.size_toArray]; omega
      have hsz : zs.toArray.size ≤ sizeLine := by rw [sizeLine_eq, List.size_toArray]; omega
      have hta : ∀ q : Nat × Int × Int → Bool, (rows.take (i + 1)).filter q = (rows.take i).filter q ++ [d].filter q := fun q => by
        rw [List.take_add_one, hd9, List.filter_append]; rfl
      have hCp := hp v d htr (List.mem_of_getElem? hd9)
      obtain ⟨q9, t1, t2, t3, rfl, hq9⟩ := htr
      have hZI := hn13.1
      have hYI := hn13.2.1
      k_steps
      unfold Hold
      refine hCp.use B' F14 N13 X' T' c1' c2' c3' rfl ?_ trivial (by dsimp only; omega) (by dsimp only; omega) ?_
      · exact sub_pick [4] 5 rfl
      rintro r1 h1 tk1 g1 rfl
      have F1 := g1.fr F14 (fun c hc => nomatch hc)
      have N1 := g1.news N13 (fun q hq h => nomatch h)
      clear F14 N13
      dsimp only
      cases hok : ok d with
      | true =>
        k_steps
        rename_i F16 N16
        refine TurnJ.nextA hK F16 N16 (.head _) (fun q hq => .tail _ hq) hn13 ⟨ys ++ [.ref q9], zs, ey + 1, ez, by rw [← List.push_toArray], by rw [List.length_append]; exact Nat.add_le_add_right hyl 1, Nat.le_succ_of_le hzl, ?_, ?_, rfl, rfl, rfl, rfl, trivial⟩
        · rw [hta, List.filter_cons_of_pos hok]
          exact hry.append (.cons ⟨q9, t1, t2, t3, rfl, hq9⟩ .nil)
        · rw [hta, List.filter_cons_of_neg (by rw [hok]; decide), List.filter_nil, List.append_nil]
          exact hrz
      | false =>
        k_steps
        rename_i F16 N16
        refine TurnJ.nextA hK F16 N16 (.head _) (fun q hq => .tail _ hq) hn13 ⟨ys, zs ++ [.ref q9], ey, ez + 1, by rw [← List.push_toArray], Nat.le_succ_of_le hyl, by rw [List.length_append]; exact Nat.add_le_add_right hzl 1, ?_, ?_, rfl, rfl, rfl, rfl, trivial⟩
        · rw [hta, List.filter_cons_of_neg (by rw [hok]; decide), List.filter_nil, List.append_nil]
          exact hry
        · rw [hta, List.filter_cons_of_pos (by rw [hok]; rfl)]
          exact hrz.append (.cons ⟨q9, t1, t2, t3, rfl, hq9⟩ .nil)
    · rintro m₁ news₁ h13 tk13 ⟨ys, zs, ey, ez, rfl, hyl, hzl, hry, hrz, hkn⟩ F13 N13
      have F14 := Fr.knows0 F13 hkn
      dsimp only [at_] at F14
      rw [(Al.ofRows hr).length, List.take_length] at hry hrz
      dsimp only
      k_steps
      rename_i TT t9 F16 N16 lT
      dsimp only [qk]
      refine Ret.ofA hPost (hent.grown F16 N16 (fun q hq => .inr (.tail _ (.tail _ (.tail _ hq))))) ⟨TT, Y, Z, ys, zs, ey, ez, rfl, hent.none N16 (.head _) ?_, hent.none N16 (.tail _ (.tail _ (.head _))) ?_, hent.none N16 (.tail _ (.head _)) ?_, (N16 _ (.head _)).1, (N16 _ (.tail _ (.tail _ (.head _)))).1, (N16 _ (.tail _ (.head _))).1, hry, hrz⟩
      · exact AllNe.at ⟨Nat.ne_of_lt lT.2.2.1, Nat.ne_of_lt lT.2.2.2.1, AllNe.lt lT.2.2.2.2⟩
      · exact AllNe.at ⟨Nat.ne_of_lt lY.1, Nat.ne_of_lt lY.2.1, hnY⟩
      · exact AllNe.at ⟨Nat.ne_of_lt lZ.2.1, Nat.ne_of_lt lZ.2.2.1, hnZ⟩
end
end Mine
end

local macro_rules | `(tactic| walk_at "call builtin:sum") => `(tactic| (k_here; (with_reducible show wpAny _ _ (call (Value.builtin "sum") [Value.ref _]) _ _ _); k_dflt (refine' Mine.sum_pick ?F ?N ?hh ?hl ?hi ?_; (case F => k_asm); (case N => k_asm); (case hh => rfl); (case hl => exact News.isList (by k_asm) (by k_mem)); (case hi => assumption); k_whole); intro h' tk' t' F' N'; (try k_sweep)))
section
open PySem PySem.W PyProof.Rows PySem.Calls PySem.Spec
set_option maxRecDepth 100000
set_option maxHeartbeats 2000000
namespace Mine
theorem fillK_L1 : PySem.Challenge.rw_ph0163_01 = PySem.Challenge.rw_ph0163_01 ∧ Mine.KF = Mine.KF := by
  w_top off
  (try (walk1; fail))
  k_fill
  exact ⟨rfl, rfl⟩
section
variable {prog : Program} {w : World} {p : Program} {loose : List Str} {mean : ExcName → Option Value} {mg mb : Str → Option Value}


theorem item_three {prog : Program} {w : World} {A : PySem.Around} {E : Value → Shared → Prop} {s : Shared} {value slice : PySem.Expr} {l : Addr} {a b c : Int} {ta tb tc : Tok} {k : Int} {u : Tok} {Q : Value → Shared → Prop} (hl : s.heap.IsList l #[.int a ta, .int b tb, .int c tc]) (h0 : 0 ≤ k) (h3 : k < 3)
    (h : ∀ t, Q (.int ([a, b, c].getD k.toNat 0) t) s) (hs : subscripted slice false (.ref l) (.int k u) = operate [.ref l, .int k u] (getItem (.ref l) (.int k u)) := by with_unfolding_all rfl) :
    wpAny (model prog w) A (subscriptTail value slice (.ref l) (.int k u)) Q E s := by
  refine kba_turn (value' := PySem.Expr.Name (PySem.Str.ofString "_") ⟨0, 0, 0, 0⟩) (fun _ => rfl) ?_
  rcases (show k = 0 ∨ k = 1 ∨ k = 2 by omega) with rfl | rfl | rfl
  · exact item_list hl (by decide) (by decide) rfl (h ta) hs (fun _ => rfl)
  · exact item_list hl (by decide) (by decide) rfl (h tb) hs (fun _ => rfl)
  · exact item_list hl (by decide) (by decide) rfl (h tc) hs (fun _ => rfl)
theorem lt_three {k n : Int} (h : k < 0 + ((n - 0).toNat : Int)) (hn : n ≤ 3) : k < 3 := by omega
local macro_rules | `(tactic| walk_at "subscriptTail") => `(tactic| (k_here; (with_reducible show wpAny _ _ (subscriptTail (PySem.Expr.List _ _) _ (Value.ref _) (Value.int _ _)) _ _ _); k_dflt (refine item_three (News.isList (by k_asm) (by k_mem)) (by first | assumption | omega) (by first | exact lt_three (by assumption) (by decide) | omega) ?_); intro t9))
theorem range_case {prog : Program} {w : World} {A : PySem.Around} {E : Value → Shared → Prop} {s : Shared} {Q : Value → Shared → Prop} {K : Int} {t : Tok} (hK : K = 1 ∨ K = 2 ∨ K = 3) (h1 : wpAny (model prog w) A (call (.type "range") [.int 1 t]) Q E s)
    (h2 : wpAny (model prog w) A (call (.type "range") [.int 2 t]) Q E s) (h3 : wpAny (model prog w) A (call (.type "range") [.int 3 t]) Q E s) : wpAny (model prog w) A (call (.type "range") [.int K t]) Q E s := by
  rcases hK with rfl | rfl | rfl
  · exact h1
  · exact h2
  · exact h3
theorem law_seg1 {body : List Stmt} {scope : Scope} {cdv : Value} (f : LawFn w body scope cdv) {R : Addr} {vs : List Value} {ns : List Int} (hI : IntsAre vs ns) (hn : ns.length ≤ 63)
    {dp un : Nat} {gd : Option (List Code)} {outer : List Env} {base g h₁ : Heap} {L fa : Addr} {m : Str → Option Value} {tk : Nat} {s : Shared} {Q : Flow → Shared → Prop} {E : Value → Shared → Prop} {o1 o2 o3 o4 : Obj}
    (d1 : o1.data = .cell (some (.ref R))) (d2 : o2.data = .cell none) (d3 : o3.data = .cell none) (d4 : o4.data = .cell none) (hR : g.IsList R vs.toArray) (F : Fr g L h₁ m)
    (N : News g L h₁ [(L + 1 + 1 + 1 + 1, o4), (L + 1 + 1 + 1, o3), (L + 1 + 1, o2), (L + 1, o1), (51, tabObj #[]), (44, tabObj #[]), (157, tabObj #[])]) (hl : @LT.lt Nat _ 51 L ∧ @LT.lt Nat _ 44 L ∧ @LT.lt Nat _ 157 L)
    (B : Below (lawTop dp un gd outer) base outer g) (X : (Mine.KF w.params).In g) (T : Top p loose mean mg mb g) (c1 : CodeHd g 55 51) (c2 : CodeHd g 48 44) (c3 : CodeHd g 159 157) (hd : dp + 60 < recursionLimit) (hu : un + 3000 < cLine)
    (cont : ∀ (D : Addr) (ys : List Value) (ms : List Int) (h : Heap) (tk : Nat), IntsAre ys ms → 1 ≤ ms.length → ms.length ≤ 3 → Fr g L h (fun z => if z = Str.ofString "sums" then some (.ref D) else m z) →
      News g L h [(D, LCg.lst ys), (L + 1 + 1 + 1 + 1, o4), (L + 1 + 1 + 1, o3), (L + 1 + 1, o2), (L + 1, o1), (51, tabObj #[]), (44, tabObj #[]), (157, tabObj #[])] →
      LCg.Off1 D [(L + 1 + 1 + 1 + 1, o4), (L + 1 + 1 + 1, o3), (L + 1 + 1, o2), (L + 1, o1), (51, tabObj #[]), (44, tabObj #[]), (157, tabObj #[])] →
      wpAny (model prog w) ((lawTop dp un gd outer).deeper (envOfC (Str.ofString "law") scope L fa cdv)) (execs (body.drop 1) (envOfC (Str.ofString "law") scope L fa cdv)) Q E { s with heap := h, toks := tk }) :
    wpAny (model prog w) ((lawTop dp un gd outer).deeper (envOfC (Str.ofString "law") scope L fa cdv)) (execs body (envOfC (Str.ofString "law") scope L fa cdv)) Q E { s with heap := h₁, toks := tk } := by
  revert cont
  refine' law_open (P := fun body scope cdv => (∀ (D : Addr) (ys : List Value) (ms : List Int) (h : Heap) (tk : Nat), IntsAre ys ms → 1 ≤ ms.length → ms.length ≤ 3 → Fr g L h (fun z => if z = Str.ofString "sums" then some (.ref D) else m z) →
      News g L h [(D, LCg.lst ys), (L + 1 + 1 + 1 + 1, o4), (L + 1 + 1 + 1, o3), (L + 1 + 1, o2), (L + 1, o1), (51, tabObj #[]), (44, tabObj #[]), (157, tabObj #[])] →
      LCg.Off1 D [(L + 1 + 1 + 1 + 1, o4), (L + 1 + 1 + 1, o3), (L + 1 + 1, o2), (L + 1, o1), (51, tabObj #[]), (44, tabObj #[]), (157, tabObj #[])] →
      wpAny (model prog w) ((lawTop dp un gd outer).deeper (envOfC (Str.ofString "law") scope L fa cdv)) (execs (body.drop 1) (envOfC (Str.ofString "law") scope L fa cdv)) Q E { s with heap := h, toks := tk }) → wpAny (model prog w) ((lawTop dp un gd outer).deeper (envOfC (Str.ofString "law") scope L fa cdv)) (execs body (envOfC (Str.ofString "law") scope L fa cdv)) Q E { s with heap := h₁, toks := tk }) f ?ho ?h
  case ho => k_dflt k_is
  case h =>
    intro cont
    try dsimp only
    try k_fold
    have hStop : (StopAt "call type:range") := .mk
    k_steps
    unfold Hold
    refine range_case (by (repeat' split) <;> omega) ?_ ?_ ?_
    all_goals have hStop : (StopRows 14) := .mk
    · k_steps
      unfold Hold
      rename_i hI8 hL8 D7 h7 tk7 F7 N7 o7
      refine cont D7 _ _ h7 tk7 hI8 ?_ ?_ F7 N7 (by simp only [LCg.Off1, and_true]; exact o7)
      · exact Nat.le_of_ble_eq_true rfl
      · exact Nat.le_of_ble_eq_true rfl
    · k_steps
      unfold Hold
      rename_i hI8 hL8 D7 h7 tk7 F7 N7 o7
      refine cont D7 _ _ h7 tk7 hI8 ?_ ?_ F7 N7 (by simp only [LCg.Off1, and_true]; exact o7)
      · exact Nat.le_of_ble_eq_true rfl
      · exact Nat.le_of_ble_eq_true rfl
    · k_steps
      unfold Hold
      rename_i hI8 hL8 D7 h7 tk7 F7 N7 o7
      refine cont D7 _ _ h7 tk7 hI8 ?_ ?_ F7 N7 (by simp only [LCg.Off1, and_true]; exact o7)
      · exact Nat.le_of_ble_eq_true rfl
      · exact Nat.le_of_ble_eq_true rfl
end
end Mine
end

section
open PySem PySem.W PyProof.Rows PySem.Calls PySem.Spec
set_option maxRecDepth 100000
set_option maxHeartbeats 2000000
namespace Mine
theorem fillK_L2 : PySem.Challenge.rw_ph0163_01 = PySem.Challenge.rw_ph0163_01 ∧ Mine.KF = Mine.KF := by
  w_top off
  (try (walk1; fail))
  k_fill
  exact ⟨rfl, rfl⟩
section
variable {prog : Program} {w : World} {p : Program} {loose : List Str} {mean : ExcName → Option Value} {mg mb : Str → Option Value}


theorem row_ok {ms : List Int} (h1 : 1 ≤ ms.length) (h3 : ms.length ≤ 3) : RowOk ([12] ++ ms.map (fun k' => if k'.fmod 2 = 1 then ((k'.fdiv 2).fmod 12 + 1) * -1 else ((k'.fdiv 2).fmod 12 + 1) * 1)) := by
  refine ⟨by simp; omega, by simp; omega, rfl, ?_⟩
  intro x hx
  rcases List.mem_append.mp hx with hx | hx
  · rw [List.mem_singleton.mp hx]; decide
  · obtain ⟨k, _, rfl⟩ := List.mem_map.mp hx
    have a := Int.fmod_nonneg_of_pos (k.fdiv 2) (show (0 : Int) < 12 by decide)
    have b := Int.fmod_lt_of_pos (k.fdiv 2) (show (0 : Int) < 12 by decide)
    split <;> omega
set_option maxHeartbeats 4000000 in
theorem law_seg2 {body : List Stmt} {scope : Scope} {cdv : Value} (f : LawFn w body scope cdv) {D : Addr} {ys : List Value} {ms : List Int} (hy : IntsAre ys ms) (hm1 : 1 ≤ ms.length) (hm3 : ms.length ≤ 3)
    {dp un : Nat} {gd : Option (List Code)} {outer : List Env} {base g h₁ : Heap} {L fa : Addr} {m : Str → Option Value} {tk : Nat} {s : Shared} {Q : Flow → Shared → Prop} {E : Value → Shared → Prop} {o1 o2 o3 o4 : Obj}
    (d4 : o4.data = .cell none) (F : Fr g L h₁ (fun z => if z = Str.ofString "sums" then some (.ref D) else m z))
    (N : News g L h₁ [(D, LCg.lst ys), (L + 1 + 1 + 1 + 1, o4), (L + 1 + 1 + 1, o3), (L + 1 + 1, o2), (L + 1, o1), (51, tabObj #[]), (44, tabObj #[]), (157, tabObj #[])])
    (hof : LCg.Off1 D [(L + 1 + 1 + 1 + 1, o4), (L + 1 + 1 + 1, o3), (L + 1 + 1, o2), (L + 1, o1), (51, tabObj #[]), (44, tabObj #[]), (157, tabObj #[])]) (hl : @LT.lt Nat _ 51 L ∧ @LT.lt Nat _ 44 L ∧ @LT.lt Nat _ 157 L)
    (B : Below (lawTop dp un gd outer) base outer g) (X : (Mine.KF w.params).In g) (T : Top p loose mean mg mb g) (c1 : CodeHd g 55 51) (c2 : CodeHd g 48 44) (c3 : CodeHd g 159 157) (hd : dp + 60 < recursionLimit) (hu : un + 3000 < cLine)
    (cont : ∀ (RW : Addr) (ws : List Value) (row : List Int) (h : Heap) (tk : Nat) (o4' : Obj) (m' : Str → Option Value), IntsAre ws row → RowOk row → o4'.data = .cell (some (.ref RW)) → Fr g L h m' →
      News g L h [(RW, W.listOf ws.toArray 0), (L + 1 + 1 + 1 + 1, o4'), (L + 1 + 1 + 1, o3), (L + 1 + 1, o2), (L + 1, o1), (51, tabObj #[]), (44, tabObj #[]), (157, tabObj #[])] →
      AllLt RW [(L + 1 + 1 + 1 + 1, o4'), (L + 1 + 1 + 1, o3), (L + 1 + 1, o2), (L + 1, o1), (51, tabObj #[]), (44, tabObj #[]), (157, tabObj #[])] →
      wpAny (model prog w) ((lawTop dp un gd outer).deeper (envOfC (Str.ofString "law") scope L fa cdv)) (execs (body.drop 2) (envOfC (Str.ofString "law") scope L fa cdv)) Q E { s with heap := h, toks := tk }) :
    wpAny (model prog w) ((lawTop dp un gd outer).deeper (envOfC (Str.ofString "law") scope L fa cdv)) (execs (body.drop 1) (envOfC (Str.ofString "law") scope L fa cdv)) Q E { s with heap := h₁, toks := tk } := by
  revert cont
  refine' law_open (P := fun body scope cdv => (∀ (RW : Addr) (ws : List Value) (row : List Int) (h : Heap) (tk : Nat) (o4' : Obj) (m' : Str → Option Value), IntsAre ws row → RowOk row → o4'.data = .cell (some (.ref RW)) → Fr g L h m' →
      News g L h [(RW, W.listOf ws.toArray 0), (L + 1 + 1 + 1 + 1, o4'), (L + 1 + 1 + 1, o3), (L + 1 + 1, o2), (L + 1, o1), (51, tabObj #[]), (44, tabObj #[]), (157, tabObj #[])] →
      AllLt RW [(L + 1 + 1 + 1 + 1, o4'), (L + 1 + 1 + 1, o3), (L + 1 + 1, o2), (L + 1, o1), (51, tabObj #[]), (44, tabObj #[]), (157, tabObj #[])] →
      wpAny (model prog w) ((lawTop dp un gd outer).deeper (envOfC (Str.ofString "law") scope L fa cdv)) (execs (body.drop 2) (envOfC (Str.ofString "law") scope L fa cdv)) Q E { s with heap := h, toks := tk }) → wpAny (model prog w) ((lawTop dp un gd outer).deeper (envOfC (Str.ofString "law") scope L fa cdv)) (execs (body.drop 1) (envOfC (Str.ofString "law") scope L fa cdv)) Q E { s with heap := h₁, toks := tk }) f ?ho ?h
  case ho => k_dflt k_is
  case h =>
    intro cont
    simp only [LCg.Off1, and_true] at hof
    dsimp only [List.drop]
    try k_fold
    have hStopL : (StopAt "eval ListComp") := .mk
    k_steps
    unfold Hold
    show wpAny _ _ (eval _ _) _ _ _
    have hStopI : (StopAt "ite") := .mk
    have hStopA : (StopAt "binaryOp Add ref ref") := .mk
    k_dflt (refine LCg.ListComp_U (F₀ := by k_asm) (by with_unfolding_all rfl) (by decide) (by rfl) (by decide) (by rfl) ?_)
    k_steps
    unfold Hold
    rename_i l2 h2 F2 nD l1 hkl g2 hI8 hL8 D7 h7 tk7 F7 N7 o7
    have N8 : News g L h7 [(D7, LCg.lst ys), (l2, W.listOf #[.int 12 tk] 0), (L + 1 + 1 + 1 + 1, o4), (L + 1 + 1 + 1, o3), (L + 1 + 1, o2), (L + 1, o1), (51, tabObj #[]), (44, tabObj #[]), (157, tabObj #[])] := pickN0 N7 [0, 1, 3, 4, 5, 6, 7, 8, 9] rfl
    have hD4 : @Ne Nat D7 (L + 1 + 1 + 1 + 1) := (o7.2.2.1).symm
    clear o7 hof N7 nD F2
    have hStop : (StopRows 13) := .mk
    k_steps
    unfold Hold
    rename_i RW ws h8 hIw lR h9 o9 F9 N9 d9
    refine cont RW ws _ _ _ o9 _ hIw (row_ok hm1 hm3) d9 F9 (fun q hq => N9 q ?_) ?_
    · exact sub_pick0 [0, 3, 4, 5, 6, 7, 8, 9] rfl _ hq
    · simp only [AllLt, and_true]
      exact ⟨lR.2.2.1, lR.2.2.2.1, lR.2.2.2.2.1, lR.2.2.2.2.2.1, lR.2.2.2.2.2.2.1, lR.2.2.2.2.2.2.2.1, lR.2.2.2.2.2.2.2.2⟩
end
end Mine
end

section
open PySem PySem.W PyProof.Rows PySem.Calls PySem.Spec
set_option maxRecDepth 100000
set_option maxHeartbeats 2000000
namespace Mine
theorem fillK_L3 : PySem.Challenge.rw_ph0163_01 = PySem.Challenge.rw_ph0163_01 ∧ Mine.KF = Mine.KF := by
  w_top off
  (try (walk1; fail))
  k_fill
  exact ⟨rfl, rfl⟩
section
variable {prog : Program} {w : World} {p : Program} {loose : List Str} {mean : ExcName → Option Value} {mg mb : Str → Option Value}


theorem gap_list (n : Int) : (Txt.mul (Str.ofString " ") n).cps.toList = List.replicate n.toNat 32 := by
  rw [show Str.ofString " " = ⟨#[32]⟩ from by decide +kernel]
  exact mul_one_list 32 n
theorem law_seg3 {body : List Stmt} {scope : Scope} {cdv : Value} (f : LawFn w body scope cdv) {R : Addr} {vs : List Value} {ns : List Int} (hI : IntsAre vs ns) (hn : ns.length ≤ 63) {RW : Addr} {ws : List Value} {row : List Int} (hw : IntsAre ws row)
    {dp un : Nat} {gd : Option (List Code)} {outer : List Env} {base g h₁ : Heap} {L fa : Addr} {m : Str → Option Value} {tk : Nat} {s : Shared} {Q : Flow → Shared → Prop} {E : Value → Shared → Prop} {o1 o2 o3 o4 : Obj}
    (d1 : o1.data = .cell (some (.ref R))) (hR : g.IsList R vs.toArray) (F : Fr g L h₁ m)
    (N : News g L h₁ [(RW, W.listOf ws.toArray 0), (L + 1 + 1 + 1 + 1, o4), (L + 1 + 1 + 1, o3), (L + 1 + 1, o2), (L + 1, o1), (51, tabObj #[]), (44, tabObj #[]), (157, tabObj #[])])
    (B : Below (lawTop dp un gd outer) base outer g) (X : (Mine.KF w.params).In g) (T : Top p loose mean mg mb g) (c1 : CodeHd g 55 51) (c2 : CodeHd g 48 44) (c3 : CodeHd g 159 157) (hd : dp + 60 < recursionLimit) (hu : un + 3000 < cLine)
    (cont : ∀ (gap : Str) (tg : Tok) (b : Nat) (h : Heap) (tk : Nat) (m' : Str → Option Value), gap.cps.toList = List.replicate b 32 → b ≤ 3 → Fr g L h (fun y => if y = Str.ofString "gap" then some (.str gap tg) else m' y) →
      News g L h [(RW, W.listOf ws.toArray 0), (L + 1 + 1 + 1 + 1, o4), (L + 1 + 1 + 1, o3), (L + 1 + 1, o2), (L + 1, o1), (51, tabObj #[]), (44, tabObj #[]), (157, tabObj #[])] →
      wpAny (model prog w) ((lawTop dp un gd outer).deeper (envOfC (Str.ofString "law") scope L fa cdv)) (execs (body.drop 3) (envOfC (Str.ofString "law") scope L fa cdv)) Q E { s with heap := h, toks := tk }) :
    wpAny (model prog w) ((lawTop dp un gd outer).deeper (envOfC (Str.ofString "law") scope L fa cdv)) (execs (body.drop 2) (envOfC (Str.ofString "law") scope L fa cdv)) Q E { s with heap := h₁, toks := tk } := by
  revert cont
  refine' law_open (P := fun body scope cdv => (∀ (gap : Str) (tg : Tok) (b : Nat) (h : Heap) (tk : Nat) (m' : Str → Option Value), gap.cps.toList = List.replicate b 32 → b ≤ 3 → Fr g L h (fun y => if y = Str.ofString "gap" then some (.str gap tg) else m' y) →
      News g L h [(RW, W.listOf ws.toArray 0), (L + 1 + 1 + 1 + 1, o4), (L + 1 + 1 + 1, o3), (L + 1 + 1, o2), (L + 1, o1), (51, tabObj #[]), (44, tabObj #[]), (157, tabObj #[])] →
      wpAny (model prog w) ((lawTop dp un gd outer).deeper (envOfC (Str.ofString "law") scope L fa cdv)) (execs (body.drop 3) (envOfC (Str.ofString "law") scope L fa cdv)) Q E { s with heap := h, toks := tk }) → wpAny (model prog w) ((lawTop dp un gd outer).deeper (envOfC (Str.ofString "law") scope L fa cdv)) (execs (body.drop 2) (envOfC (Str.ofString "law") scope L fa cdv)) Q E { s with heap := h₁, toks := tk }) f ?ho ?h
  case ho => k_dflt k_is
  case h =>
    intro cont
    dsimp only [List.drop]
    try k_fold
    have hStop : (StopRows 12) := .mk
    k_steps
    unfold Hold
    rename_i F9 N9
    refine cont _ _ (((List.take 63 ns).sum.fmod 4).toNat) _ _ _ (gap_list _) ?_ F9 (fun q hq => .tail _ hq |> N9 q)
    have b := Int.fmod_lt_of_pos (List.take 63 ns).sum (show (0 : Int) < 4 by decide)
    omega
end
end Mine
end

end
local macro_rules | `(tactic| k_all) => `(tactic| exact Mine.AllNe.at (by assumption))
local macro_rules | `(tactic| walk_at "callWith ref") => `(tactic| (k_here; k_dflt (refine' callWith_K ?k1 ?k2 ?_; (case k1 => k_asm); (case k2 => k_is); k_whole)))
section
open PySem PySem.W PyProof.Rows PySem.Calls PySem.Spec
set_option maxRecDepth 100000
set_option maxHeartbeats 2000000
namespace Mine
theorem fillK_L4 : PySem.Challenge.rw_ph0163_01 = PySem.Challenge.rw_ph0163_01 ∧ Mine.KF = Mine.KF := by
  w_top off
  (try (walk1; fail))
  k_fill
  exact ⟨rfl, rfl⟩
section
variable {prog : Program} {w : World} {p : Program} {loose : List Str} {mean : ExcName → Option Value} {mg mb : Str → Option Value}

theorem law_seg4 {body : List Stmt} {scope : Scope} {cdv : Value} (f : LawFn w body scope cdv) {RW : Addr} {ws : List Value} {row : List Int} (hw : IntsAre ws row) (hrow : RowOk row) {gap : Str} {tg : Tok} {b : Nat} (hgap : gap.cps.toList = List.replicate b 32) (hb : b ≤ 3)
    {dp un : Nat} {gd : Option (List Code)} {outer : List Env} {base g h₁ : Heap} {L fa : Addr} {m : Str → Option Value} {tk : Nat} {s : Shared} {Q : Flow → Shared → Prop} {E : Value → Shared → Prop} {o4 : Obj} {ts : List (Addr × Obj)}
    (d4 : o4.data = .cell (some (.ref RW))) (F₀ : Fr g L h₁ m) (hkn : Knows m [(Str.ofString "gap", .str gap tg)])
    (N : News g L h₁ ((RW, W.listOf ws.toArray 0) :: (L + 1 + 1 + 1 + 1, o4) :: ts))
    (B : Below (lawTop dp un gd outer) base outer g) (X : (Mine.KF w.params).In g) (T : Top p loose mean mg mb g) (c1 : CodeHd g 55 51) (c2 : CodeHd g 48 44) (c3 : CodeHd g 159 157) (hd : dp + 60 < recursionLimit) (hu : un + 3000 < cLine)
    (cont : ∀ (x dx D2 D1 : Addr) (u : Str) (tu tn tt tb a1 a2 a3 a4 a5 : Tok) (n : Nat) (sb : Bool) (cvs : List Value) (h : Heap) (tk : Nat) (m' : Str → Option Value), n = (rowText (row.map (fun k : Int => k.natAbs - 1))).length + b → sb = decide (((((row.map (fun k : Int => k.natAbs - 1)).foldl bump []).length : Nat) : Int) ≤ 1) → IntsAre cvs ((row.map (fun k : Int => k.natAbs - 1)).foldl bump []) → Fr g L h m' → Knows m' [(Str.ofString "gap", .str gap tg), (Str.ofString "one", .ref x)] →
      News g L h (wsNews w.params x dx D2 D1 u tu n row.length b tn tt tb sb a1 a2 a3 a4 a5 cvs ++ (RW, W.listOf ws.toArray 0) :: (L + 1 + 1 + 1 + 1, o4) :: ts) →
      AllNe x ((RW, W.listOf ws.toArray 0) :: (L + 1 + 1 + 1 + 1, o4) :: ts) → AllNe dx ((RW, W.listOf ws.toArray 0) :: (L + 1 + 1 + 1 + 1, o4) :: ts) → AllNe D2 ((RW, W.listOf ws.toArray 0) :: (L + 1 + 1 + 1 + 1, o4) :: ts) → AllNe D1 ((RW, W.listOf ws.toArray 0) :: (L + 1 + 1 + 1 + 1, o4) :: ts) →
      wpAny (model prog w) ((lawTop dp un gd outer).deeper (envOfC (Str.ofString "law") scope L fa cdv)) (execs (body.drop 4) (envOfC (Str.ofString "law") scope L fa cdv)) Q E { s with heap := h, toks := tk }) :
    wpAny (model prog w) ((lawTop dp un gd outer).deeper (envOfC (Str.ofString "law") scope L fa cdv)) (execs (body.drop 3) (envOfC (Str.ofString "law") scope L fa cdv)) Q E { s with heap := h₁, toks := tk } := by
  revert cont
  refine' law_open (P := fun body scope cdv => (∀ (x dx D2 D1 : Addr) (u : Str) (tu tn tt tb a1 a2 a3 a4 a5 : Tok) (n : Nat) (sb : Bool) (cvs : List Value) (h : Heap) (tk : Nat) (m' : Str → Option Value), n = (rowText (row.map (fun k : Int => k.natAbs - 1))).length + b → sb = decide (((((row.map (fun k : Int => k.natAbs - 1)).foldl bump []).length : Nat) : Int) ≤ 1) → IntsAre cvs ((row.map (fun k : Int => k.natAbs - 1)).foldl bump []) → Fr g L h m' → Knows m' [(Str.ofString "gap", .str gap tg), (Str.ofString "one", .ref x)] →
      News g L h (wsNews w.params x dx D2 D1 u tu n row.length b tn tt tb sb a1 a2 a3 a4 a5 cvs ++ (RW, W.listOf ws.toArray 0) :: (L + 1 + 1 + 1 + 1, o4) :: ts) →
      AllNe x ((RW, W.listOf ws.toArray 0) :: (L + 1 + 1 + 1 + 1, o4) :: ts) → AllNe dx ((RW, W.listOf ws.toArray 0) :: (L + 1 + 1 + 1 + 1, o4) :: ts) → AllNe D2 ((RW, W.listOf ws.toArray 0) :: (L + 1 + 1 + 1 + 1, o4) :: ts) → AllNe D1 ((RW, W.listOf ws.toArray 0) :: (L + 1 + 1 + 1 + 1, o4) :: ts) →
      wpAny (model prog w) ((lawTop dp un gd outer).deeper (envOfC (Str.ofString "law") scope L fa cdv)) (execs (body.drop 4) (envOfC (Str.ofString "law") scope L fa cdv)) Q E { s with heap := h, toks := tk }) → wpAny (model prog w) ((lawTop dp un gd outer).deeper (envOfC (Str.ofString "law") scope L fa cdv)) (execs (body.drop 3) (envOfC (Str.ofString "law") scope L fa cdv)) Q E { s with heap := h₁, toks := tk }) f ?ho ?h
  case ho => k_dflt k_is
  case h =>
    intro cont
    have F := Fr.knows0 F₀ hkn
    dsimp only [at_] at F
    clear F₀
    dsimp only [List.drop]
    try k_fold
    have hStopL : (StopAt "eval ListComp") := .mk
    k_steps
    unfold Hold
    show wpAny _ _ (eval _ _) _ _ _
    have hStop : (StopRows 11) := .mk
    k_dflt (refine LCg.ListComp_U (F₀ := by k_asm) (by with_unfolding_all rfl) (by decide) (by rfl) (by decide) (by rfl) ?_)
    walk1
    k_dflt (refine LCg.CompSrc.ledger (by rfl) (by k_asm) (by k_asm) (by k_mem) ?sz ?_)
    case sz =>
      rw [sizeLine_eq, List.size_toArray, hw.length]
      have := hrow.2.1
      omega
    intro g2
    k_dflt (refine kct_list (fun k => Txt.mul (Str.ofString " ") ((if k < 0 then -k else k) - 1) ++ Str.ofString "\t") hw ?_ ?_)
    · intro k t I oI C oC D m₂ ys h tk E' hk hC hx F N off ne mk
      have hk1 := hrow.2.2.2 k hk
      have hk2 : (if k < 0 then -k else k) - 1 ≤ 11 := by split <;> omega
      have hk3 : 0 ≤ (if k < 0 then -k else k) - 1 := by split <;> omega
      have hStopM : (StopAt "binaryOp Mult str int") := .mk
      k_steps
      unfold Hold
      generalize (if k < 0 then -k else k) = ka at *
      k_steps
      refine LCg.CompEnd.intro (by assumption) (by assumption) _ (fun q hq => hq) off (.inr ⟨_, .head _, rfl, _, rfl⟩) ?_
      exact kct_el rfl rfl rfl
    · unfold KPfDone
      intro ys hys hyl
      have hStopJ : (StopAt "call builtin:str.join") := .mk
      k_steps
      unfold Hold
      rename News _ _ _ _ => NJ
      rename Fr _ _ _ _ => FJ
      have hgd : ∀ k : Int, (Txt.mul (Str.ofString " ") ((if k < 0 then -k else k) - 1) ++ Str.ofString "\t").cps.toList = List.replicate ((fun k : Int => k.natAbs - 1) k) 32 ++ [9] := fun k => by
        rw [piece_list]
        congr 2
        dsimp only
        split <;> omega
      have hJT := join_list (fun k => Txt.mul (Str.ofString " ") ((if k < 0 then -k else k) - 1) ++ Str.ofString "\t") (fun k : Int => k.natAbs - 1) hgd row
      have hds : ∀ d ∈ row.map (fun k : Int => k.natAbs - 1), d ≤ 12 := fun d hd9 => by
        obtain ⟨k, hk, rfl⟩ := List.mem_map.mp hd9
        have := (hrow.2.2.2 k hk).2
        show k.natAbs - 1 ≤ 12; omega
      have hrl := hrow.2.1
      refine join_madeW (l := row) (g := fun k => Txt.mul (Str.ofString " ") ((if k < 0 then -k else k) - 1) ++ Str.ofString "\t") 13 (News.isList NJ (.head _)) (by rw [List.map_map]; exact hys) ?_ ?_ (by decide) ?_
      · intro k hk
        have h1 := congrArg List.length (hgd k)
        rw [List.length_append, List.length_replicate, Array.length_toList, List.length_singleton] at h1
        have h2 := hds _ (List.mem_map_of_mem hk)
        show (Txt.mul (Str.ofString " ") ((if k < 0 then -k else k) - 1) ++ Str.ofString "\t").cps.size ≤ 13
        rw [h1]
        exact Nat.succ_le_succ h2
      · omega
      intro tj kj
      have hJl : (Txt.join (Str.ofString "") (List.map (fun k => Txt.mul (Str.ofString " ") ((if k < 0 then -k else k) - 1) ++ Str.ofString "\t") row)).length ≤ 52 := by
        have h1 := congrArg List.length hJT
        rw [Array.length_toList] at h1
        have h2 := rowText_len _ hds
        rw [List.length_map] at h2
        show (Txt.join (Str.ofString "") (List.map (fun k => Txt.mul (Str.ofString " ") ((if k < 0 then -k else k) - 1) ++ Str.ofString "\t") row)).cps.size ≤ 52
        omega
      have hgl : gap.length ≤ 3 := by
        have := congrArg List.length hgap
        simp only [List.length_replicate, Array.length_toList] at this
        show gap.cps.size ≤ 3
        omega
      generalize Txt.join (Str.ofString "") (List.map (fun k => Txt.mul (Str.ofString " ") ((if k < 0 then -k else k) - 1) ++ Str.ofString "\t") row) = J at *
      k_steps
      unfold Hold
      have hlead := lead_list hJT hgap
      have hpl : (rowText (row.map (fun k : Int => k.natAbs - 1)) ++ List.replicate b 32).length ≤ 1000 := by
        have h2 := rowText_len _ hds
        rw [List.length_map] at h2
        rw [List.length_append, List.length_replicate]
        omega
      have N9 : News g L _ ((RW, W.listOf ws.toArray 0) :: (L + 1 + 1 + 1 + 1, o4) :: ts) := fun q hq => NJ q (.tail _ hq)
      refine ws_call hlead (fun c hc => ?_) hpl B FJ N9 X T c1 c2 c3 rfl (by dsimp only; omega) (by dsimp only; omega) ?_
      · rcases List.mem_append.mp hc with hc | hc
        · exact rowText_signs _ c hc
        · exact .inl (List.eq_of_mem_replicate hc)
      rw [ws_text, List.length_map]
      dsimp only
      intro x dx D2 D1 tn tt tb a1 a2 a3 a4 a5 cvs h8 tk8 F8 hi8 N8 n1 n2 n3 n4
      clear NJ FJ N9 N F
      dsimp only [wsNews, List.cons_append, List.nil_append] at N8
      k_steps
      unfold Hold
      rename Fr _ _ _ _ => F9
      rename News _ _ _ _ => N9
      exact cont x dx D2 D1 _ _ _ _ _ _ _ _ _ _ _ _ _ _ _ _ rfl rfl hi8 F9 ⟨rfl, rfl, trivial⟩ N9 n1 n2 n3 n4
end
end Mine
end

section
open PySem PySem.W PyProof.Rows PySem.Calls PySem.Spec
set_option maxRecDepth 100000
set_option maxHeartbeats 2000000
namespace Mine
theorem fillK_L5 : PySem.Challenge.rw_ph0163_01 = PySem.Challenge.rw_ph0163_01 ∧ Mine.KF = Mine.KF := by
  w_top off
  (try (walk1; fail))
  k_fill
  exact ⟨rfl, rfl⟩
section
variable {prog : Program} {w : World} {p : Program} {loose : List Str} {mean : ExcName → Option Value} {mg mb : Str → Option Value}

theorem law_seg5 {body : List Stmt} {scope : Scope} {cdv : Value} (f : LawFn w body scope cdv) {RW : Addr} {ws : List Value} {row : List Int} (hw : IntsAre ws row) (hrow : RowOk row) {gap : Str} {tg : Tok} {b : Nat} (hgap : gap.cps.toList = List.replicate b 32) (hb : b ≤ 3) {xo : Addr}
    {dp un : Nat} {gd : Option (List Code)} {outer : List Env} {base g h₁ : Heap} {L fa : Addr} {m : Str → Option Value} {tk : Nat} {s : Shared} {Q : Flow → Shared → Prop} {E : Value → Shared → Prop} {o4 : Obj} {ts : List (Addr × Obj)}
    (d4 : o4.data = .cell (some (.ref RW))) (F₀ : Fr g L h₁ m) (hkn : Knows m [(Str.ofString "gap", .str gap tg), (Str.ofString "one", .ref xo)])
    (N : News g L h₁ ((RW, W.listOf ws.toArray 0) :: (L + 1 + 1 + 1 + 1, o4) :: ts))
    (B : Below (lawTop dp un gd outer) base outer g) (X : (Mine.KF w.params).In g) (T : Top p loose mean mg mb g) (c1 : CodeHd g 55 51) (c2 : CodeHd g 48 44) (c3 : CodeHd g 159 157) (hd : dp + 60 < recursionLimit) (hu : un + 3000 < cLine)
    (cont : ∀ (x dx D2 D1 : Addr) (u : Str) (tu tn tt tb a1 a2 a3 a4 a5 : Tok) (n : Nat) (sb : Bool) (cvs : List Value) (h : Heap) (tk : Nat) (m' : Str → Option Value), n = (rowText (row.map (fun k : Int => k.natAbs))).length + b → sb = decide (((((row.map (fun k : Int => k.natAbs)).foldl bump []).length : Nat) : Int) ≤ 1) → IntsAre cvs ((row.map (fun k : Int => k.natAbs)).foldl bump []) → Fr g L h m' → Knows m' [(Str.ofString "gap", .str gap tg), (Str.ofString "one", .ref xo), (Str.ofString "other", .ref x)] →
      News g L h (wsNews w.params x dx D2 D1 u tu n row.length b tn tt tb sb a1 a2 a3 a4 a5 cvs ++ (RW, W.listOf ws.toArray 0) :: (L + 1 + 1 + 1 + 1, o4) :: ts) →
      AllNe x ((RW, W.listOf ws.toArray 0) :: (L + 1 + 1 + 1 + 1, o4) :: ts) → AllNe dx ((RW, W.listOf ws.toArray 0) :: (L + 1 + 1 + 1 + 1, o4) :: ts) → AllNe D2 ((RW, W.listOf ws.toArray 0) :: (L + 1 + 1 + 1 + 1, o4) :: ts) → AllNe D1 ((RW, W.listOf ws.toArray 0) :: (L + 1 + 1 + 1 + 1, o4) :: ts) →
      wpAny (model prog w) ((lawTop dp un gd outer).deeper (envOfC (Str.ofString "law") scope L fa cdv)) (execs (body.drop 5) (envOfC (Str.ofString "law") scope L fa cdv)) Q E { s with heap := h, toks := tk }) :
    wpAny (model prog w) ((lawTop dp un gd outer).deeper (envOfC (Str.ofString "law") scope L fa cdv)) (execs (body.drop 4) (envOfC (Str.ofString "law") scope L fa cdv)) Q E { s with heap := h₁, toks := tk } := by
  revert cont
  refine' law_open (P := fun body scope cdv => (∀ (x dx D2 D1 : Addr) (u : Str) (tu tn tt tb a1 a2 a3 a4 a5 : Tok) (n : Nat) (sb : Bool) (cvs : List Value) (h : Heap) (tk : Nat) (m' : Str → Option Value), n = (rowText (row.map (fun k : Int => k.natAbs))).length + b → sb = decide (((((row.map (fun k : Int => k.natAbs)).foldl bump []).length : Nat) : Int) ≤ 1) → IntsAre cvs ((row.map (fun k : Int => k.natAbs)).foldl bump []) → Fr g L h m' → Knows m' [(Str.ofString "gap", .str gap tg), (Str.ofString "one", .ref xo), (Str.ofString "other", .ref x)] →
      News g L h (wsNews w.params x dx D2 D1 u tu n row.length b tn tt tb sb a1 a2 a3 a4 a5 cvs ++ (RW, W.listOf ws.toArray 0) :: (L + 1 + 1 + 1 + 1, o4) :: ts) →
      AllNe x ((RW, W.listOf ws.toArray 0) :: (L + 1 + 1 + 1 + 1, o4) :: ts) → AllNe dx ((RW, W.listOf ws.toArray 0) :: (L + 1 + 1 + 1 + 1, o4) :: ts) → AllNe D2 ((RW, W.listOf ws.toArray 0) :: (L + 1 + 1 + 1 + 1, o4) :: ts) → AllNe D1 ((RW, W.listOf ws.toArray 0) :: (L + 1 + 1 + 1 + 1, o4) :: ts) →
      wpAny (model prog w) ((lawTop dp un gd outer).deeper (envOfC (Str.ofString "law") scope L fa cdv)) (execs (body.drop 5) (envOfC (Str.ofString "law") scope L fa cdv)) Q E { s with heap := h, toks := tk }) → wpAny (model prog w) ((lawTop dp un gd outer).deeper (envOfC (Str.ofString "law") scope L fa cdv)) (execs (body.drop 4) (envOfC (Str.ofString "law") scope L fa cdv)) Q E { s with heap := h₁, toks := tk }) f ?ho ?h
  case ho => k_dflt k_is
  case h =>
    intro cont
    have F := Fr.knows0 F₀ hkn
    dsimp only [at_] at F
    clear F₀
    dsimp only [List.drop]
    try k_fold
    have hStopL : (StopAt "eval ListComp") := .mk
    k_steps
    unfold Hold
    show wpAny _ _ (eval _ _) _ _ _
    have hStop : (StopRows 10) := .mk
    k_dflt (refine LCg.ListComp_U (F₀ := by k_asm) (by with_unfolding_all rfl) (by decide) (by rfl) (by decide) (by rfl) ?_)
    walk1
    k_dflt (refine LCg.CompSrc.ledger (by rfl) (by k_asm) (by k_asm) (by k_mem) ?sz ?_)
    case sz =>
      rw [sizeLine_eq, List.size_toArray, hw.length]
      have := hrow.2.1
      omega
    intro g2
    k_dflt (refine kct_list (fun k => Txt.mul (Str.ofString " ") (if k < 0 then -k else k) ++ Str.ofString "\t") hw ?_ ?_)
    · intro k t I oI C oC D m₂ ys h tk E' hk hC hx F N off ne mk
      have hk1 := hrow.2.2.2 k hk
      have hk2 : (if k < 0 then -k else k) ≤ 12 := by split <;> omega
      have hk3 : 0 ≤ (if k < 0 then -k else k) := by split <;> omega
      have hStopM : (StopAt "binaryOp Mult str int") := .mk
      k_steps
      unfold Hold
      generalize (if k < 0 then -k else k) = ka at *
      k_steps
      refine LCg.CompEnd.intro (by assumption) (by assumption) _ (fun q hq => hq) off (.inr ⟨_, .head _, rfl, _, rfl⟩) ?_
      exact kct_el rfl rfl rfl
    · unfold KPfDone
      intro ys hys hyl
      have hStopJ : (StopAt "call builtin:str.join") := .mk
      k_steps
      unfold Hold
      rename News _ _ _ _ => NJ
      rename Fr _ _ _ _ => FJ
      have hgd : ∀ k : Int, (Txt.mul (Str.ofString " ") (if k < 0 then -k else k) ++ Str.ofString "\t").cps.toList = List.replicate ((fun k : Int => k.natAbs) k) 32 ++ [9] := fun k => by
        rw [piece_list]
        congr 2
        dsimp only
        split <;> omega
      have hJT := join_list (fun k => Txt.mul (Str.ofString " ") (if k < 0 then -k else k) ++ Str.ofString "\t") (fun k : Int => k.natAbs) hgd row
      have hds : ∀ d ∈ row.map (fun k : Int => k.natAbs), d ≤ 12 := fun d hd9 => by
        obtain ⟨k, hk, rfl⟩ := List.mem_map.mp hd9
        have := (hrow.2.2.2 k hk).2
        show k.natAbs ≤ 12; omega
      have hrl := hrow.2.1
      refine join_madeW (l := row) (g := fun k => Txt.mul (Str.ofString " ") (if k < 0 then -k else k) ++ Str.ofString "\t") 13 (News.isList NJ (.head _)) (by rw [List.map_map]; exact hys) ?_ ?_ (by decide) ?_
      · intro k hk
        have h1 := congrArg List.length (hgd k)
        rw [List.length_append, List.length_replicate, Array.length_toList, List.length_singleton] at h1
        have h2 := hds _ (List.mem_map_of_mem hk)
        show (Txt.mul (Str.ofString " ") (if k < 0 then -k else k) ++ Str.ofString "\t").cps.size ≤ 13
        rw [h1]
        exact Nat.succ_le_succ h2
      · omega
      intro tj kj
      have hJl : (Txt.join (Str.ofString "") (List.map (fun k => Txt.mul (Str.ofString " ") (if k < 0 then -k else k) ++ Str.ofString "\t") row)).length ≤ 52 := by
        have h1 := congrArg List.length hJT
        rw [Array.length_toList] at h1
        have h2 := rowText_len _ hds
        rw [List.length_map] at h2
        show (Txt.join (Str.ofString "") (List.map (fun k => Txt.mul (Str.ofString " ") (if k < 0 then -k else k) ++ Str.ofString "\t") row)).cps.size ≤ 52
        omega
      have hgl : gap.length ≤ 3 := by
        have := congrArg List.length hgap
        simp only [List.length_replicate, Array.length_toList] at this
        show gap.cps.size ≤ 3
        omega
      generalize Txt.join (Str.ofString "") (List.map (fun k => Txt.mul (Str.ofString " ") (if k < 0 then -k else k) ++ Str.ofString "\t") row) = J at *
      k_steps
      unfold Hold
      have hlead := lead_list hJT hgap
      have hpl : (rowText (row.map (fun k : Int => k.natAbs)) ++ List.replicate b 32).length ≤ 1000 := by
        have h2 := rowText_len _ hds
        rw [List.length_map] at h2
        rw [List.length_append, List.length_replicate]
        omega
      have N9 : News g L _ ((RW, W.listOf ws.toArray 0) :: (L + 1 + 1 + 1 + 1, o4) :: ts) := fun q hq => NJ q (.tail _ hq)
      refine ws_call hlead (fun c hc => ?_) hpl B FJ N9 X T c1 c2 c3 rfl (by dsimp only; omega) (by dsimp only; omega) ?_
      · rcases List.mem_append.mp hc with hc | hc
        · exact rowText_signs _ c hc
        · exact .inl (List.eq_of_mem_replicate hc)
      rw [ws_text, List.length_map]
      dsimp only
      intro x dx D2 D1 tn tt tb a1 a2 a3 a4 a5 cvs h8 tk8 F8 hi8 N8 n1 n2 n3 n4
      clear NJ FJ N9 N F
      dsimp only [wsNews, List.cons_append, List.nil_append] at N8
      k_steps
      unfold Hold
      rename Fr _ _ _ _ => F9
      rename News _ _ _ _ => N9
      exact cont x dx D2 D1 _ _ _ _ _ _ _ _ _ _ _ _ _ _ _ _ rfl rfl hi8 F9 ⟨rfl, rfl, rfl, trivial⟩ N9 n1 n2 n3 n4
end
end Mine
end

section
open PySem PySem.W PyProof.Rows PySem.Calls PySem.Spec
set_option maxRecDepth 100000
set_option maxHeartbeats 2000000
namespace Mine
theorem fillK_L6 : PySem.Challenge.rw_ph0163_01 = PySem.Challenge.rw_ph0163_01 ∧ Mine.KF = Mine.KF := by
  w_top off
  (try (walk1; fail))
  k_fill
  exact ⟨rfl, rfl⟩
section
variable {prog : Program} {w : World} {p : Program} {loose : List Str} {mean : ExcName → Option Value} {mg mb : Str → Option Value}
theorem law_seg6 {body : List Stmt} {scope : Scope} {cdv : Value} (f : LawFn w body scope cdv) {x dx D2 D1 : Addr} {u : Str} {tu tn tt tb a1 a2 a3 a4 a5 : Tok} {n : Nat} {sb : Bool} {cvs : List Value} {x' dx' D2' D1' : Addr} {u' : Str} {tu' tn' tt' tb' a1' a2' a3' a4' a5' : Tok} {n' : Nat} {sb' : Bool} {cvs' : List Value} {row : List Int} (hrow : RowOk row) {gap : Str} {tg : Tok} {b : Nat} (hb : b ≤ 3) (hi : IntsAre cvs ((row.map (fun k : Int => k.natAbs - 1)).foldl bump [])) (hi' : IntsAre cvs' ((row.map (fun k : Int => k.natAbs)).foldl bump []))
    {dp un : Nat} {gd : Option (List Code)} {outer : List Env} {base g h₁ : Heap} {L fa : Addr} {m : Str → Option Value} {tk : Nat} {s : Shared} {Q : Flow → Shared → Prop} {E : Value → Shared → Prop} {ts : List (Addr × Obj)}
    (F₀ : Fr g L h₁ m) (hkn : Knows m [(Str.ofString "gap", .str gap tg), (Str.ofString "one", .ref x), (Str.ofString "other", .ref x')])
    (N : News g L h₁ (wsNews w.params x dx D2 D1 u tu n row.length b tn tt tb sb a1 a2 a3 a4 a5 cvs ++ (wsNews w.params x' dx' D2' D1' u' tu' n' row.length b tn' tt' tb' sb' a1' a2' a3' a4' a5' cvs' ++ ts)))
    (B : Below (lawTop dp un gd outer) base outer g) (X : (Mine.KF w.params).In g) (T : Top p loose mean mg mb g) (c1 : CodeHd g 55 51) (c2 : CodeHd g 48 44) (c3 : CodeHd g 159 157) (hd : dp + 200 < recursionLimit) (hu : un + 3000 < cLine)
    (cont0 : ∀ (A : Addr) (us : List Value) (e : Nat) (tups : List (Addr × Obj)) (h : Heap) (tk : Nat) (m' : Str → Option Value), RowsIn tups us (tabRows b (sizesOf row)) → Fr g L h m' → Knows m' [(Str.ofString "gap", .str gap tg), (Str.ofString "one", .ref x), (Str.ofString "other", .ref x'), (Str.ofString "table", .ref A)] → News g L h ((A, W.listOf us.toArray e) :: (tups ++ (wsNews w.params x dx D2 D1 u tu n row.length b tn tt tb sb a1 a2 a3 a4 a5 cvs ++ (wsNews w.params x' dx' D2' D1' u' tu' n' row.length b tn' tt' tb' sb' a1' a2' a3' a4' a5' cvs' ++ ts)))) → AllNe A (wsNews w.params x dx D2 D1 u tu n row.length b tn tt tb sb a1 a2 a3 a4 a5 cvs ++ (wsNews w.params x' dx' D2' D1' u' tu' n' row.length b tn' tt' tb' sb' a1' a2' a3' a4' a5' cvs' ++ ts)) → (∀ q ∈ tups, AllNe q.1 (wsNews w.params x dx D2 D1 u tu n row.length b tn tt tb sb a1 a2 a3 a4 a5 cvs ++ (wsNews w.params x' dx' D2' D1' u' tu' n' row.length b tn' tt' tb' sb' a1' a2' a3' a4' a5' cvs' ++ ts))) → wpAny (model prog w) ((lawTop dp un gd outer).deeper (envOfC (Str.ofString "law") scope L fa cdv)) (execs (body.drop 6) (envOfC (Str.ofString "law") scope L fa cdv)) Q E { s with heap := h, toks := tk })
    : wpAny (model prog w) ((lawTop dp un gd outer).deeper (envOfC (Str.ofString "law") scope L fa cdv)) (execs (body.drop 5) (envOfC (Str.ofString "law") scope L fa cdv)) Q E { s with heap := h₁, toks := tk } := by
  revert cont0
  refine' law_open (P := fun body scope cdv => (∀ (A : Addr) (us : List Value) (e : Nat) (tups : List (Addr × Obj)) (h : Heap) (tk : Nat) (m' : Str → Option Value), RowsIn tups us (tabRows b (sizesOf row)) → Fr g L h m' → Knows m' [(Str.ofString "gap", .str gap tg), (Str.ofString "one", .ref x), (Str.ofString "other", .ref x'), (Str.ofString "table", .ref A)] → News g L h ((A, W.listOf us.toArray e) :: (tups ++ (wsNews w.params x dx D2 D1 u tu n row.length b tn tt tb sb a1 a2 a3 a4 a5 cvs ++ (wsNews w.params x' dx' D2' D1' u' tu' n' row.length b tn' tt' tb' sb' a1' a2' a3' a4' a5' cvs' ++ ts)))) → AllNe A (wsNews w.params x dx D2 D1 u tu n row.length b tn tt tb sb a1 a2 a3 a4 a5 cvs ++ (wsNews w.params x' dx' D2' D1' u' tu' n' row.length b tn' tt' tb' sb' a1' a2' a3' a4' a5' cvs' ++ ts)) → (∀ q ∈ tups, AllNe q.1 (wsNews w.params x dx D2 D1 u tu n row.length b tn tt tb sb a1 a2 a3 a4 a5 cvs ++ (wsNews w.params x' dx' D2' D1' u' tu' n' row.length b tn' tt' tb' sb' a1' a2' a3' a4' a5' cvs' ++ ts))) → wpAny (model prog w) ((lawTop dp un gd outer).deeper (envOfC (Str.ofString "law") scope L fa cdv)) (execs (body.drop 6) (envOfC (Str.ofString "law") scope L fa cdv)) Q E { s with heap := h, toks := tk }) → wpAny (model prog w) ((lawTop dp un gd outer).deeper (envOfC (Str.ofString "law") scope L fa cdv)) (execs (body.drop 5) (envOfC (Str.ofString "law") scope L fa cdv)) Q E { s with heap := h₁, toks := tk }) f ?ho ?h
  case ho => k_dflt k_is
  case h =>
    intro cont0
    have F := Fr.knows0 F₀ hkn
    dsimp only [at_] at F
    clear F₀
    dsimp only [List.drop]
    try k_fold
    have hStop : (StopRows 9) := .mk
    dsimp only [wsNews, List.cons_append, List.nil_append] at N
    k_steps
    unfold Hold
    rename Fr _ _ _ _ => F8
    rename News _ _ _ _ => N8
    refine (wit_does (x := x) (dx := dx) (D2 := D2) (D1 := D1) (u := u) (tu := tu) (tn := tn) (tt := tt) (tb := tb) (a1 := a1) (a2 := a2) (a3 := a3) (a4 := a4) (a5 := a5) (n := n) (sb := sb) (nt := row.length) (x' := x') (dx' := dx') (D2' := D2') (D1' := D1') (u' := u') (tu' := tu') (tn' := tn') (tt' := tt') (tb' := tb') (a1' := a1') (a2' := a2') (a3' := a3') (a4' := a4') (a5' := a5') (n' := n') (sb' := sb') (nt' := row.length) hi (lead_bound _ (by rw [List.length_map]; exact hrow.2.1)) (one_len hrow) hi' (lead_bound _ (by rw [List.length_map]; exact hrow.2.1)) (other_len hrow) hb hb).use B F8 N8 X T c1 c2 c3 rfl ?_ trivial (by dsimp only; omega) (by dsimp only; omega) ?_
    · exact sub_pick0 [0,1,2,3,4,5,6,7] rfl
    rintro r9 h9 tk9 g9 ⟨A, us, e, tups, rfl, hA, hA', htu, hrows⟩
    dsimp only at g9 hA hA' htu
    rw [table_is hrow] at hrows
    have F9 := g9.fr F8 (fun c hc => nomatch hc)
    have N9 := news_addN F8 (g9.news N8 (fun q hq h => nomatch h)) hA hA'
    have hnA := news_neN N8 hA
    have N10 : News g L h9 ((A, W.listOf us.toArray e) :: (tups ++ (wsNews w.params x dx D2 D1 u tu n row.length b tn tt tb sb a1 a2 a3 a4 a5 cvs ++ (wsNews w.params x' dx' D2' D1' u' tu' n' row.length b tn' tt' tb' sb' a1' a2' a3' a4' a5' cvs' ++ ts)))) := fun q hq => by
      rcases List.mem_cons.mp hq with rfl | hq
      · exact N9 _ (.head _)
      · rcases List.mem_append.mp hq with hq | hq
        · exact ⟨(htu q hq).2, (fresh_none F8 (htu q hq).1).2, (fresh_none F8 (htu q hq).1).1⟩
        · exact N9 q (.tail _ hq)
    have hnt : ∀ q ∈ tups, AllNe q.1 (wsNews w.params x dx D2 D1 u tu n row.length b tn tt tb sb a1 a2 a3 a4 a5 cvs ++ (wsNews w.params x' dx' D2' D1' u' tu' n' row.length b tn' tt' tb' sb' a1' a2' a3' a4' a5' cvs' ++ ts)) := fun q hq => news_neN N8 (htu q hq).1
    clear N9 F8 N8
    try clear N
    try clear F
    dsimp only
    k_steps
    unfold Hold
    rename Fr _ _ _ _ => F11
    rename News _ _ _ _ => N11
    exact cont0 A us e tups _ _ _ hrows F11 ⟨rfl, rfl, rfl, rfl, trivial⟩ N11 hnA hnt
end
end Mine
end

section
open PySem PySem.W PyProof.Rows PySem.Calls PySem.Spec
set_option maxRecDepth 100000
set_option maxHeartbeats 2000000
namespace Mine
theorem fillK_L7 : PySem.Challenge.rw_ph0163_01 = PySem.Challenge.rw_ph0163_01 ∧ Mine.KF = Mine.KF := by
  w_top off
  (try (walk1; fail))
  k_fill
  exact ⟨rfl, rfl⟩
section
variable {prog : Program} {w : World} {p : Program} {loose : List Str} {mean : ExcName → Option Value} {mg mb : Str → Option Value}
local macro_rules | `(tactic| walk_at "exec For Name Call cons nil") => `(tactic| (k_here; refine hold_it ?_))
local macro_rules | `(tactic| walk_at "pyIter ref") => `(tactic| (k_here; refine hold_it ?_))
theorem allLt_right {a : Addr} : ∀ {l r : List (Addr × Obj)}, AllLt a (l ++ r) → AllLt a r
  | [], _, h => h
  | _ :: l, _, h => allLt_right (l := l) h.2
theorem law_seg7 {body : List Stmt} {scope : Scope} {cdv : Value} (f : LawFn w body scope cdv) {RW A x x' : Addr} {ws : List Value} {row : List Int} (hw : IntsAre ws row) (hrow : RowOk row) {gap : Str} {tg : Tok} {b : Nat} (hgap : gap.cps.toList = List.replicate b 32) (hb : b ≤ 3) {o3 o4 : Obj} {v3 : Option Value} (d4 : o4.data = .cell (some (.ref RW))) (d3 : o3.data = .cell v3)
    {dp un : Nat} {gd : Option (List Code)} {outer : List Env} {base g h₁ : Heap} {L fa : Addr} {m : Str → Option Value} {tk : Nat} {s : Shared} {Q : Flow → Shared → Prop} {ts : List (Addr × Obj)} (hnS : AllNe (L + 1 + 1 + 1) ((RW, W.listOf ws.toArray 0) :: (L + 1 + 1 + 1 + 1, o4) :: ts))
    (F₀ : Fr g L h₁ m) (hkn : Knows m [(Str.ofString "gap", .str gap tg), (Str.ofString "one", .ref x), (Str.ofString "other", .ref x'), (Str.ofString "table", .ref A)])
    (N : News g L h₁ ((RW, W.listOf ws.toArray 0) :: (L + 1 + 1 + 1 + 1, o4) :: (L + 1 + 1 + 1, o3) :: ts))
    (B : Below (lawTop dp un gd outer) base outer g) (X : (Mine.KF w.params).In g) (T : Top p loose mean mg mb g) (c1 : CodeHd g 55 51) (c2 : CodeHd g 48 44) (c3 : CodeHd g 159 157) (hd : dp + 200 < recursionLimit) (hu : un + 3000 < cLine)
    (cont0 : ∀ (D : Addr) (us : List Value) (e : Nat) (tups : List (Addr × Obj)) (o3' : Obj) (h : Heap) (tk : Nat) (m' : Str → Option Value), RowsIn tups us (dueRows b (sizesOf row) 12) → Fr g L h m' → Knows m' [(Str.ofString "gap", .str gap tg), (Str.ofString "one", .ref x), (Str.ofString "other", .ref x'), (Str.ofString "table", .ref A), (Str.ofString "due", .ref D)] → News g L h ((D, W.listOf us.toArray e) :: (L + 1 + 1 + 1, o3') :: (RW, W.listOf ws.toArray 0) :: (L + 1 + 1 + 1 + 1, o4) :: (tups ++ ts)) → AllNe D ((RW, W.listOf ws.toArray 0) :: (L + 1 + 1 + 1 + 1, o4) :: (L + 1 + 1 + 1, o3) :: ts) → (∀ q ∈ tups, AllNe q.1 ((RW, W.listOf ws.toArray 0) :: (L + 1 + 1 + 1 + 1, o4) :: (L + 1 + 1 + 1, o3) :: ts)) → wpAny (model prog w) ((lawTop dp un gd outer).deeper (envOfC (Str.ofString "law") scope L fa cdv)) (execs (body.drop 8) (envOfC (Str.ofString "law") scope L fa cdv)) Q (fun _ _ => False) { s with heap := h, toks := tk })
    : wpAny (model prog w) ((lawTop dp un gd outer).deeper (envOfC (Str.ofString "law") scope L fa cdv)) (execs (body.drop 6) (envOfC (Str.ofString "law") scope L fa cdv)) Q (fun _ _ => False) { s with heap := h₁, toks := tk } := by
  revert cont0
  refine' law_open (P := fun body scope cdv => (∀ (D : Addr) (us : List Value) (e : Nat) (tups : List (Addr × Obj)) (o3' : Obj) (h : Heap) (tk : Nat) (m' : Str → Option Value), RowsIn tups us (dueRows b (sizesOf row) 12) → Fr g L h m' → Knows m' [(Str.ofString "gap", .str gap tg), (Str.ofString "one", .ref x), (Str.ofString "other", .ref x'), (Str.ofString "table", .ref A), (Str.ofString "due", .ref D)] → News g L h ((D, W.listOf us.toArray e) :: (L + 1 + 1 + 1, o3') :: (RW, W.listOf ws.toArray 0) :: (L + 1 + 1 + 1 + 1, o4) :: (tups ++ ts)) → AllNe D ((RW, W.listOf ws.toArray 0) :: (L + 1 + 1 + 1 + 1, o4) :: (L + 1 + 1 + 1, o3) :: ts) → (∀ q ∈ tups, AllNe q.1 ((RW, W.listOf ws.toArray 0) :: (L + 1 + 1 + 1 + 1, o4) :: (L + 1 + 1 + 1, o3) :: ts)) → wpAny (model prog w) ((lawTop dp un gd outer).deeper (envOfC (Str.ofString "law") scope L fa cdv)) (execs (body.drop 8) (envOfC (Str.ofString "law") scope L fa cdv)) Q (fun _ _ => False) { s with heap := h, toks := tk }) → wpAny (model prog w) ((lawTop dp un gd outer).deeper (envOfC (Str.ofString "law") scope L fa cdv)) (execs (body.drop 6) (envOfC (Str.ofString "law") scope L fa cdv)) Q (fun _ _ => False) { s with heap := h₁, toks := tk }) f ?ho ?h
  case ho => k_dflt k_is
  case h =>
    intro cont0
    have F := Fr.knows0 F₀ hkn
    dsimp only [at_] at F
    clear F₀
    dsimp only [List.drop]
    try k_fold
    k_steps
    unfold Hold
    rename Fr _ _ _ _ => F8
    rename News _ _ _ _ => N8
    rename_i D h8 lD h9
    have FD := F8
    with_unfolding_all refine For_cell ?_
    k_steps
    unfold Hold
    rename IsRange _ _ _ _ _ _ _ _ => hrg
    rename Fr _ _ _ _ => F9
    rename News _ _ _ _ => N9
    have N9' : News g L _ ((L + 1 + 1 + 1, o3) :: (D, W.listOf #[] 0) :: (RW, W.listOf ws.toArray 0) :: (L + 1 + 1 + 1 + 1, o4) :: ts) := fun q hq => N9 q (by
      exact sub_pick [3, 0, 1, 2] 4 rfl _ hq)
    have hDS : @Ne Nat D (L + 1 + 1 + 1) := Nat.ne_of_gt lD.2.2.1
    refine iterC_range (c := L + 1 + 1 + 1) (n := 12) (J := fun i m news => E3 fun us e tups => A6 (news = (D, W.listOf us.toArray e) :: (RW, W.listOf ws.toArray 0) :: (L + 1 + 1 + 1 + 1, o4) :: (tups ++ ts)) (us.length = i) (RowsIn tups us (dueRows b (sizesOf row) i)) (AllNe D ((RW, W.listOf ws.toArray 0) :: (L + 1 + 1 + 1 + 1, o4) :: (tups ++ ts))) ((∀ q ∈ tups, AllNe q.1 ((RW, W.listOf ws.toArray 0) :: (L + 1 + 1 + 1 + 1, o4) :: (L + 1 + 1 + 1, o3) :: ts))) (Knows m [(Str.ofString "gap", .str gap tg), (Str.ofString "one", .ref x), (Str.ofString "other", .ref x'), (Str.ofString "table", .ref A), (Str.ofString "due", .ref D)])) rfl rfl rfl rfl (by passes_own) hrg (by decide) (by decide) F9 N9' d3 ⟨hDS, hnS⟩ ?_ ?_ ?_
    · exact ⟨[], _, [], rfl, rfl, .nil, ⟨Nat.ne_of_lt lD.1, Nat.ne_of_lt lD.2.1, AllNe.lt lD.2.2.2⟩, (fun q h => nomatch h), rfl, rfl, rfl, rfl, rfl, trivial⟩
    · rintro I i ti m₁ news₁ h13 tk13 it1 o3' hI hi1 ⟨us, e, tups, rfl, hus, hrows, hnD, hnt, hkn⟩ d3' F13 N13 hn13 hcI hn13S K hK Q9 hQ s1 hs1
      have F14 := Fr.knows0 F13 hkn
      dsimp only [at_] at F14
      rw [show (1 : Int) + (i : Int) = ((1 + i : Nat) : Int) by omega] at d3'
      have lI := news_lt N9 hI
      simp only [AllLt] at lI
      clear F13 F9 N9 N9'
      change Fr g L _ _ at F14
      change News g L _ _ at N13
      try clear F8
      try clear FD
      try clear N8
      have htn : ((1 + i : Nat) : Int) ≠ 0 := by omega
      have htp : (0 : Int) < ((1 + i : Nat) : Int) := by omega
      have hgl : gap.length = b := by
        have := congrArg List.length hgap
        simp only [List.length_replicate, Array.length_toList] at this
        exact this
      have hgl3 : gap.length ≤ 3 := by omega
      have hStopL : (StopAt "eval ListComp") := .mk
      have hStopM : (StopAt "binaryOp Mult int int") := .mk
      k_steps
      unfold Hold
      show wpAny _ _ (eval _ _) _ _ _
      obtain ⟨hsum, hsb⟩ := row_sum hrow (1 + i)
      have hdue : dueRow b (sizesOf row) (1 + i) = (1 + i, (b : Int) + ((1 + i : Nat) : Int) * ((List.map (fun d => d / (1 + i) + 1) (List.map (fun x => x - 1) (sizesOf row))).sum : Nat), (b : Int) + ((1 + i : Nat) : Int) * ((List.map (fun d => d / (1 + i) + 1) (List.map (fun x => x - 1) (sizesOf row))).sum : Nat) + ((1 + i : Nat) : Int) * (cntD (sizesOf row) (1 + i) : Nat)) := rfl
      k_dflt (refine LCg.ListComp_U (F₀ := by k_asm) (by with_unfolding_all rfl) (by decide) (by rfl) (by decide) (by rfl) ?_)
      walk1
      k_dflt (refine LCg.CompSrc.ledger (by rfl) (by k_asm) (by k_asm) (by k_mem) ?sz ?_)
      case sz =>
        rw [sizeLine_eq, List.size_toArray, hw.length]
        have := hrow.2.1
        omega
      intro g2
      k_dflt (refine kcf_list (fun k => ((if k < 0 then -k else k) - 1).fdiv ((1 + i : Nat) : Int) + 1) hw ?_ ?_)
      · intro k t I oI C oC D' m₂ ys h tk E' hk hC hx F N off ne mk
        k_steps
      · unfold KPfDone
        intro ys hys
        k_steps
        unfold Hold
        rename Fr _ _ _ _ => F15
        rename News _ _ _ _ => N15'
        have N15 : News g L _ ((I, it1) :: (L + 1 + 1 + 1, o3') :: (D, W.listOf us.toArray e) :: (RW, W.listOf ws.toArray 0) :: (L + 1 + 1 + 1 + 1, o4) :: (tups ++ ts)) := fun q hq => N15' q (.tail _ hq)
        clear N15' hys N13 F14
        rw [hsum, hgl]
        clear hsum
        generalize (List.map (fun d => d / (1 + i) + 1) (List.map (fun x => x - 1) (sizesOf row))).sum = Z at *
        have hStopL : (StopAt "eval ListComp") := .mk
        k_steps
        unfold Hold
        show wpAny _ _ (eval _ _) _ _ _
        k_dflt (refine LCt.ListComp_T (F₀ := by k_asm) (by with_unfolding_all rfl) (by decide) (by rfl) (by decide) (by rfl) ?_)
        walk1
        k_dflt (refine LCt.CompSrcT.ledger (by rfl) (by k_asm) (by k_asm) (by k_mem) ?sz ?_)
        case sz =>
          rw [sizeLine_eq, List.size_toArray, hw.length]
          have := hrow.2.1
          omega
        intro g3
        k_dflt (refine compT_keep (R := IntV) (as := row) (fun x => x.fmod ((1 + i : Nat) : Int) == 0) (Al.ofInts hw) ?_ ?_)
        · rintro v k I oI C oC D' m₂ ys h tk E' hk ⟨t, rfl⟩ hC hx F N off ne
          k_steps
          · rename_i hmod
            exact LCg.CompEnd.intro F N _ (fun q hq => hq) off (.inr ⟨_, .tail _ (.tail _ (.tail _ (.head _))), rfl, _, rfl⟩) ⟨rfl, rfl, beq_iff_eq.mpr hmod⟩
          · rename_i hmod
            exact LCg.CompEnd.intro F N _ (fun q hq => hq) off (.inr ⟨_, .tail _ (.tail _ (.tail _ (.head _))), rfl, _, rfl⟩) ⟨rfl, beq_eq_false_iff_ne.mpr hmod⟩
        · intro ys hys
          have hyl : ys.length = cntD (sizesOf row) (1 + i) := by rw [hys.length, row_count]
          have hcl := cntD_le (sizesOf row) (1 + i)
          rw [List.length_map] at hcl
          have hrl := hrow.2.1
          have hsz9 : us.toArray.size ≤ sizeLine := by rw [sizeLine_eq, List.size_toArray]; omega
          k_steps
          rename Fr _ _ _ _ => F16
          rename News _ _ _ _ => N16'
          refine kun_lenL (k := ((cntD (sizesOf row) (1 + i) : Nat) : Int)) (News.isList N16' (.head _)) (by rw [List.size_toArray, hyl]) (by omega) ?_
          have N16 : News g L _ ((I, it1) :: (L + 1 + 1 + 1, o3') :: (D, W.listOf us.toArray e) :: (RW, W.listOf ws.toArray 0) :: (L + 1 + 1 + 1 + 1, o4) :: (tups ++ ts)) := fun q hq => N16' q (.tail _ hq)
          clear N16' hys hyl
          generalize cntD (sizesOf row) (1 + i) = Y at *
          k_steps
          rename_i T hT1 lT hT2 F17 N17
          refine' TurnC.nextA hK F17 N17 (news' := _) (.tail _ (.head _)) (.tail _ (.tail _ (.head _))) ?_ ?_ ?_ ⟨us ++ [.ref T], e + 1, (T, tupObj [.int ((1 + i : Nat) : Int) _, .int ((b : Int) + ((1 + i : Nat) : Int) * Z) _, .int ((b : Int) + ((1 + i : Nat) : Int) * Z + ((1 + i : Nat) : Int) * Y) _]) :: tups, rfl, by rw [List.length_append, hus]; rfl, ?_, ?_, ?_, rfl, rfl, rfl, rfl, rfl, trivial⟩
          · intro q hq
            rcases List.mem_cons.mp hq with rfl | hq
            · rw [← List.push_toArray]
              exact .tail _ (.tail _ (.tail _ (.head _)))
            rcases List.mem_cons.mp hq with rfl | hq
            · exact .tail _ (.tail _ (.tail _ (.tail _ (.head _))))
            rcases List.mem_cons.mp hq with rfl | hq
            · exact .tail _ (.tail _ (.tail _ (.tail _ (.tail _ (.head _)))))
            rcases List.mem_cons.mp hq with rfl | hq
            · exact .head _
            exact sub_pick [] 6 rfl _ hq
          · exact ⟨hn13.1, hn13.2.1, hn13.2.2.1, Nat.ne_of_gt lT.1, hn13.2.2.2⟩
          · exact ⟨hn13S.1, hn13S.2.1, hn13S.2.2.1, Nat.ne_of_gt lT.2.1, hn13S.2.2.2⟩
          · rw [dueRows_succ, hdue]
            exact (hrows.mono fun q hq => .tail _ hq).append (.cons ⟨T, _, _, _, rfl, .head _⟩ .nil)
          · exact ⟨hnD.1, hnD.2.1, Nat.ne_of_gt lT.2.2.1, hnD.2.2⟩
          · intro q hq
            rcases List.mem_cons.mp hq with rfl | hq
            · exact ⟨Nat.ne_of_lt lT.2.2.2.1, Nat.ne_of_lt lT.2.2.2.2.1, Nat.ne_of_lt lT.2.1, AllNe.lt (allLt_right lT.2.2.2.2.2)⟩
            · exact hnt q hq
    · rintro m₁ news₁ h13 tk13 o3' ⟨us, e, tups, rfl, hus, hrows, hnD, hnt, hkn⟩ _ F13 N13 hn13S
      have F14 := Fr.knows0 F13 hkn
      dsimp only [at_] at F14
      change Fr g L _ _ at F14
      change News g L _ _ at N13
      have hStop : (StopRows 7) := .mk
      dsimp only
      k_steps
      unfold Hold
      exact cont0 D us e tups o3' h13 _ _ hrows F14 ⟨rfl, rfl, rfl, rfl, rfl, trivial⟩ (fun q hq => N13 q (by
        exact sub_pick [1, 0, 2, 3] 4 rfl _ hq)) ⟨Nat.ne_of_lt lD.1, Nat.ne_of_lt lD.2.1, Nat.ne_of_lt lD.2.2.1, AllNe.lt lD.2.2.2⟩ hnt
end
end Mine
end

section
open PySem PySem.W PyProof.Rows PySem.Calls PySem.Spec
set_option maxRecDepth 100000
set_option maxHeartbeats 2000000
namespace Mine
theorem fillK_L8 : PySem.Challenge.rw_ph0163_01 = PySem.Challenge.rw_ph0163_01 ∧ Mine.KF = Mine.KF := by
  w_top off
  (try (walk1; fail))
  k_fill
  exact ⟨rfl, rfl⟩
section
variable {prog : Program} {w : World} {p : Program} {loose : List Str} {mean : ExcName → Option Value} {mg mb : Str → Option Value}
theorem law_seg8 {body : List Stmt} {scope : Scope} {cdv : Value} (f : LawFn w body scope cdv) {A D x x' : Addr} {us us2 : List Value} {e e2 : Nat} {tups tups2 : List (Addr × Obj)} {row : List Int} {gap : Str} {tg : Tok} {b : Nat} (hr1 : RowsIn tups us (tabRows b (sizesOf row))) (hr2 : RowsIn tups2 us2 (dueRows b (sizesOf row) 12))
    {dp un : Nat} {gd : Option (List Code)} {outer : List Env} {base g h₁ : Heap} {L fa : Addr} {m : Str → Option Value} {tk : Nat} {s : Shared} {Q : Flow → Shared → Prop} {E : Value → Shared → Prop} {ts : List (Addr × Obj)}
    (F₀ : Fr g L h₁ m) (hkn : Knows m [(Str.ofString "gap", .str gap tg), (Str.ofString "one", .ref x), (Str.ofString "other", .ref x'), (Str.ofString "table", .ref A), (Str.ofString "due", .ref D)])
    (N : News g L h₁ ((A, W.listOf us.toArray e) :: (D, W.listOf us2.toArray e2) :: (tups ++ (tups2 ++ ts))))
    (B : Below (lawTop dp un gd outer) base outer g) (X : (Mine.KF w.params).In g) (T : Top p loose mean mg mb g) (c1 : CodeHd g 55 51) (c2 : CodeHd g 48 44) (c3 : CodeHd g 159 157) (hd : dp + 200 < recursionLimit) (hu : un + 3000 < cLine)
    (cont0 : ∀ (h : Heap) (tk : Nat) (m' : Str → Option Value), Fr g L h m' → Knows m' [(Str.ofString "one", .ref x), (Str.ofString "other", .ref x'), (Str.ofString "table", .ref A)] → News g L h ((A, W.listOf us.toArray e) :: (D, W.listOf us2.toArray e2) :: (tups ++ (tups2 ++ ts))) → wpAny (model prog w) ((lawTop dp un gd outer).deeper (envOfC (Str.ofString "law") scope L fa cdv)) (execs (body.drop 9) (envOfC (Str.ofString "law") scope L fa cdv)) Q E { s with heap := h, toks := tk })
    : wpAny (model prog w) ((lawTop dp un gd outer).deeper (envOfC (Str.ofString "law") scope L fa cdv)) (execs (body.drop 8) (envOfC (Str.ofString "law") scope L fa cdv)) Q E { s with heap := h₁, toks := tk } := by
  revert cont0
  refine' law_open (P := fun body scope cdv => (∀ (h : Heap) (tk : Nat) (m' : Str → Option Value), Fr g L h m' → Knows m' [(Str.ofString "one", .ref x), (Str.ofString "other", .ref x'), (Str.ofString "table", .ref A)] → News g L h ((A, W.listOf us.toArray e) :: (D, W.listOf us2.toArray e2) :: (tups ++ (tups2 ++ ts))) → wpAny (model prog w) ((lawTop dp un gd outer).deeper (envOfC (Str.ofString "law") scope L fa cdv)) (execs (body.drop 9) (envOfC (Str.ofString "law") scope L fa cdv)) Q E { s with heap := h, toks := tk }) → wpAny (model prog w) ((lawTop dp un gd outer).deeper (envOfC (Str.ofString "law") scope L fa cdv)) (execs (body.drop 8) (envOfC (Str.ofString "law") scope L fa cdv)) Q E { s with heap := h₁, toks := tk }) f ?ho ?h
  case ho => k_dflt k_is
  case h =>
    intro cont0
    have F := Fr.knows0 F₀ hkn
    dsimp only [at_] at F
    clear F₀
    dsimp only [List.drop]
    try k_fold
    have hStopL : (StopAt "eval ListComp") := .mk
    k_steps
    unfold Hold
    show wpAny _ _ (eval _ _) _ _ _
    k_dflt (refine LCt.ListComp_T (F₀ := by k_asm) (by with_unfolding_all rfl) (by decide) (by rfl) (by decide) (by rfl) ?_)
    walk1
    k_dflt (refine LCt.CompSrcT.ledger (by rfl) (by k_asm) (by k_asm) (by k_mem) ?sz ?_)
    case sz =>
      rw [sizeLine_eq, List.size_toArray, (Al.ofRows hr2).length]
      have : (dueRows b (sizesOf row) 12).length = 12 := by unfold dueRows; rw [List.length_map, List.length_range]
      omega
    intro g3
    k_dflt (refine compT_keep (R := TripIn tups2) (as := dueRows b (sizesOf row) 12) partsD (Al.ofRows hr2) ?_ ?_)
    · rintro v d I oI C oC D' m₂ ys h tk E' hk ⟨q, t1, t2, t3, rfl, hq⟩ hC hx F8 N8 off ne
      have N9 : News g L h ((q, tupObj [.int d.1 t1, .int d.2.1 t2, .int d.2.2 t3]) :: (I, oI) :: (C, oC) :: (D', LCg.lst ys) :: (A, W.listOf us.toArray e) :: (D, W.listOf us2.toArray e2) :: (tups ++ (tups2 ++ ts))) := fun p hp => by
        rcases List.mem_cons.mp hp with rfl | hp
        · exact N8 _ (.tail _ (.tail _ (.tail _ (.tail _ (.tail _ (List.mem_append_right _ (List.mem_append_left _ hq)))))))
        · exact N8 p hp
      clear N8
      k_steps
      · rename_i hmod
        exact LCg.CompEnd.intro F8 N9 _ (fun q hq => .tail _ hq) off (.inr ⟨_, .tail _ (.head _), rfl, _, rfl⟩) ⟨rfl, rfl, by unfold partsD; rw [beq_eq_false_iff_ne.mpr hmod]; rfl⟩
      · rename_i hmod
        exact LCg.CompEnd.intro F8 N9 _ (fun q hq => .tail _ hq) off (.inr ⟨_, .tail _ (.head _), rfl, _, rfl⟩) ⟨rfl, by unfold partsD; rw [beq_iff_eq.mpr (by first | exact hmod | exact Decidable.of_not_not hmod)]; rfl⟩
    · intro ys hys
      have hStopE : (StopAt "compareOp NotEq ref ref") := .mk
      k_steps
      unfold Hold
      rename News _ _ _ _ => N10
      rename Fr _ _ _ _ => F10
      have k1 : ∀ q ∈ tups, _ := fun q hq => (N10 q (.tail _ (.tail _ (.tail _ (List.mem_append_left _ hq))))).1
      have k2 : ∀ q ∈ tups2, _ := fun q hq => (N10 q (.tail _ (.tail _ (.tail _ (List.mem_append_right _ (List.mem_append_left _ hq)))))).1
      obtain ⟨as1, ra⟩ := list_reads (N10 (A, _) (.tail _ (.head _))).1 (hr1.at k1)
      obtain ⟨as2, rb⟩ := list_reads (N10 _ (.head _)).1 (hys.rows.at k2)
      refine ne_reads true ra rb (rowsDat_ok _) (rowsDat_ok _) ?_ ?_ ?_
      · ke_room
      · exact ⟨fun _ => rfl, fun _ => rfl⟩
      have N11 : News g L _ ((A, W.listOf us.toArray e) :: (D, W.listOf us2.toArray e2) :: (tups ++ (tups2 ++ ts))) := fun q hq => N10 q (.tail _ hq)
      have hStop : (StopRows 6) := .mk
      k_steps
      unfold Hold
      exact cont0 _ _ _ F10 ⟨rfl, rfl, rfl, trivial⟩ N11
end
end Mine
end

section
open PySem PySem.W PyProof.Rows PySem.Calls PySem.Spec
set_option maxRecDepth 100000
set_option maxHeartbeats 2000000
namespace Mine
theorem fillK_L9 : PySem.Challenge.rw_ph0163_01 = PySem.Challenge.rw_ph0163_01 ∧ Mine.KF = Mine.KF := by
  w_top off
  (try (walk1; fail))
  k_fill
  exact ⟨rfl, rfl⟩
section
variable {prog : Program} {w : World} {p : Program} {loose : List Str} {mean : ExcName → Option Value} {mg mb : Str → Option Value}
theorem lead_ne {row : List Int} (h : RowOk row) : (row.map (fun k : Int => k.natAbs - 1)).foldl bump [] ≠ (row.map (fun k : Int => k.natAbs)).foldl bump [] := fun e => by
  have h1 := one_len h
  rw [e, other_len h] at h1
  cases h1
theorem text_len : ∀ ds : List Nat, (rowText ds).length = ds.sum + ds.length
  | [] => rfl
  | d :: r => by
    rw [rowText_cons]
    simp only [List.length_append, List.length_replicate, List.length_cons, List.length_nil, List.sum_cons, text_len r]
    omega
theorem text_lt {row : List Int} (h : RowOk row) (b : Nat) : (rowText (row.map (fun k : Int => k.natAbs - 1))).length + b < (rowText (row.map (fun k : Int => k.natAbs))).length + b := by
  have key : ∀ l : List Int, (∀ x ∈ l, 1 ≤ x.natAbs) → (l.map (fun k : Int => k.natAbs)).sum = (l.map (fun k : Int => k.natAbs - 1)).sum + l.length := fun l => by
    induction l with
    | nil => intro _; rfl
    | cons x r ih =>
      intro hl
      have h1 := hl x (.head _)
      have h2 := ih fun y hy => hl y (.tail _ hy)
      simp only [List.map_cons, List.sum_cons, List.length_cons]
      omega
  have h1 := key row fun x hx => (h.2.2.2 x hx).1
  have h2 := h.1
  rw [text_len, text_len, List.length_map, List.length_map]
  omega
theorem law_seg9 {body : List Stmt} {scope : Scope} {cdv : Value} (f : LawFn w body scope cdv) {x dx D2 D1 : Addr} {u : Str} {tu tn tt tb a1 a2 a3 a4 a5 : Tok} {n : Nat} {cvs : List Value} {x' dx' D2' D1' : Addr} {u' : Str} {tu' tn' tt' tb' a1' a2' a3' a4' a5' : Tok} {n' : Nat} {sb' : Bool} {cvs' : List Value} {row : List Int} (hrow : RowOk row) {A : Addr} {b : Nat} (hb : b ≤ 3) (hi : IntsAre cvs ((row.map (fun k : Int => k.natAbs - 1)).foldl bump [])) (hi' : IntsAre cvs' ((row.map (fun k : Int => k.natAbs)).foldl bump [])) (hnn : n < n')
    {dp un : Nat} {gd : Option (List Code)} {outer : List Env} {base g h₁ : Heap} {L fa : Addr} {m : Str → Option Value} {tk : Nat} {s : Shared} {Q : Flow → Shared → Prop} {E : Value → Shared → Prop} {ts : List (Addr × Obj)}
    (F₀ : Fr g L h₁ m) (hkn : Knows m [(Str.ofString "one", .ref x), (Str.ofString "other", .ref x'), (Str.ofString "table", .ref A)])
    (N : News g L h₁ (wsNews w.params x dx D2 D1 u tu n row.length b tn tt tb false a1 a2 a3 a4 a5 cvs ++ (wsNews w.params x' dx' D2' D1' u' tu' n' row.length b tn' tt' tb' sb' a1' a2' a3' a4' a5' cvs' ++ ts)))
    (B : Below (lawTop dp un gd outer) base outer g) (X : (Mine.KF w.params).In g) (T : Top p loose mean mg mb g) (c1 : CodeHd g 55 51) (c2 : CodeHd g 48 44) (c3 : CodeHd g 159 157) (hd : dp + 200 < recursionLimit) (hu : un + 3000 < cLine)
    (cont0 : ∀ (h : Heap) (tk : Nat) (m' : Str → Option Value), Fr g L h m' → Knows m' [(Str.ofString "table", .ref A)] → News g L h (wsNews w.params x dx D2 D1 u tu n row.length b tn tt tb false a1 a2 a3 a4 a5 cvs ++ (wsNews w.params x' dx' D2' D1' u' tu' n' row.length b tn' tt' tb' sb' a1' a2' a3' a4' a5' cvs' ++ ts)) → wpAny (model prog w) ((lawTop dp un gd outer).deeper (envOfC (Str.ofString "law") scope L fa cdv)) (execs (body.drop 10) (envOfC (Str.ofString "law") scope L fa cdv)) Q E { s with heap := h, toks := tk })
    : wpAny (model prog w) ((lawTop dp un gd outer).deeper (envOfC (Str.ofString "law") scope L fa cdv)) (execs (body.drop 9) (envOfC (Str.ofString "law") scope L fa cdv)) Q E { s with heap := h₁, toks := tk } := by
  revert cont0
  refine' law_open (P := fun body scope cdv => (∀ (h : Heap) (tk : Nat) (m' : Str → Option Value), Fr g L h m' → Knows m' [(Str.ofString "table", .ref A)] → News g L h (wsNews w.params x dx D2 D1 u tu n row.length b tn tt tb false a1 a2 a3 a4 a5 cvs ++ (wsNews w.params x' dx' D2' D1' u' tu' n' row.length b tn' tt' tb' sb' a1' a2' a3' a4' a5' cvs' ++ ts)) → wpAny (model prog w) ((lawTop dp un gd outer).deeper (envOfC (Str.ofString "law") scope L fa cdv)) (execs (body.drop 10) (envOfC (Str.ofString "law") scope L fa cdv)) Q E { s with heap := h, toks := tk }) → wpAny (model prog w) ((lawTop dp un gd outer).deeper (envOfC (Str.ofString "law") scope L fa cdv)) (execs (body.drop 9) (envOfC (Str.ofString "law") scope L fa cdv)) Q E { s with heap := h₁, toks := tk }) f ?ho ?h
  case ho => k_dflt k_is
  case h =>
    intro cont0
    have F := Fr.knows0 F₀ hkn
    dsimp only [at_] at F
    clear F₀
    dsimp only [List.drop]
    try k_fold
    have hStop : (StopRows 5) := .mk
    dsimp only [wsNews, List.cons_append, List.nil_append] at N
    k_steps
    unfold Hold
    rename Fr _ _ _ _ => F8
    rename News _ _ _ _ => N8
    refine (equal_does (x := x) (dx := dx) (D2 := D2) (D1 := D1) (u := u) (tu := tu) (tn := tn) (tt := tt) (tb := tb) (a1 := a1) (a2 := a2) (a3 := a3) (a4 := a4) (a5 := a5) (n := n) (nt := row.length) (sb := false) (b := b) (cvs := cvs) (x' := x') (dx' := dx') (D2' := D2') (D1' := D1') (u' := u') (tu' := tu') (tn' := tn') (tt' := tt') (tb' := tb') (a1' := a1') (a2' := a2') (a3' := a3') (a4' := a4') (a5' := a5') (n' := n') (nt' := row.length) (sb' := sb') (b' := b) (cvs' := cvs') hi hi' (lead_ne hrow)).use B F8 N8 X T c1 c2 c3 rfl ?_ trivial (by dsimp only; omega) (by dsimp only; omega) ?_
    · exact sub_pick0 [0, 1, 2, 3, 4, 5, 6, 7] rfl
    rintro r1 h1 tk1 g1 rfl
    have F1 := g1.fr F8 (fun c hc => nomatch hc)
    have N1 := g1.news N8 (fun q hq h => nomatch h)
    clear F8 N8
    dsimp only
    k_steps
    unfold Hold
    refine (less_loop (x := x) (dx := dx) (D2 := D2) (D1 := D1) (u := u) (tu := tu) (tn := tn) (tt := tt) (tb := tb) (a1 := a1) (a2 := a2) (a3 := a3) (a4 := a4) (a5 := a5) (n := n) (nt := row.length) (sb := false) (b := b) (cvs := cvs) (x' := x') (dx' := dx') (D2' := D2') (D1' := D1') (u' := u') (tu' := tu') (tn' := tn') (tt' := tt') (tb' := tb') (a1' := a1') (a2' := a2') (a3' := a3') (a4' := a4') (a5' := a5') (n' := n') (nt' := row.length) (sb' := sb') (b' := b) (cvs' := cvs') hi (lead_bound _ (by rw [List.length_map]; exact hrow.2.1)) (one_len hrow) hi' (lead_bound _ (by rw [List.length_map]; exact hrow.2.1)) (other_len hrow) hb rfl rfl hnn).use B F1 N1 X T c1 c2 c3 rfl ?_ trivial (by dsimp only; omega) (by dsimp only; omega) ?_
    · exact sub_pick0 [0, 1, 2, 3, 4, 5, 6, 7] rfl
    rintro r2 h2 tk2 g2 rfl
    have F2 := g2.fr F1 (fun c hc => nomatch hc)
    have N2 := g2.news N1 (fun q hq h => nomatch h)
    clear F1 N1
    dsimp only
    k_steps
    unfold Hold
    refine (less_ge (cnt := (row.map (fun k : Int => k.natAbs)).foldl bump []) (cnt' := (row.map (fun k : Int => k.natAbs - 1)).foldl bump []) (x := x') (dx := dx') (D2 := D2') (D1 := D1') (u := u') (tu := tu') (tn := tn') (tt := tt') (tb := tb') (a1 := a1') (a2 := a2') (a3 := a3') (a4 := a4') (a5 := a5') (n := n') (nt := row.length) (sb := sb') (b := b) (cvs := cvs') (x' := x) (dx' := dx) (D2' := D2) (D1' := D1) (u' := u) (tu' := tu) (tn' := tn) (tt' := tt) (tb' := tb) (a1' := a1) (a2' := a2) (a3' := a3) (a4' := a4) (a5' := a5) (n' := n) (nt' := row.length) (sb' := false) (b' := b) (cvs' := cvs) (Nat.le_of_lt hnn)).use B F2 N2 X T c1 c2 c3 rfl ?_ trivial (by dsimp only; omega) (by dsimp only; omega) ?_
    · exact sub_pick0 [4, 5, 6, 7, 0, 1, 2, 3] rfl
    rintro r3 h3 tk3 g3 rfl
    have F3 := g3.fr F2 (fun c hc => nomatch hc)
    have N3 := g3.news N2 (fun q hq h => nomatch h)
    clear F2 N2
    dsimp only
    k_steps
    unfold Hold
    rename Fr _ _ _ _ => F11
    rename News _ _ _ _ => N11
    exact cont0 _ _ _ F11 ⟨rfl, trivial⟩ (fun q hq => N11 q (by
      exact sub_pick [2, 3, 4, 5, 6, 7, 8, 9] 10 rfl _ hq))
end
end Mine
end

section
open PySem PySem.W PyProof.Rows PySem.Calls PySem.Spec
set_option maxRecDepth 100000
set_option maxHeartbeats 2000000
namespace Mine
theorem fillK_L10 : PySem.Challenge.rw_ph0163_01 = PySem.Challenge.rw_ph0163_01 ∧ Mine.KF = Mine.KF := by
  w_top off
  (try (walk1; fail))
  k_fill
  exact ⟨rfl, rfl⟩
section
variable {prog : Program} {w : World} {p : Program} {loose : List Str} {mean : ExcName → Option Value} {mg mb : Str → Option Value}
local macro_rules | `(tactic| walk_at "last subscriptTail") => `(tactic| (k_here; refine hold_it ?_))
theorem news_tabR {h₀ h h' : Heap} {L c1 c2 d1 d2 : Addr} {m : Str → Option Value} {p44 p51 q44 q51 : Array Value} {oc1 oc2 od1 od2 : Obj} {pre post : List (Addr × Obj)} (F : Fr h₀ L h m) (g : Grown [44, 51] h h')
    (N : News h₀ L h (pre ++ (tabsL p44 p51 c1 oc1 c2 oc2 ++ post))) (hpre : AllNe 44 pre ∧ AllNe 51 pre) (hpost : AllNe 44 post ∧ AllNe 51 post)
    (hT1 : h'.get? 44 = some (tabObj q44)) (hC1 : h'.get? d1 = some od1) (r1 : (d1 = c1 ∧ od1 = oc1) ∨ (c1 = 44 ∧ h.objs.size ≤ d1))
    (hT2 : h'.get? 51 = some (tabObj q51)) (hC2 : h'.get? d2 = some od2) (r2 : (d2 = c2 ∧ od2 = oc2) ∨ (c2 = 51 ∧ h.objs.size ≤ d2)) :
    News h₀ L h' (pre ++ (tabsL q44 q51 d1 od1 d2 od2 ++ post)) := by
  have keep : ∀ l : List (Addr × Obj), (AllNe 44 l ∧ AllNe 51 l) → (∀ q ∈ l, h.get? q.1 = some q.2 ∧ q.1 ≠ L ∧ h₀.get? q.1 = none) → ∀ q ∈ l, h'.get? q.1 = some q.2 ∧ q.1 ≠ L ∧ h₀.get? q.1 = none := fun l hl hN q hq =>
    ⟨g _ _ (fun hm => by
      rcases List.mem_cons.mp hm with e | hm
      · exact hl.1.at q hq e
      · exact hl.2.at q hq (List.mem_singleton.mp hm)) (hN q hq).1, (hN q hq).2⟩
  have Nt := news_tabs F (fun q hq => N q (List.mem_append_right _ (List.mem_append_left _ hq))) hT1 hC1 r1 hT2 hC2 r2
  intro q hq
  rcases List.mem_append.mp hq with hq | hq
  · exact keep pre hpre (fun q hq => N q (List.mem_append_left _ hq)) q hq
  · rcases List.mem_append.mp hq with hq | hq
    · exact Nt q hq
    · exact keep post hpost (fun q hq => N q (List.mem_append_right _ (List.mem_append_right _ hq))) q hq
theorem row_small {row : List Int} (h : RowOk row) : Small row := fun x hx => by
  have h1 := h.2.2.2 x hx
  refine ⟨by omega, ?_⟩
  generalize x.natAbs = n at h1
  have : ∀ n : Nat, n < 13 → 1 ≤ n → n ∣ 27720 := by decide
  exact this n (by omega) h1.1
theorem foldl_len (f : List Nat → Nat → List Nat) (hf : ∀ L i, (f L i).length = L.length) : ∀ (l : List Nat) (L : List Nat), (l.foldl f L).length = L.length
  | [], _ => rfl
  | i :: r, L => by rw [List.foldl_cons, foldl_len f hf r, hf]
theorem sweepN_length (L : List Nat) : (sweepN L).length = L.length := foldl_len _ (fun L i => foldl_len _ (fun L k => pairN_length _ _ _) _ _) _ _
theorem law_seg10 {body : List Stmt} {scope : Scope} {cdv : Value} (f : LawFn w body scope cdv) {RW A : Addr} {ws : List Value} {row : List Int} (hw : IntsAre ws row) (hrow : RowOk row) {o4 : Obj} (d4 : o4.data = .cell (some (.ref RW)))
    {dp un : Nat} {gd : Option (List Code)} {outer : List Env} {base g h₁ : Heap} {L fa : Addr} {m : Str → Option Value} {tk : Nat} {s : Shared} {Q : Flow → Shared → Prop} {E : Value → Shared → Prop} {ts : List (Addr × Obj)} (hpre : AllNe 44 [(RW, W.listOf ws.toArray 0), (L + 1 + 1 + 1 + 1, o4)] ∧ AllNe 51 [(RW, W.listOf ws.toArray 0), (L + 1 + 1 + 1 + 1, o4)]) (hpost : AllNe 44 ts ∧ AllNe 51 ts)
    (F₀ : Fr g L h₁ m) (hkn : Knows m [(Str.ofString "table", .ref A)])
    (N : News g L h₁ ((RW, W.listOf ws.toArray 0) :: (L + 1 + 1 + 1 + 1, o4) :: (44, tabObj #[]) :: (51, tabObj #[]) :: ts))
    (B : Below (lawTop dp un gd outer) base outer g) (X : (Mine.KF w.params).In g) (T : Top p loose mean mg mb g) (c1 : CodeHd g 55 51) (c2 : CodeHd g 48 44) (c3 : CodeHd g 159 157) (hd : dp + 200 < recursionLimit) (hu : un + 3000 < cLine)
    (cont0 : ∀ (FC : Addr) (fs : List Value) (p44 p51 : Array Value) (k1 k2 : Addr) (oc1 oc2 : Obj) (h : Heap) (tk : Nat) (m' : Str → Option Value), IntsAre fs (0 :: ((sweepN (sizesOf row)).map Int.ofNat).reverse) → TabS 44 45 4 QA p44 k1 oc1 → TabS 51 60 4 QB p51 k2 oc2 → Fr g L h m' → Knows m' [(Str.ofString "table", .ref A), (Str.ofString "factors", .ref FC), (Str.ofString "left", .ref A)] → News g L h ((FC, W.listOf fs.toArray 0) :: (RW, W.listOf ws.toArray 0) :: (L + 1 + 1 + 1 + 1, o4) :: (tabsL p44 p51 k1 oc1 k2 oc2 ++ ts)) → AllNe FC ((RW, W.listOf ws.toArray 0) :: (L + 1 + 1 + 1 + 1, o4) :: (44, tabObj #[]) :: (51, tabObj #[]) :: ts) → AllNe k1 ts → AllNe k2 ts → wpAny (model prog w) ((lawTop dp un gd outer).deeper (envOfC (Str.ofString "law") scope L fa cdv)) (execs (body.drop 13) (envOfC (Str.ofString "law") scope L fa cdv)) Q E { s with heap := h, toks := tk })
    : wpAny (model prog w) ((lawTop dp un gd outer).deeper (envOfC (Str.ofString "law") scope L fa cdv)) (execs (body.drop 10) (envOfC (Str.ofString "law") scope L fa cdv)) Q E { s with heap := h₁, toks := tk } := by
  revert cont0
  refine' law_open (P := fun body scope cdv => (∀ (FC : Addr) (fs : List Value) (p44 p51 : Array Value) (k1 k2 : Addr) (oc1 oc2 : Obj) (h : Heap) (tk : Nat) (m' : Str → Option Value), IntsAre fs (0 :: ((sweepN (sizesOf row)).map Int.ofNat).reverse) → TabS 44 45 4 QA p44 k1 oc1 → TabS 51 60 4 QB p51 k2 oc2 → Fr g L h m' → Knows m' [(Str.ofString "table", .ref A), (Str.ofString "factors", .ref FC), (Str.ofString "left", .ref A)] → News g L h ((FC, W.listOf fs.toArray 0) :: (RW, W.listOf ws.toArray 0) :: (L + 1 + 1 + 1 + 1, o4) :: (tabsL p44 p51 k1 oc1 k2 oc2 ++ ts)) → AllNe FC ((RW, W.listOf ws.toArray 0) :: (L + 1 + 1 + 1 + 1, o4) :: (44, tabObj #[]) :: (51, tabObj #[]) :: ts) → AllNe k1 ts → AllNe k2 ts → wpAny (model prog w) ((lawTop dp un gd outer).deeper (envOfC (Str.ofString "law") scope L fa cdv)) (execs (body.drop 13) (envOfC (Str.ofString "law") scope L fa cdv)) Q E { s with heap := h, toks := tk }) → wpAny (model prog w) ((lawTop dp un gd outer).deeper (envOfC (Str.ofString "law") scope L fa cdv)) (execs (body.drop 10) (envOfC (Str.ofString "law") scope L fa cdv)) Q E { s with heap := h₁, toks := tk }) f ?ho ?h
  case ho => k_dflt k_is
  case h =>
    intro cont0
    have F := Fr.knows0 F₀ hkn
    dsimp only [at_] at F
    clear F₀
    dsimp only [List.drop]
    try k_fold
    have hStop : (StopRows 2) := .mk
    k_steps
    unfold Hold
    rename Fr _ _ _ _ => F8
    rename News _ _ _ _ => N8
    rename_i Z0 hZ lZ
    refine (law_swept_does (p44 := #[]) (p51 := #[]) (k1 := 44) (k2 := 51) (o1 := tabObj #[]) (o2 := tabObj #[]) (e := 0) hw hrow.2.1 (row_small hrow) (.inl ⟨rfl, rfl, rfl⟩) (.inl ⟨rfl, rfl, rfl⟩)).use B F8 N8 X T c1 c2 c3 rfl ?_ trivial (by dsimp only; omega) (by dsimp only; omega) ?_
    · exact sub_pick0 [1, 3, 4, 3, 4] rfl
    rintro r1 h1 tk1 g1 ⟨S, svs, e1, rfl, hS, hS', hi1, ⟨q44, k1, oc1, hT1, hC1, hs1, hr1⟩, ⟨q51, k2, oc2, hT2, hC2, hs2, hr2⟩⟩
    dsimp only at g1 hS hS' hT1 hC1 hr1 hT2 hC2 hr2
    have F1 := g1.fr2 F8 (N8 (44, _) (mem_nth 3 rfl)).2 (N8 (51, _) (mem_nth 4 rfl)).2
    have N1 : News g L h1 ((S, W.listOf svs.toArray e1) :: (Z0, W.listOf #[.int 0 tk] 0) :: (RW, W.listOf ws.toArray 0) :: (L + 1 + 1 + 1 + 1, o4) :: (tabsL q44 q51 k1 oc1 k2 oc2 ++ ts)) := news_addN F8 (news_tabR (pre := [(Z0, W.listOf #[.int 0 tk] 0), (RW, W.listOf ws.toArray 0), (L + 1 + 1 + 1 + 1, o4)]) (post := ts) F8 g1 (p44 := #[]) (p51 := #[]) (c1 := 44) (c2 := 51) (oc1 := tabObj #[]) (oc2 := tabObj #[]) (fun q hq => N8 q (by
        exact sub_pick [0, 1, 2, 3, 4, 3, 4] 5 rfl _ hq)) ⟨⟨Nat.ne_of_gt lZ.2.2.1, hpre.1⟩, ⟨Nat.ne_of_gt lZ.2.2.2.1, hpre.2⟩⟩ hpost hT1 hC1 hr1 hT2 hC2 hr2) hS hS'
    have hnS := news_neN N8 hS
    have hts8 : ∀ q ∈ ts, _ := fun q hq => (N8 q (.tail _ (.tail _ (.tail _ (.tail _ (.tail _ hq)))))).1
    clear F8 N8
    dsimp only [tabsL, List.cons_append, List.nil_append] at N1
    dsimp only
    k_steps
    unfold Hold
    rename Fr _ _ _ _ => F2
    rename News _ _ _ _ => N2
    refine kba_turn (value' := PySem.Expr.Name (PySem.Str.ofString "_") ⟨0, 0, 0, 0⟩) (fun _ => rfl) ?_
    refine krv_ints F2 N2 (News.isList N2 (.head _)) (IsPart.int _ _) hi1 ?_ (by with_unfolding_all rfl) (fun _ => rfl) ?_
    · intro V vs2 h3 F3 N3 l3 hi3 hl3
      have hll : (List.map Int.ofNat (sweepN (List.map Int.natAbs row))).length = row.length := by rw [List.length_map, sweepN_length, List.length_map]
      have hl4 := hl3.trans hll
      have hrl := hrow.2.1
      have hnV : AllNe V _ := AllNe.of fun p hp => Nat.ne_of_lt (l3 p hp)
      have hk1t := allNe_step hpost.1 hts8 hr1
      have hk2t := allNe_step hpost.2 hts8 hr2
      clear l3 hT1 hC1 hT2 hC2 hS hS' g1 hr1 hr2
      k_steps
      · unfold Hold
        rename_i FC fs h4 hi4 l4 h5 h6 h7 F5 N5
        refine cont0 FC fs q44 q51 k1 k2 oc1 oc2 _ _ _ hi4 hs1 hs2 F5 ⟨rfl, rfl, rfl, trivial⟩ (fun q hq => ?_) ?_ ?_ ?_
        · exact N5 q (by exact sub_pick [0, 4, 5, 6, 7, 8, 9] 10 rfl _ hq)
        · exact ⟨Nat.ne_of_lt l4.2.2.2.1, Nat.ne_of_lt l4.2.2.2.2.1, Nat.ne_of_lt l4.2.2.2.2.2.1, Nat.ne_of_lt l4.2.2.2.2.2.2.1, AllNe.lt l4.2.2.2.2.2.2.2.2.2⟩
        · exact hk1t
        · exact hk2t
    · have := hrow.2.1
      rw [sizeLine_eq, List.size_toArray, hi1.length, List.length_map, sweepN_length, List.length_map]
      omega
end
end Mine
end

section
open PySem PySem.W PyProof.Rows PySem.Calls PySem.Spec
namespace Mine
/-- the worth of the sizes that divide at least k of the numbers -/
noncomputable def worthN (ms : List Nat) (k n : Nat) : Nat := (List.range n).foldl (fun m i => if k ≤ cntD ms (1 + i) then m * primeOf (1 + i) else m) 1
noncomputable def chk (ms : List Nat) : Bool := (List.range ms.length).all fun k => worthN ms (k + 1) 12 == (sweepN ms).reverse.getD k 0
set_option maxRecDepth 100000
theorem chk1 : ((List.range 12).all fun a => chk [12, a + 1]) = true := by decide +kernel
theorem chk2 : ((List.range 12).all fun a => (List.range 12).all fun b => chk [12, a + 1, b + 1]) = true := by decide +kernel
theorem chk3_0 : ((List.range 12).all fun b => (List.range 12).all fun c => chk [12, 1, b + 1, c + 1]) = true := by decide +kernel
theorem chk3_1 : ((List.range 12).all fun b => (List.range 12).all fun c => chk [12, 2, b + 1, c + 1]) = true := by decide +kernel
theorem chk3_2 : ((List.range 12).all fun b => (List.range 12).all fun c => chk [12, 3, b + 1, c + 1]) = true := by decide +kernel
theorem chk3_3 : ((List.range 12).all fun b => (List.range 12).all fun c => chk [12, 4, b + 1, c + 1]) = true := by decide +kernel
theorem chk3_4 : ((List.range 12).all fun b => (List.range 12).all fun c => chk [12, 5, b + 1, c + 1]) = true := by decide +kernel
theorem chk3_5 : ((List.range 12).all fun b => (List.range 12).all fun c => chk [12, 6, b + 1, c + 1]) = true := by decide +kernel
theorem chk3_6 : ((List.range 12).all fun b => (List.range 12).all fun c => chk [12, 7, b + 1, c + 1]) = true := by decide +kernel
theorem chk3_7 : ((List.range 12).all fun b => (List.range 12).all fun c => chk [12, 8, b + 1, c + 1]) = true := by decide +kernel
theorem chk3_8 : ((List.range 12).all fun b => (List.range 12).all fun c => chk [12, 9, b + 1, c + 1]) = true := by decide +kernel
theorem chk3_9 : ((List.range 12).all fun b => (List.range 12).all fun c => chk [12, 10, b + 1, c + 1]) = true := by decide +kernel
theorem chk3_10 : ((List.range 12).all fun b => (List.range 12).all fun c => chk [12, 11, b + 1, c + 1]) = true := by decide +kernel
theorem chk3_11 : ((List.range 12).all fun b => (List.range 12).all fun c => chk [12, 12, b + 1, c + 1]) = true := by decide +kernel
theorem all_at {p : Nat → Bool} {n i : Nat} (h : ((List.range n).all p) = true) (hi : i < n) : p i = true := List.all_eq_true.mp h i (List.mem_range.mpr hi)
theorem chk3 : ∀ a b c : Nat, a < 12 → b < 12 → c < 12 → chk [12, a + 1, b + 1, c + 1] = true := by
  intro a b c ha hb hc
  have key : ∀ x : Nat, ((List.range 12).all fun b => (List.range 12).all fun c => chk [12, x, b + 1, c + 1]) = true → chk [12, x, b + 1, c + 1] = true := fun x h => all_at (all_at h hb) hc
  rcases Nat.lt_or_ge a 6 with h6 | h6
  · rcases Nat.lt_or_ge a 3 with h3 | h3
    · rcases (show a = 0 ∨ a = 1 ∨ a = 2 by omega) with rfl | rfl | rfl
      · exact key _ chk3_0
      · exact key _ chk3_1
      · exact key _ chk3_2
    · rcases (show a = 3 ∨ a = 4 ∨ a = 5 by omega) with rfl | rfl | rfl
      · exact key _ chk3_3
      · exact key _ chk3_4
      · exact key _ chk3_5
  · rcases Nat.lt_or_ge a 9 with h3 | h3
    · rcases (show a = 6 ∨ a = 7 ∨ a = 8 by omega) with rfl | rfl | rfl
      · exact key _ chk3_6
      · exact key _ chk3_7
      · exact key _ chk3_8
    · rcases (show a = 9 ∨ a = 10 ∨ a = 11 by omega) with rfl | rfl | rfl
      · exact key _ chk3_9
      · exact key _ chk3_10
      · exact key _ chk3_11
theorem chk_row {r : List Nat} (h : ∀ m ∈ r, 1 ≤ m ∧ m ≤ 12) (h1 : 1 ≤ r.length) (h3 : r.length ≤ 3) : chk (12 :: r) = true := by
  match r, h, h1, h3 with
  | [a], h, _, _ =>
    have ha := h a (by simp)
    have := all_at chk1 (i := a - 1) (by omega)
    rwa [show a - 1 + 1 = a by omega] at this
  | [a, b], h, _, _ =>
    have ha := h a (by simp)
    have hb := h b (by simp)
    have := all_at (all_at chk2 (i := a - 1) (by omega)) (i := b - 1) (by omega)
    rwa [show a - 1 + 1 = a by omega, show b - 1 + 1 = b by omega] at this
  | [a, b, c], h, _, _ =>
    have ha := h a (by simp)
    have hb := h b (by simp)
    have hc := h c (by simp)
    have := chk3 (a - 1) (b - 1) (c - 1) (by omega) (by omega) (by omega)
    rwa [show a - 1 + 1 = a by omega, show b - 1 + 1 = b by omega, show c - 1 + 1 = c by omega] at this
  | _ :: _ :: _ :: _ :: _, _, _, h3 => simp at h3
theorem worth_sweep {row : List Int} (h : RowOk row) {k : Nat} (hk : k < row.length) : worthN (sizesOf row) (k + 1) 12 = (sweepN (sizesOf row)).reverse.getD k 0 := by
  obtain ⟨r, e, _, hr, h1, h3⟩ := row_sizes h
  have hc := chk_row hr h1 h3
  rw [← e] at hc
  have := all_at hc (i := k) (by rw [List.length_map]; exact hk)
  exact beq_iff_eq.mp this
/-- a size stays at the k-th turn -/
noncomputable def okk (k : Nat) (d : Nat × Int × Int) : Bool := decide (d.2.2 - d.2.1 ≥ (k : Int) * (d.1 : Int))
noncomputable def lev (T : List (Nat × Int × Int)) : Nat → List (Nat × Int × Int)
  | 0 => T
  | i + 1 => (lev T i).filter (okk (i + 1))
theorem okk_down {k : Nat} {d : Nat × Int × Int} (h : okk (k + 1) d = true) : okk k d = true := by
  have h1 := of_decide_eq_true h
  refine decide_eq_true ?_
  rw [Int.natCast_add, Int.add_mul] at h1
  have : ((1 : Nat) : Int) * (d.1 : Int) = (d.1 : Int) := Int.one_mul _
  omega
theorem lev_succ (T : List (Nat × Int × Int)) : ∀ i, lev T (i + 1) = T.filter (okk (i + 1))
  | 0 => rfl
  | i + 1 => by
    show (lev T (i + 1)).filter (okk (i + 2)) = _
    rw [lev_succ T i, List.filter_filter]
    apply List.filter_congr
    intro d _
    cases h : okk (i + 2) d with
    | false => simp
    | true => rw [okk_down h]; rfl
theorem okk_due (b : Nat) (ms : List Nat) (k t : Nat) (ht : 1 ≤ t) : okk k (dueRow b ms t) = decide (k ≤ cntD ms t) := by
  unfold okk dueRow
  rw [decide_eq_decide]
  show endOf b (ms.map (· - 1)) t + (t : Int) * (cntD ms t : Nat) - endOf b (ms.map (· - 1)) t ≥ (k : Int) * (t : Int) ↔ _
  have e : endOf b (ms.map (· - 1)) t + (t : Int) * (cntD ms t : Nat) - endOf b (ms.map (· - 1)) t = (t : Int) * (cntD ms t : Nat) := by omega
  rw [e, Int.mul_comm (k : Int)]
  constructor
  · intro h
    have h2 := Int.le_of_mul_le_mul_left h (show (0 : Int) < t by omega)
    omega
  · intro h
    exact Int.mul_le_mul_of_nonneg_left (by omega) (by omega)
theorem parts_due (b : Nat) (ms : List Nat) (t : Nat) (ht : 1 ≤ t) (h : 1 ≤ cntD ms t) : partsD (dueRow b ms t) = true := by
  unfold partsD dueRow
  show (!(endOf b (ms.map (· - 1)) t == endOf b (ms.map (· - 1)) t + (t : Int) * (cntD ms t : Nat))) = true
  have : 0 < (t : Int) * (cntD ms t : Nat) := Int.mul_pos (by omega) (by omega)
  rw [beq_eq_false_iff_ne.mpr (by omega)]
  rfl
theorem due_get (b : Nat) (ms : List Nat) (n : Nat) {d : Nat × Int × Int} (h : d ∈ dueRows b ms n) : ∃ i, i < n ∧ d = dueRow b ms (1 + i) := by
  obtain ⟨i, hi, rfl⟩ := List.mem_map.mp h
  exact ⟨i, List.mem_range.mp hi, rfl⟩
theorem tab_filter (b : Nat) (ms : List Nat) (k : Nat) (hk : 1 ≤ k) : (tabRows b ms).filter (okk k) = (dueRows b ms 12).filter (okk k) := by
  unfold tabRows
  rw [List.filter_filter]
  apply List.filter_congr
  intro d hd
  obtain ⟨i, _, rfl⟩ := due_get b ms 12 hd
  cases h : okk k (dueRow b ms (1 + i)) with
  | false => rfl
  | true =>
    rw [okk_due b ms k (1 + i) (by omega)] at h
    have := of_decide_eq_true h
    rw [parts_due b ms (1 + i) (by omega) (by omega)]
    rfl
theorem worth_due (b : Nat) (ms : List Nat) (k : Nat) : ∀ n, worthOf ((dueRows b ms n).filter (okk k)) = worthN ms k n
  | 0 => rfl
  | n + 1 => by
    have ih := worth_due b ms k n
    unfold worthOf worthN at *
    rw [dueRows_succ, List.filter_append, List.foldl_append, ih, List.range_succ, List.foldl_append]
    generalize (List.range n).foldl (fun m i => if k ≤ cntD ms (1 + i) then m * primeOf (1 + i) else m) 1 = z
    have e := okk_due b ms k (1 + n) (by omega)
    by_cases hc : k ≤ cntD ms (1 + n)
    · rw [List.filter_cons_of_pos (by rw [e]; exact decide_eq_true hc)]
      show z * primeOf (1 + n) = if k ≤ cntD ms (1 + n) then z * primeOf (1 + n) else z
      rw [if_pos hc]
    · rw [List.filter_cons_of_neg (by rw [e, decide_eq_false hc]; decide)]
      show z = if k ≤ cntD ms (1 + n) then z * primeOf (1 + n) else z
      rw [if_neg hc]
/-- the worth of what is kept is the next factor -/
theorem kept_worth {row : List Int} (h : RowOk row) (b : Nat) {i : Nat} (hi : i < row.length) : worthOf (lev (tabRows b (sizesOf row)) (i + 1)) = (sweepN (sizesOf row)).reverse.getD i 0 := by
  rw [lev_succ, tab_filter b _ _ (by omega), worth_due, worth_sweep h hi]
theorem worth_foldl : ∀ (rows : List (Nat × Int × Int)) (z : Nat), rows.foldl (fun m d => m * primeOf d.1) z = z * worthOf rows
  | [], z => by show z = z * 1; omega
  | d :: r, z => by
    unfold worthOf
    rw [List.foldl_cons, List.foldl_cons, worth_foldl r, worth_foldl r, Nat.one_mul, Nat.mul_assoc]
theorem worth_cons (d : Nat × Int × Int) (r : List (Nat × Int × Int)) : worthOf (d :: r) = primeOf d.1 * worthOf r := by
  have : worthOf (d :: r) = r.foldl (fun m d => m * primeOf d.1) (1 * primeOf d.1) := rfl
  rw [this, worth_foldl, Nat.one_mul]
theorem worth_split (q : Nat × Int × Int → Bool) : ∀ rows : List (Nat × Int × Int), worthOf rows = worthOf (rows.filter q) * worthOf (rows.filter fun d => !q d)
  | [] => rfl
  | d :: r => by
    rw [worth_cons, worth_split q r]
    cases h : q d with
    | true =>
      rw [List.filter_cons_of_pos h, List.filter_cons_of_neg (by rw [h]; decide), worth_cons, Nat.mul_assoc]
    | false =>
      rw [List.filter_cons_of_neg (by rw [h]; decide), List.filter_cons_of_pos (by rw [h]; rfl), worth_cons, Nat.mul_left_comm]
theorem prime_pos : ∀ s : Nat, s < 13 → 1 ≤ s → 1 ≤ primeOf s := by decide +kernel
theorem worth_pos : ∀ {rows : List (Nat × Int × Int)}, (∀ d ∈ rows, 1 ≤ d.1 ∧ d.1 ≤ 12) → 1 ≤ worthOf rows
  | [], _ => Nat.le_refl _
  | d :: r, h => by
    rw [worth_cons]
    have h1 := h d (.head _)
    exact Nat.mul_le_mul (prime_pos d.1 (by omega) h1.1) (worth_pos fun x hx => h x (.tail _ hx))
theorem lev_sub (T : List (Nat × Int × Int)) : ∀ i, ∀ d ∈ lev T i, d ∈ T
  | 0, d, h => h
  | i + 1, d, h => lev_sub T i d (List.mem_filter.mp h).1
theorem tab_sizes (b : Nat) (ms : List Nat) : ∀ d ∈ tabRows b ms, 1 ≤ d.1 ∧ d.1 ≤ 12 := fun d hd => by
  obtain ⟨i, hi, rfl⟩ := due_get b ms 12 (List.mem_filter.mp hd).1
  show 1 ≤ 1 + i ∧ 1 + i ≤ 12
  omega
theorem tab_rising (b : Nat) (ms : List Nat) : Rising (tabRows b ms) := by
  refine List.Pairwise.filter _ ?_
  unfold dueRows
  rw [List.pairwise_map]
  exact List.Pairwise.imp (fun h => by show 1 + _ < 1 + _; omega) List.pairwise_lt_range
theorem lev_rising {T : List (Nat × Int × Int)} (h : Rising T) : ∀ i, Rising (lev T i)
  | 0 => h
  | i + 1 => List.Pairwise.filter _ (lev_rising h i)
theorem tab_len (b : Nat) (ms : List Nat) : (tabRows b ms).length ≤ 12 := by
  refine Nat.le_trans (List.length_filter_le _ _) ?_
  unfold dueRows
  rw [List.length_map, List.length_range]
  exact Nat.le_refl _
theorem lev_len {T : List (Nat × Int × Int)} : ∀ i, (lev T i).length ≤ T.length
  | 0 => Nat.le_refl _
  | i + 1 => Nat.le_trans (List.length_filter_le _ _) (lev_len i)
/-- no size divides more numbers than there are -/
theorem none_above (b : Nat) (ms : List Nat) : ∀ d ∈ tabRows b ms, ¬ d.2.2 - d.2.1 > (ms.length : Int) * (d.1 : Int) := fun d hd h => by
  obtain ⟨i, hi, rfl⟩ := due_get b ms 12 (List.mem_filter.mp hd).1
  have h1 : ((1 + i : Nat) : Int) * (cntD ms (1 + i) : Nat) ≤ ((1 + i : Nat) : Int) * (ms.length : Int) := Int.mul_le_mul_of_nonneg_left (by have := cntD_le ms (1 + i); omega) (by omega)
  rw [Int.mul_comm (ms.length : Int)] at h
  have h' : endOf b (ms.map (· - 1)) (1 + i) + ((1 + i : Nat) : Int) * (cntD ms (1 + i) : Nat) - endOf b (ms.map (· - 1)) (1 + i) > ((1 + i : Nat) : Int) * (ms.length : Int) := h
  omega
/-- the differences are small -/
theorem tab_small (b : Nat) (hb : b ≤ 3) {row : List Int} (hrow : RowOk row) : ∀ d ∈ tabRows b (sizesOf row), 0 ≤ d.2.1 ∧ d.2.1 ≤ 1000 ∧ 0 ≤ d.2.2 ∧ d.2.2 ≤ 1000 := fun d hd => by
  obtain ⟨i, hi, rfl⟩ := due_get b _ 12 (List.mem_filter.mp hd).1
  have h1 := (row_sum hrow (1 + i)).2
  have h2 := cntD_le (sizesOf row) (1 + i)
  rw [List.length_map] at h2
  have h3 := hrow.2.1
  have e1 : 0 ≤ endOf b ((sizesOf row).map (· - 1)) (1 + i) ∧ endOf b ((sizesOf row).map (· - 1)) (1 + i) ≤ 3 + 12 * 52 := by
    unfold endOf
    generalize (List.map (fun d => d / (1 + i) + 1) (List.map (fun x => x - 1) (sizesOf row))).sum = Z at *
    have := Int.mul_le_mul (show ((1 + i : Nat) : Int) ≤ 12 by omega) (show (Z : Int) ≤ 52 by omega) (by omega) (by omega)
    have := Int.mul_nonneg (show (0 : Int) ≤ ((1 + i : Nat) : Int) by omega) (show (0 : Int) ≤ (Z : Int) by omega)
    omega
  have e2 : 0 ≤ ((1 + i : Nat) : Int) * (cntD (sizesOf row) (1 + i) : Nat) ∧ ((1 + i : Nat) : Int) * (cntD (sizesOf row) (1 + i) : Nat) ≤ 12 * 4 := by
    have := Int.mul_le_mul (show ((1 + i : Nat) : Int) ≤ 12 by omega) (show ((cntD (sizesOf row) (1 + i) : Nat) : Int) ≤ 4 by omega) (by omega) (by omega)
    have := Int.mul_nonneg (show (0 : Int) ≤ ((1 + i : Nat) : Int) by omega) (show (0 : Int) ≤ ((cntD (sizesOf row) (1 + i) : Nat) : Int) by omega)
    omega
  show 0 ≤ endOf b ((sizesOf row).map (· - 1)) (1 + i) ∧ endOf b ((sizesOf row).map (· - 1)) (1 + i) ≤ 1000 ∧ 0 ≤ endOf b ((sizesOf row).map (· - 1)) (1 + i) + ((1 + i : Nat) : Int) * (cntD (sizesOf row) (1 + i) : Nat) ∧ endOf b ((sizesOf row).map (· - 1)) (1 + i) + ((1 + i : Nat) : Int) * (cntD (sizesOf row) (1 + i) : Nat) ≤ 1000
  omega
end Mine
end

section
open PySem PySem.W PyProof.Rows PySem.Calls PySem.Spec
namespace Mine
/-- the factor that the turn asks for -/
noncomputable def facN (row : List Int) (i : Nat) : Nat := (sweepN (sizesOf row)).reverse.getD i 0
theorem fac_get {row : List Int} (h : RowOk row) {fs : List Value} (hf : IntsAre fs (0 :: ((sweepN (sizesOf row)).map Int.ofNat).reverse)) {i : Nat} (hi : i < row.length) : ∃ t, fs[1 + i]? = some (.int (facN row i : Nat) t) := by
  refine hf.get (1 + i) _ ?_
  have hl : (sweepN (sizesOf row)).reverse.length = row.length := by rw [List.length_reverse, sweepN_length, List.length_map]
  rw [Nat.add_comm, List.getElem?_cons_succ, ← List.map_reverse, List.getElem?_map, List.getElem?_eq_getElem (by omega)]
  unfold facN
  rw [List.getD_eq_getElem?_getD, List.getElem?_eq_getElem (by omega)]
  rfl
theorem kept_fac {row : List Int} (h : RowOk row) (b : Nat) {i : Nat} (hi : i < row.length) : worthOf ((lev (tabRows b (sizesOf row)) i).filter (okk (1 + i))) = facN row i := by
  have := kept_worth h b hi
  rw [Nat.add_comm 1 i]
  exact this
theorem lev_worth_pos (b : Nat) (ms : List Nat) (i : Nat) : 1 ≤ worthOf (lev (tabRows b ms) i) := worth_pos fun d hd => tab_sizes b ms d (lev_sub _ i d hd)
theorem fac_pos {row : List Int} (h : RowOk row) {i : Nat} (hi : i < row.length) : 1 ≤ facN row i := by
  have := kept_worth h 0 hi
  have h2 := lev_worth_pos 0 (sizesOf row) (i + 1)
  rw [this] at h2
  exact h2
noncomputable def allP (n : Nat) : Nat := (List.range n).foldl (fun m i => m * primeOf (1 + i)) 1
theorem allP_le (ms : List Nat) (k : Nat) : ∀ n, n ≤ 12 → worthN ms k n ≤ allP n
  | 0, _ => Nat.le_refl _
  | n + 1, h => by
    have ih := allP_le ms k n (by omega)
    unfold worthN allP at *
    rw [List.range_succ, List.foldl_append, List.foldl_append]
    show (if k ≤ cntD ms (1 + n) then _ * primeOf (1 + n) else _) ≤ _ * primeOf (1 + n)
    have hp := prime_pos (1 + n) (by omega) (by omega)
    split
    · exact Nat.mul_le_mul_right _ ih
    · exact Nat.le_trans ih (Nat.le_mul_of_pos_right _ hp)
theorem fac_le {row : List Int} (h : RowOk row) {i : Nat} (hi : i < row.length) : facN row i ≤ 27720 := by
  have := allP_le (sizesOf row) (i + 1) 12 (Nat.le_refl _)
  rw [worth_sweep h hi] at this
  exact Nat.le_trans this (by decide +kernel)
/-- the factor before by the new one is the worth of what went -/
theorem fac_div {row : List Int} (h : RowOk row) (b : Nat) {i : Nat} (h1 : 1 ≤ i) (hi : i < row.length) :
    ((facN row (i - 1) : Nat) : Int).fdiv (facN row i : Nat) = (worthOf ((lev (tabRows b (sizesOf row)) i).filter fun d => !okk (1 + i) d) : Nat) ∧ ((facN row (i - 1) : Nat) : Int).fmod (facN row i : Nat) = 0 := by
  have e1 := kept_worth h b (i := i - 1) (by omega)
  rw [show i - 1 + 1 = i by omega] at e1
  have e2 := worth_split (okk (1 + i)) (lev (tabRows b (sizesOf row)) i)
  rw [e1, kept_fac h b hi] at e2
  have hp := fac_pos h hi
  rw [show (sweepN (sizesOf row)).reverse.getD (i - 1) 0 = facN row (i - 1) from rfl] at e2
  rw [e2, Int.natCast_mul]
  generalize worthOf ((lev (tabRows b (sizesOf row)) i).filter fun d => !okk (1 + i) d) = g
  generalize facN row i = f at *
  constructor
  · rw [Int.fdiv_eq_ediv_of_nonneg _ (by omega), Int.mul_ediv_cancel_left _ (by omega)]
  · rw [Int.fmod_eq_emod_of_nonneg _ (by omega), Int.mul_emod_right]
end Mine
end

local macro_rules | `(tactic| walk_at "eval Lambda") => `(tactic| (k_here; refine Mine.hold_it ?_))
section
open PySem PySem.W PyProof.Rows PySem.Calls PySem.Spec
set_option maxRecDepth 100000
set_option maxHeartbeats 2000000
namespace Mine
theorem fillK_L11 : PySem.Challenge.rw_ph0163_01 = PySem.Challenge.rw_ph0163_01 ∧ Mine.KF = Mine.KF := by
  w_top off
  (try (walk1; fail))
  k_fill
  exact ⟨rfl, rfl⟩
section
variable {prog : Program} {w : World} {p : Program} {loose : List Str} {mean : ExcName → Option Value} {mg mb : Str → Option Value}
local macro_rules | `(tactic| walk_at "exec For Name Call cons nil") => `(tactic| (k_here; refine hold_it ?_))
local macro_rules | `(tactic| walk_at "pyIter ref") => `(tactic| (k_here; refine hold_it ?_))
local macro_rules | `(tactic| walk_at "subscriptTail Name Name ref int") => `(tactic| (k_here; refine hold_it ?_))
local macro_rules | `(tactic| walk_at "subscriptTail Name BinOp ref int") => `(tactic| (k_here; refine hold_it ?_))
local macro_rules | `(tactic| walk_at "call builtin:sorted") => `(tactic| (k_here; refine hold_it ?_))
noncomputable abbrev QL : Str := (Str.ofString "law" ++ ".<locals>.") ++ "<lambda>"
/-- what holds between the turns of the law's last loop -/
structure LawSt (T : List (Nat × Int × Int)) (tups : List (Addr × Obj)) (L : Addr) (fs ws : List Value) (FC RW : Addr) (o4 : Obj) (i : Nat) (LL : Addr) (ls : List Value) (el : Nat) (pL : Array Value) (kL : Addr) (oL : Obj) (p44 p51 : Array Value) (k1 : Addr) (oc1 : Obj) (k2 : Addr) (oc2 : Obj) : Prop where
  rows : RowsIn tups ls (lev T i)
  tabL : TabS 157 197 39 QL pL kL oL
  tab1 : TabS 44 45 4 QA p44 k1 oc1
  tab2 : TabS 51 60 4 QB p51 k2 oc2
  n157 :  AllNe 157 ([(LL, W.listOf ls.toArray el), (FC, W.listOf fs.toArray 0), (RW, W.listOf ws.toArray 0), (L + 1 + 1 + 1 + 1, o4)] : List (Addr × Obj))
  k157 : @Ne Nat k1 157 ∧ @Ne Nat k2 157
  n44 : AllNe 44 ([(LL, W.listOf ls.toArray el), (FC, W.listOf fs.toArray 0), (RW, W.listOf ws.toArray 0), (L + 1 + 1 + 1 + 1, o4)] : List (Addr × Obj)) ∧ @Ne Nat kL 44
  n51 : AllNe 51 ([(LL, W.listOf ls.toArray el), (FC, W.listOf fs.toArray 0), (RW, W.listOf ws.toArray 0), (L + 1 + 1 + 1 + 1, o4)] : List (Addr × Obj)) ∧ @Ne Nat kL 51
theorem law_seg11 {body : List Stmt} {scope : Scope} {cdv : Value} (f : LawFn w body scope cdv) {A FC RW : Addr} {us fs ws : List Value} {e : Nat} {row : List Int} {b : Nat} {p44 p51 : Array Value} {k1 k2 : Addr} {oc1 oc2 : Obj} {tups : List (Addr × Obj)} {o4 o2 : Obj} {v2 : Option Value} (hw : IntsAre ws row) (hrow : RowOk row) (hb : b ≤ 3) (hf : IntsAre fs (0 :: ((sweepN (sizesOf row)).map Int.ofNat).reverse)) (d4 : o4.data = .cell (some (.ref RW))) (d2 : o2.data = .cell v2)
    {dp un : Nat} {gd : Option (List Code)} {outer : List Env} {base g h₁ : Heap} {L fa : Addr} {m : Str → Option Value} {tk : Nat} {s : Shared} {Q : Flow → Shared → Prop} {ts : List (Addr × Obj)} (hnK : AllNe (L + 1 + 1) ((A, W.listOf us.toArray e) :: (FC, W.listOf fs.toArray 0) :: (RW, W.listOf ws.toArray 0) :: (L + 1 + 1 + 1 + 1, o4) :: (157, tabObj #[]) :: (157, tabObj #[]) :: (tabsL p44 p51 k1 oc1 k2 oc2 ++ (tups ++ ts)))) (hst : LawSt (tabRows b (sizesOf row)) tups L fs ws FC RW o4 0 A us e #[] 157 (tabObj #[]) p44 p51 k1 oc1 k2 oc2) (hp157 : AllNe 157 (tups ++ ts)) (hp44 : AllNe 44 (tups ++ ts)) (hp51 : AllNe 51 (tups ++ ts))
    (F₀ : Fr g L h₁ m) (hkn : Knows m [(Str.ofString "factors", .ref FC), (Str.ofString "left", .ref A)])
    (N : News g L h₁ ((L + 1 + 1, o2) :: (A, W.listOf us.toArray e) :: (FC, W.listOf fs.toArray 0) :: (RW, W.listOf ws.toArray 0) :: (L + 1 + 1 + 1 + 1, o4) :: (157, tabObj #[]) :: (157, tabObj #[]) :: (tabsL p44 p51 k1 oc1 k2 oc2 ++ (tups ++ ts))))
    (B : Below (lawTop dp un gd outer) base outer g) (X : (Mine.KF w.params).In g) (T : Top p loose mean mg mb g) (c1 : CodeHd g 55 51) (c2 : CodeHd g 48 44) (c3 : CodeHd g 159 157) (hd : dp + 200 < recursionLimit) (hu : un + 3000 < cLine)
    (cont0 : ∀ (LL : Addr) (ls : List Value) (el : Nat) (pL : Array Value) (kL : Addr) (oL okc : Obj) (p44 p51 : Array Value) (k1 : Addr) (oc1 : Obj) (k2 : Addr) (oc2 : Obj) (h : Heap) (tk : Nat) (m' : Str → Option Value), LawSt (tabRows b (sizesOf row)) tups L fs ws FC RW o4 row.length LL ls el pL kL oL p44 p51 k1 oc1 k2 oc2 → Fr g L h m' → Knows m' [(Str.ofString "left", .ref LL)] → News g L h ((LL, W.listOf ls.toArray el) :: (FC, W.listOf fs.toArray 0) :: (RW, W.listOf ws.toArray 0) :: (L + 1 + 1 + 1 + 1, o4) :: (157, tabObj pL) :: (kL, oL) :: (tabsL p44 p51 k1 oc1 k2 oc2 ++ (tups ++ ts))) → wpAny (model prog w) ((lawTop dp un gd outer).deeper (envOfC (Str.ofString "law") scope L fa cdv)) (execs (body.drop 14) (envOfC (Str.ofString "law") scope L fa cdv)) Q (fun _ _ => False) { s with heap := h, toks := tk })
    : wpAny (model prog w) ((lawTop dp un gd outer).deeper (envOfC (Str.ofString "law") scope L fa cdv)) (execs (body.drop 13) (envOfC (Str.ofString "law") scope L fa cdv)) Q (fun _ _ => False) { s with heap := h₁, toks := tk } := by
  revert cont0
  refine' law_open (P := fun body scope cdv => (∀ (LL : Addr) (ls : List Value) (el : Nat) (pL : Array Value) (kL : Addr) (oL okc : Obj) (p44 p51 : Array Value) (k1 : Addr) (oc1 : Obj) (k2 : Addr) (oc2 : Obj) (h : Heap) (tk : Nat) (m' : Str → Option Value), LawSt (tabRows b (sizesOf row)) tups L fs ws FC RW o4 row.length LL ls el pL kL oL p44 p51 k1 oc1 k2 oc2 → Fr g L h m' → Knows m' [(Str.ofString "left", .ref LL)] → News g L h ((LL, W.listOf ls.toArray el) :: (FC, W.listOf fs.toArray 0) :: (RW, W.listOf ws.toArray 0) :: (L + 1 + 1 + 1 + 1, o4) :: (157, tabObj pL) :: (kL, oL) :: (tabsL p44 p51 k1 oc1 k2 oc2 ++ (tups ++ ts))) → wpAny (model prog w) ((lawTop dp un gd outer).deeper (envOfC (Str.ofString "law") scope L fa cdv)) (execs (body.drop 14) (envOfC (Str.ofString "law") scope L fa cdv)) Q (fun _ _ => False) { s with heap := h, toks := tk }) → wpAny (model prog w) ((lawTop dp un gd outer).deeper (envOfC (Str.ofString "law") scope L fa cdv)) (execs (body.drop 13) (envOfC (Str.ofString "law") scope L fa cdv)) Q (fun _ _ => False) { s with heap := h₁, toks := tk }) f ?ho ?h
  case ho => k_dflt k_is
  case h =>
    intro cont0
    have F := Fr.knows0 F₀ hkn
    dsimp only [at_] at F
    clear F₀
    dsimp only [List.drop]
    try k_fold
    k_steps
    unfold Hold
    rename Fr _ _ _ _ => F8
    rename News _ _ _ _ => N8
    have hrl := hrow.2.1
    have hr1 := hrow.1
    with_unfolding_all refine For_cell ?_
    k_steps
    unfold Hold
    rename IsRange _ _ _ _ _ _ _ _ => hrg
    rename Fr _ _ _ _ => F9
    rename News _ _ _ _ => N9
    refine iterC_range (c := L + 1 + 1) (n := row.length) (J := fun i m news => E12 fun (LL : Addr) (ls : List Value) (el : Nat) (pL : Array Value) (kL : Addr) (oL : Obj) (p44 p51 : Array Value) (k1 : Addr) (oc1 : Obj) (k2 : Addr) (oc2 : Obj) => A3 (news = (LL, W.listOf ls.toArray el) :: (FC, W.listOf fs.toArray 0) :: (RW, W.listOf ws.toArray 0) :: (L + 1 + 1 + 1 + 1, o4) :: (157, tabObj pL) :: (kL, oL) :: (tabsL p44 p51 k1 oc1 k2 oc2 ++ (tups ++ ts))) (LawSt (tabRows b (sizesOf row)) tups L fs ws FC RW o4 i LL ls el pL kL oL p44 p51 k1 oc1 k2 oc2) (Knows m [(Str.ofString "factors", .ref FC), (Str.ofString "left", .ref LL)])) rfl rfl rfl rfl (by passes_own) hrg (small_one (by omega) (by omega) (by omega) (by omega)) (by rw [rangeSize_nat]; omega) F9 N9 d2 hnK ?_ ?_ ?_
    · exact ⟨A, us, e, #[], 157, tabObj #[], p44, p51, k1, oc1, k2, oc2, rfl, hst, rfl, rfl, trivial⟩
    · rintro I i ti m₁ news₁ h13 tk13 it1 okc hI hi1 ⟨LL, ls, el, pL, kL, oL, p44, p51, k1, oc1, k2, oc2, rfl, hJ, hkn⟩ dkc F13 N13 hn13 hcI hn13K K hK Q9 hQ s1 hs1
      have F14 := Fr.knows0 F13 hkn
      dsimp only [at_] at F14
      change Fr g L _ _ at F14
      change News g L _ _ at N13
      rw [show (1 : Int) + (i : Int) = ((1 + i : Nat) : Int) by omega] at dkc
      try clear F13
      try clear F9
      try clear N9
      k_steps
      unfold Hold
      rename Fr _ _ _ _ => F15
      rename News _ _ _ _ => N15
      have N16 : News g L _ ((157, tabObj pL) :: (kL, oL) :: (I, it1) :: (L + 1 + 1, okc) :: (LL, W.listOf ls.toArray el) :: (FC, W.listOf fs.toArray 0) :: (RW, W.listOf ws.toArray 0) :: (L + 1 + 1 + 1 + 1, o4) :: (tabsL p44 p51 k1 oc1 k2 oc2 ++ (tups ++ ts))) := fun q hq => N15 q (by
        exact sub_pick [6, 7, 0, 1, 2, 3, 4, 5, 8, 9, 10, 11] 12 rfl _ hq)
      have hI157 := hn13.2.2.2.2.1
      have hK157 := hn13K.2.2.2.2.1
      have n157 : AllNe 157 ((I, it1) :: (L + 1 + 1, okc) :: (LL, W.listOf ls.toArray el) :: (FC, W.listOf fs.toArray 0) :: (RW, W.listOf ws.toArray 0) :: (L + 1 + 1 + 1 + 1, o4) :: (tabsL p44 p51 k1 oc1 k2 oc2 ++ (tups ++ ts))) := ⟨Ne.symm hI157, Ne.symm hK157, hJ.n157.1, hJ.n157.2.1, hJ.n157.2.2.1, hJ.n157.2.2.2.1, (show @Ne Nat 44 157 by decide), (show @Ne Nat 51 157 by decide), hJ.k157.1, hJ.k157.2, hp157⟩
      try clear N15
      show wpAny _ _ (eval _ _) _ _ _
      k_dflt (refine' kla_eval ?d0 ?_; (case d0 => exact rfl))
      k_dflt (refine lam_make (P := 157) (kc := kL) (koc := oL) (rest := (I, it1) :: (L + 1 + 1, okc) :: (LL, W.listOf ls.toArray el) :: (FC, W.listOf fs.toArray 0) :: (RW, W.listOf ws.toArray 0) :: (L + 1 + 1 + 1 + 1, o4) :: (tabsL p44 p51 k1 oc1 k2 oc2 ++ (tups ++ ts))) F15 N16 T c3 rfl hJ.tabL n157 rfl ?_)
      intro f1 c1' oc' ctv1 h1 tk1 F1 N1 hco hnf hf157 hfc hcc
      try clear F15
      try clear N16
      k_steps
      unfold Hold
      have hll : ls.length ≤ 12 := by
        rw [(Al.ofRows hJ.rows).length]
        exact Nat.le_trans (lev_len i) (tab_len _ _)
      refine (split_does (e := el) (pr := [(c1', oc'), (L + 1 + 1, okc)]) (tups := tups) (okk (1 + i)) hJ.rows hll ?hp).use B F1 N1 X T c1 c2 c3 rfl (sub2 (.tail _ (.tail _ (.tail _ (.tail _ (.tail _ (.head _)))))) (.head _) ?hsub) trivial ?hd1 ?hu1 ?hret
      case hsub =>
        exact sub_segs [[_], [_], [_], [_], [_], [_], [_], [_], [_], @tabsL _ _ _ _ _ _, tups, ts] [2, 4, 10] rfl rfl
      case hd1 => dsimp only; omega
      case hu1 => dsimp only; omega
      case hp =>
        rintro v d ⟨q, t1, t2, t3, rfl, hq⟩ hd9
        have hd8 := tab_sizes _ _ d (lev_sub _ i d hd9)
        have hd7 := tab_small b hb hrow d (lev_sub _ i d hd9)
        have hk7 : ((1 + i : Nat) : Int).natAbs ≤ 4 := by omega
        obtain ⟨vs9, t9, hv9, hv8⟩ := hco
        try clear F1
        try clear N1
        try clear hJ
        try clear n157
        try clear hn13
        try clear hn13K
        try clear hrg
        try clear hnK
        try clear hst
        try clear hp157
        try clear hp44
        try clear hp51
        try clear hkn
        try clear cont0
        refine' does_ofL (binds := [(Str.ofString "each", .ref q)]) ?ho ?hcd ?hbind ?hloc ?c1 ?c2 ?c3 ?c4 ?c5 ?walk
        case ho => exact .head _
        case hcd => exact fun h h0 L0 N0 => ⟨c1', oc', vs9, t9, rfl, (N0 (c1', oc') (.tail _ (.head _))).1, hv9, hv8⟩
        case hbind => exact rfl
        case hloc => exact locs rfl
        case c1 => exact rfl
        case c2 => exact rfl
        case c3 => exact rfl
        case c4 => decide
        case c5 => decide
        case walk =>
          intro dp7 un7 gd7 cn7 cs7 a7 ccd7 cl7 outer7 A7 base7 L7 s7 g7 L7' h7 hent hpre F7 N7 B7 X7 hlt7 hd6 hu6 post7 hPost7
          obtain ⟨X6, T6, c16, c26, c36⟩ := X7
          have N6 : News g7 L7' h7 ((q, tupObj [.int d.1 t1, .int d.2.1 t2, .int d.2.2 t3]) :: (L + 1 + 1, okc) :: []) := fun p hp => by
            simp only [List.mem_cons, List.not_mem_nil, or_false] at hp
            rcases hp with rfl | rfl
            · exact N7 _ (.tail _ (.tail _ (.tail _ hq)))
            · exact N7 _ (.tail _ (.tail _ (.head _)))
          try clear B
          try clear T
          try clear X
          try clear c1
          try clear c2
          try clear c3
          try dsimp only
          try k_fold
          k_steps
          exact Ret.ofA hPost7 (hent.grown F7 N7 (fun _ h => .inr h)) rfl
      case hret =>
        rintro r3 h3 tk3 g3 ⟨TU, Y, Z, ys, zs, ey, ez, rfl, hT0, hY0, hZ0, hT3, hY3, hZ3, hry, hrz⟩
        dsimp only at g3 hT0 hY0 hZ0 hT3 hY3 hZ3
        have F3 := g3.fr F1 (fun c hc => nomatch hc)
        have N3a := news_addN F1 (news_addN F1 (news_addN F1 (g3.news N1 (fun q hq h => nomatch h)) hZ0 hZ3) hY0 hY3) hT0 hT3
        have hnY := news_neN N1 hY0
        have hnZ := news_neN N1 hZ0
        have N3 : News g L h3 ((TU, tupObj [.ref Y, .ref Z]) :: (Y, W.listOf ys.toArray ey) :: (Z, W.listOf zs.toArray ez) :: (157, tabObj #[rawInt 197, rawInt 39, .ref c1']) :: (c1', oc') :: (I, it1) :: (L + 1 + 1, okc) :: (FC, W.listOf fs.toArray 0) :: (RW, W.listOf ws.toArray 0) :: (L + 1 + 1 + 1 + 1, o4) :: (tabsL p44 p51 k1 oc1 k2 oc2 ++ (tups ++ ts))) := fun q hq => N3a q (by
          exact sub_pick [0, 1, 2, 4, 5, 6, 7, 9, 10, 11, 12, 13, 14, 15] 16 rfl _ hq)
        have hyl : ys.length < 13 := by
          rw [(Al.ofRows hry).length]
          exact Nat.lt_succ_of_le (Nat.le_trans (List.length_filter_le _ _) (Nat.le_trans (lev_len i) (tab_len _ _)))
        have hzl : zs.length < 13 := by
          rw [(Al.ofRows hrz).length]
          exact Nat.lt_succ_of_le (Nat.le_trans (List.length_filter_le _ _) (Nat.le_trans (lev_len i) (tab_len _ _)))
        have hc4 : @Ne Nat c1' 44 ∧ @Ne Nat c1' 51 ∧ @Ne Nat c1' I ∧ @Ne Nat c1' (L + 1 + 1) := by
          rcases hcc with ⟨rfl, _⟩ | ⟨hcc, _⟩
          · exact ⟨hJ.n44.2, hJ.n51.2, hn13.2.2.2.2.2.1, hn13K.2.2.2.2.2.1⟩
          · exact ⟨Ne.symm hcc.2.2.2.2.2.2.1, Ne.symm hcc.2.2.2.2.2.2.2.1, Ne.symm hcc.1, Ne.symm hcc.2.1⟩
        have hri := lev_rising (tab_rising b (sizesOf row)) i
        try clear N3a
        try clear F1
        try clear N1
        try clear g3
        try clear hT0
        try clear hT3
        try clear hY0
        try clear hY3
        try clear hZ0
        try clear hZ3
        dsimp only
        k_steps
        unfold Hold
        rename Fr _ _ _ _ => F4
        rename News _ _ _ _ => N4
        refine sorted_up F4 N4 (News.isList N4 (by k_mem)) hyl (hry.mono fun q hq => ?_) (List.Pairwise.filter _ hri) ?_
        · exact .tail _ (.tail _ (.tail _ (.tail _ (.tail _ (.tail _ (.tail _ (.tail _ (.tail _ (.tail _ (List.mem_append_right _ (List.mem_append_left _ hq)))))))))))
        intro D1 e1 h5 F5 N5 l5
        have hStopE : (StopAt "compareOp NotEq ref ref") := .mk
        k_steps
        unfold Hold
        rename Fr _ _ _ _ => F6
        rename News _ _ _ _ => N6
        have kt6 : ∀ q ∈ tups, _ := fun q hq => (N6 q (.tail _ (.tail _ (.tail _ (.tail _ (.tail _ (.tail _ (.tail _ (.tail _ (.tail _ (.tail _ (.tail _ (List.mem_append_right _ (List.mem_append_left _ hq)))))))))))))).1
        obtain ⟨as1, ra⟩ := list_reads (N6 (Y, _) (.tail _ (.tail _ (.head _)))).1 (hry.at kt6)
        obtain ⟨as2, rb⟩ := list_reads (N6 (D1, _) (.head _)).1 (hry.at kt6)
        refine ne_reads true ra rb (rowsDat_ok _) (rowsDat_ok _) (by ke_room) ⟨fun _ => rfl, fun _ => rfl⟩ ?_
        have N7 : News g L _ ((TU, tupObj [.ref Y, .ref Z]) :: (Y, W.listOf ys.toArray ey) :: (Z, W.listOf zs.toArray ez) :: (157, tabObj #[rawInt 197, rawInt 39, .ref c1']) :: (c1', oc') :: (I, it1) :: (L + 1 + 1, okc) :: (FC, W.listOf fs.toArray 0) :: (RW, W.listOf ws.toArray 0) :: (L + 1 + 1 + 1 + 1, o4) :: (tabsL p44 p51 k1 oc1 k2 oc2 ++ (tups ++ ts))) := fun q hq => N6 q (.tail _ hq)
        try clear N6
        try clear F5
        try clear N5
        try clear l5
        try clear ra
        try clear rb
        try clear kt6
        k_steps
        unfold Hold
        rename Fr _ _ _ _ => F8
        rename News _ _ _ _ => N8
        refine sorted_up F8 N8 (News.isList N8 (by k_mem)) hzl (hrz.mono fun q hq => ?_) (List.Pairwise.filter _ hri) ?_
        · exact .tail _ (.tail _ (.tail _ (.tail _ (.tail _ (.tail _ (.tail _ (.tail _ (.tail _ (.tail _ (List.mem_append_right _ (List.mem_append_left _ hq)))))))))))
        intro D2 e2 h9 F9 N9 l9
        have hStopE : (StopAt "compareOp NotEq ref ref") := .mk
        k_steps
        unfold Hold
        rename Fr _ _ _ _ => F10
        rename News _ _ _ _ => N10
        have kt10 : ∀ q ∈ tups, _ := fun q hq => (N10 q (.tail _ (.tail _ (.tail _ (.tail _ (.tail _ (.tail _ (.tail _ (.tail _ (.tail _ (.tail _ (.tail _ (List.mem_append_right _ (List.mem_append_left _ hq)))))))))))))).1
        obtain ⟨as3, rc⟩ := list_reads (N10 (Z, _) (.tail _ (.tail _ (.tail _ (.head _))))).1 (hrz.at kt10)
        obtain ⟨as4, rd⟩ := list_reads (N10 (D2, _) (.head _)).1 (hrz.at kt10)
        refine ne_reads true rc rd (rowsDat_ok _) (rowsDat_ok _) (by ke_room) ⟨fun _ => rfl, fun _ => rfl⟩ ?_
        have N11 : News g L _ ((TU, tupObj [.ref Y, .ref Z]) :: (Y, W.listOf ys.toArray ey) :: (Z, W.listOf zs.toArray ez) :: (157, tabObj #[rawInt 197, rawInt 39, .ref c1']) :: (c1', oc') :: (I, it1) :: (L + 1 + 1, okc) :: (FC, W.listOf fs.toArray 0) :: (RW, W.listOf ws.toArray 0) :: (L + 1 + 1 + 1 + 1, o4) :: (tabsL p44 p51 k1 oc1 k2 oc2 ++ (tups ++ ts))) := fun q hq => N10 q (.tail _ hq)
        try clear N10
        try clear F9
        try clear N9
        try clear l9
        try clear rc
        try clear rd
        try clear kt10
        k_steps
        unfold Hold
        rename Fr _ _ _ _ => F12
        rename News _ _ _ _ => N12
        have kt12 : ∀ q ∈ tups, _ := fun q hq => (N12 q (.tail _ (.tail _ (.tail _ (.tail _ (.tail _ (.tail _ (.tail _ (.tail _ (.tail _ (.tail _ (List.mem_append_right _ (List.mem_append_left _ hq))))))))))))).1
        refine (law_worth_does (D := Y) (us := ys) (e := ey) (rows := (lev (tabRows b (sizesOf row)) i).filter (okk (1 + i))) (fun d hd9 => tab_sizes _ _ d (lev_sub _ i d (List.mem_filter.mp hd9).1))).use B F12 N12 X T c1 c2 c3 rfl (fun q hq => by rw [List.mem_singleton.mp hq]; exact .tail _ (.head _)) (hry.at kt12) (by dsimp only; omega) (by dsimp only; omega) ?_
        rintro r13 h14 tk14 g13 ⟨t13, rfl⟩
        have F13 := g13.fr F12 (fun c hc => nomatch hc)
        have N13 := g13.news N12 (fun q hq h => nomatch h)
        try clear F12
        try clear N12
        try clear kt12
        have hfi := fac_get hrow hf hi1
        rw [kept_fac hrow b hi1]
        have hle := fac_le hrow hi1
        have hpos := fac_pos hrow hi1
        obtain ⟨tf, hfk⟩ := hfi
        dsimp only
        k_steps
        unfold Hold
        refine item_list (k := ((1 + i : Nat) : Int)) (News.isList N13 (by k_mem)) (by omega) (by omega) (by rw [Int.toNat_natCast]; simpa using hfk) ?_
        have fin : ∀ (h' : Heap) (tk' : Nat) (m' : Str → Option Value) (q44 q51 : Array Value) (e1 : Addr) (oe1 : Obj) (e2 : Addr) (oe2 : Obj), Fr g L h' m' → Knows m' [(Str.ofString "factors", .ref FC), (Str.ofString "left", .ref Y)] → News g L h' ((Y, W.listOf ys.toArray ey) :: (157, tabObj #[rawInt 197, rawInt 39, .ref c1']) :: (c1', oc') :: (I, it1) :: (L + 1 + 1, okc) :: (FC, W.listOf fs.toArray 0) :: (RW, W.listOf ws.toArray 0) :: (L + 1 + 1 + 1 + 1, o4) :: (tabsL q44 q51 e1 oe1 e2 oe2 ++ (tups ++ ts))) →
            TabS 44 45 4 QA q44 e1 oe1 → TabS 51 60 4 QB q51 e2 oe2 → (@Ne Nat e1 157 ∧ @Ne Nat e2 157) → (@Ne Nat e1 I ∧ @Ne Nat e2 I) → (@Ne Nat e1 (L + 1 + 1) ∧ @Ne Nat e2 (L + 1 + 1)) →
            TurnC g L I it1 (L + 1 + 1) okc K s1 Q9 .next { s1 with heap := h', toks := tk' } := by
          intro h' tk' m' q44 q51 e1 oe1 e2 oe2 F' hkn' N' hS1 hS2 he157 heI heK
          refine TurnC.nextA hK F' N' (news' := (Y, W.listOf ys.toArray ey) :: (FC, W.listOf fs.toArray 0) :: (RW, W.listOf ws.toArray 0) :: (L + 1 + 1 + 1 + 1, o4) :: (157, tabObj #[rawInt 197, rawInt 39, .ref c1']) :: (c1', oc') :: (tabsL q44 q51 e1 oe1 e2 oe2 ++ (tups ++ ts))) (.tail _ (.tail _ (.tail _ (.head _)))) (.tail _ (.tail _ (.tail _ (.tail _ (.head _))))) (fun q hq => ?_) ?_ ?_ ⟨Y, ys, ey, _, c1', oc', q44, q51, e1, oe1, e2, oe2, rfl, ⟨?_, .inr ⟨rfl, hco⟩, hS1, hS2, ?_, he157, ?_, ?_⟩, hkn'⟩
          · rcases List.mem_cons.mp hq with rfl | hq
            · exact .head _
            exact sub_pick [5, 6, 7, 1, 2, 8, 9, 10, 11] 12 rfl _ hq
          · exact ⟨Ne.symm hnY.2.2.2.1, hn13.2.1, hn13.2.2.1, hn13.2.2.2.1, hn13.2.2.2.2.1, hc4.2.2.1, hn13.2.2.2.2.2.2.1, hn13.2.2.2.2.2.2.2.1, heI.1, heI.2, hn13.2.2.2.2.2.2.2.2.2.2⟩
          · exact ⟨Ne.symm hnY.2.2.2.2.1, hn13K.2.1, hn13K.2.2.1, hn13K.2.2.2.1, hn13K.2.2.2.2.1, hc4.2.2.2, hn13K.2.2.2.2.2.2.1, hn13K.2.2.2.2.2.2.2.1, heK.1, heK.2, hn13K.2.2.2.2.2.2.2.2.2.2⟩
          · rw [Nat.add_comm] at hry
            exact hry
          · exact ⟨Ne.symm hnY.2.1, hJ.n157.2⟩
          · exact ⟨⟨Ne.symm hnY.2.2.2.2.2.2.2.2.2.1, hJ.n44.1.2⟩, hc4.1⟩
          · exact ⟨⟨Ne.symm hnY.2.2.2.2.2.2.2.2.2.2.1, hJ.n51.1.2⟩, hc4.2.1⟩
        rcases Nat.eq_zero_or_pos i with hi0 | hi0
        · have hk1 : ((1 + i : Nat) : Int) = 1 := by omega
          k_steps
          · rename Fr _ _ _ _ => F16
            rename News _ _ _ _ => N16
            exact fin _ _ _ p44 p51 k1 oc1 k2 oc2 F16 ⟨rfl, rfl, trivial⟩ (fun q hq => N16 q (by
              exact sub_pick [1, 3, 4, 5, 6, 7, 8, 9, 10, 11, 12, 13] 14 rfl _ hq)) hJ.tab1 hJ.tab2 hJ.k157 ⟨hn13.2.2.2.2.2.2.2.2.1, hn13.2.2.2.2.2.2.2.2.2.1⟩ ⟨hn13K.2.2.2.2.2.2.2.2.1, hn13K.2.2.2.2.2.2.2.2.2.1⟩
        · have hk1 : ((1 + i : Nat) : Int) > 1 := by omega
          k_steps
          · unfold Hold
            have hle2 := fac_le hrow (i := i - 1) (by omega)
            obtain ⟨tf2, hfk2⟩ := fac_get hrow hf (i := i - 1) (by omega)
            rw [show 1 + (i - 1) = i by omega] at hfk2
            refine item_list (k := ((1 + i : Nat) : Int) - 1) (News.isList N13 (by k_mem)) (by omega) (by omega) (by rw [show (((1 + i : Nat) : Int) - 1).toNat = i by omega]; simpa using hfk2) ?_
            k_steps
            unfold Hold
            refine item_list (k := ((1 + i : Nat) : Int)) (News.isList N13 (by k_mem)) (by omega) (by omega) (by rw [Int.toNat_natCast]; simpa using hfk) ?_
            k_steps
            unfold Hold
            rename Fr _ _ _ _ => F17
            rename News _ _ _ _ => N17'
            have N17 : News g L _ ([(Y, W.listOf ys.toArray ey), (Z, W.listOf zs.toArray ez), (157, tabObj #[rawInt 197, rawInt 39, .ref c1']), (c1', oc'), (I, it1), (L + 1 + 1, okc), (FC, W.listOf fs.toArray 0), (RW, W.listOf ws.toArray 0), (L + 1 + 1 + 1 + 1, o4)] ++ (tabsL p44 p51 k1 oc1 k2 oc2 ++ (tups ++ ts))) := fun q hq => N17' q (by
              exact sub_pick [1, 2, 3, 4, 5, 6, 7, 8, 9, 10, 11, 12, 13] 14 rfl _ hq)
            have e157 := (N17 (157, _) (.tail _ (.tail _ (.head _)))).1
            have eI := (N17 (I, it1) (.tail _ (.tail _ (.tail _ (.tail _ (.head _)))))).1
            have eK := (N17 (L + 1 + 1, okc) (.tail _ (.tail _ (.tail _ (.tail _ (.tail _ (.head _))))))).1
            refine (int_divmod_does (a := ((facN row (i - 1) : Nat) : Int)) (b := ((facN row i : Nat) : Int)) (by omega) (by omega) (by omega) hJ.tab1 hJ.tab2).use B F17 N17 X T c1 c2 c3 rfl ?_ trivial (by dsimp only; omega) (by dsimp only; omega) ?_
            · exact sub_pick0 [9, 10, 11, 12] rfl
            rintro r18 h18 tk18 g18 ⟨q18, u1, u2, rfl, hqf, hq, ⟨e1, oe1, hT1, hC1, hO1, hr1'⟩, ⟨e2, oe2, hT2, hC2, hO2, hr2'⟩⟩
            dsimp only at g18 hqf hq hT1 hC1 hr1' hT2 hC2 hr2'
            have F18 := g18.fr2 F17 (N17 (44, tabObj p44) (mem_nth 9 rfl)).2 (N17 (51, tabObj p51) (mem_nth 10 rfl)).2
            have hnI := hn13.2.2.2.2.2.2
            have hnKK := hn13K.2.2.2.2.2.2
            have N18 := news_add F17 (news_tabs_in (pre := [(Y, W.listOf ys.toArray ey), (Z, W.listOf zs.toArray ez), (157, tabObj #[rawInt 197, rawInt 39, .ref c1']), (c1', oc'), (I, it1), (L + 1 + 1, okc), (FC, W.listOf fs.toArray 0), (RW, W.listOf ws.toArray 0), (L + 1 + 1 + 1 + 1, o4)]) (post := tups ++ ts) F17 g18 N17 ⟨?pre44, ?pre51⟩ ⟨hp44, hp51⟩ hT1 hC1 hr1' hT2 hC2 hr2') hqf hq
            case pre44 => exact ⟨Ne.symm hnY.2.2.2.2.2.2.2.2.2.1, Ne.symm hnZ.2.2.2.2.2.2.2.2.2.1, (show @Ne Nat 157 44 by decide), hc4.1, Ne.symm hnI.1, Ne.symm hnKK.1, hJ.n44.1.2.1, hJ.n44.1.2.2.1, hJ.n44.1.2.2.2.1, trivial⟩
            case pre51 => exact ⟨Ne.symm hnY.2.2.2.2.2.2.2.2.2.2.1, Ne.symm hnZ.2.2.2.2.2.2.2.2.2.2.1, (show @Ne Nat 157 51 by decide), hc4.2.1, Ne.symm hnI.2.1, Ne.symm hnKK.2.1, hJ.n51.1.2.1, hJ.n51.1.2.2.1, hJ.n51.1.2.2.2.1, trivial⟩
            have hd157 : @Ne Nat e1 157 ∧ @Ne Nat e2 157 := ⟨ne_step hJ.k157.1 e157 hr1', ne_step hJ.k157.2 e157 hr2'⟩
            have hdI : @Ne Nat e1 I ∧ @Ne Nat e2 I := ⟨ne_step hnI.2.2.1 eI hr1', ne_step hnI.2.2.2.1 eI hr2'⟩
            have hdK : @Ne Nat e1 (L + 1 + 1) ∧ @Ne Nat e2 (L + 1 + 1) := ⟨ne_step hnKK.2.2.1 eK hr1', ne_step hnKK.2.2.2.1 eK hr2'⟩
            have hS1 : TabS 44 45 4 QA #[rawInt 45, rawInt 4, .ref e1] e1 oe1 := .inr ⟨rfl, hO1⟩
            have hS2 : TabS 51 60 4 QB #[rawInt 60, rawInt 4, .ref e2] e2 oe2 := .inr ⟨rfl, hO2⟩
            try clear F17
            try clear N17
            try clear N17'
            try clear g18
            try clear hr1'
            try clear hr2'
            try clear hT1
            try clear hC1
            try clear hT2
            try clear hC2
            try clear e157
            try clear eI
            try clear eK
            try clear N13
            dsimp only [List.cons_append, List.nil_append] at N18
            dsimp only
            k_steps
            unfold Hold
            rename Fr _ _ _ _ => F19
            rename News _ _ _ _ => N19
            have kt19 : ∀ q ∈ tups, _ := fun q hq => (N19 q (.tail _ (.tail _ (.tail _ (.tail _ (.tail _ (.tail _ (.tail _ (.tail _ (.tail _ (.tail _ (.tail _ (.tail _ (.tail _ (.tail _ (List.mem_append_left _ hq)))))))))))))))).1
            refine (law_worth_does (D := Z) (us := zs) (e := ez) (rows := (lev (tabRows b (sizesOf row)) i).filter fun d => !okk (1 + i) d) (fun d hd9 => tab_sizes _ _ d (lev_sub _ i d (List.mem_filter.mp hd9).1))).use B F19 N19 X T c1 c2 c3 rfl (fun q hq => by rw [List.mem_singleton.mp hq]; exact .tail _ (.tail _ (.head _))) (hrz.at kt19) (by dsimp only; omega) (by dsimp only; omega) ?_
            rintro r20 h20 tk20 g20 ⟨t20, rfl⟩
            have F20 := g20.fr F19 (fun c hc => nomatch hc)
            have N20 := g20.news N19 (fun q hq h => nomatch h)
            try clear F19
            try clear N19
            try clear kt19
            have hfd := fac_div hrow b hi0 hi1
            have hStopE : (StopAt "compareOp NotEq ref ref") := .mk
            dsimp only
            k_steps
            unfold Hold
            rename Fr _ _ _ _ => F21
            rename News _ _ _ _ => N21
            refine ne_reads (d := .tuple [.int (((facN row (i - 1) : Nat) : Int).fdiv (facN row i : Nat)), .int (((facN row (i - 1) : Nat) : Int).fmod (facN row i : Nat))]) (e := .tuple [.int (worthOf ((lev (tabRows b (sizesOf row)) i).filter fun d => !okk (1 + i) d) : Nat), .int 0]) true (reads_tuple_at (N21 (q18, _) (.tail _ (.head _))).1 rfl rfl (.cons (.int _ _) (.cons (.int _ _) .nil))) (reads_tuple_at (N21 _ (.head _)).1 rfl rfl (.cons (.int _ _) (.cons (.int _ _) .nil))) rfl rfl (by ke_room) ⟨fun _ => rfl, fun _ => by rw [hfd.1, hfd.2]⟩ ?_
            k_steps
            rename Fr _ _ _ _ => F22
            rename News _ _ _ _ => N22
            exact fin _ _ _ _ _ e1 oe1 e2 oe2 F22 ⟨rfl, rfl, trivial⟩ (fun q hq => N22 q (by
              exact sub_pick [2, 4, 5, 6, 7, 8, 9, 10, 11, 12, 13, 14] 15 rfl _ hq)) hS1 hS2 hd157 hdI hdK
    · rintro m₁ news₁ h13 tk13 okc ⟨LL, ls, el, pL, kL, oL, p44, p51, k1, oc1, k2, oc2, rfl, hJ, hkn⟩ _ F13 N13 hn13K
      have F14 := Fr.knows0 F13 hkn
      dsimp only [at_] at F14
      change Fr g L _ _ at F14
      change News g L _ _ at N13
      dsimp only
      have hStop : (StopRows 1) := .mk
      k_steps
      unfold Hold
      exact cont0 LL ls el pL kL oL okc p44 p51 k1 oc1 k2 oc2 _ _ _ hJ F14 ⟨rfl, trivial⟩ (fun q hq => N13 q (.tail _ hq))
end
end Mine
end

section
open PySem PySem.W PyProof.Rows PySem.Calls PySem.Spec
set_option maxRecDepth 100000
set_option maxHeartbeats 2000000
namespace Mine
theorem fillK_L12 : PySem.Challenge.rw_ph0163_01 = PySem.Challenge.rw_ph0163_01 ∧ Mine.KF = Mine.KF := by
  w_top off
  (try (walk1; fail))
  k_fill
  exact ⟨rfl, rfl⟩
section
variable {prog : Program} {w : World} {p : Program} {loose : List Str} {mean : ExcName → Option Value} {mg mb : Str → Option Value}
theorem nothing_dat_ok (rows : List (Nat × Int × Int)) : kqdOk 8 (.tuple [.list [], .list (rows.map rowDat)]) = true := by
  show (kqdOk 7 (.list []) && (kqdOk 7 (.list (rows.map rowDat)) && true)) = true
  have : kqdOk 7 (.list (rows.map rowDat)) = true := by
    show (rows.map rowDat).all (kqdOk 6) = true
    induction rows with
    | nil => rfl
    | cons k r ih => rw [List.map_cons, List.all_cons, ih]; rfl
  rw [this]
  rfl
theorem law_seg12 {body : List Stmt} {scope : Scope} {cdv : Value} (f : LawFn w body scope cdv) {FC RW LL kL k1 k2 : Addr} {fs ws ls : List Value} {el : Nat} {row : List Int} {b : Nat} {pL p44 p51 : Array Value} {oc1 oc2 oL : Obj} {tups : List (Addr × Obj)} {o4 : Obj} (hw : IntsAre ws row) (hrow : RowOk row) (hb : b ≤ 3) (d4 : o4.data = .cell (some (.ref RW)))
    {dp un : Nat} {gd : Option (List Code)} {outer : List Env} {base g h₁ : Heap} {L fa : Addr} {m : Str → Option Value} {tk : Nat} {s : Shared} {Q : Flow → Shared → Prop} {ts : List (Addr × Obj)} (hJ : LawSt (tabRows b (sizesOf row)) tups L fs ws FC RW o4 row.length LL ls el pL kL oL p44 p51 k1 oc1 k2 oc2) (hp157 : AllNe 157 (tups ++ ts))
    (F₀ : Fr g L h₁ m) (hkn : Knows m [(Str.ofString "left", .ref LL)])
    (N : News g L h₁ ((LL, W.listOf ls.toArray el) :: (FC, W.listOf fs.toArray 0) :: (RW, W.listOf ws.toArray 0) :: (L + 1 + 1 + 1 + 1, o4) :: (157, tabObj pL) :: (kL, oL) :: (tabsL p44 p51 k1 oc1 k2 oc2 ++ (tups ++ ts))))
    (B : Below (lawTop dp un gd outer) base outer g) (X : (Mine.KF w.params).In g) (T : Top p loose mean mg mb g) (c1 : CodeHd g 55 51) (c2 : CodeHd g 48 44) (c3 : CodeHd g 159 157) (hd : dp + 200 < recursionLimit) (hu : un + 3000 < cLine)
    (cont0 : ∀ (h : Heap) (tk : Nat) (m' : Str → Option Value), Fr g L h m' → GrownAt 51 h → GrownAt 44 h → GrownAt 157 h → Q (.ret (.bool true)) { s with heap := h, toks := tk })
    : wpAny (model prog w) ((lawTop dp un gd outer).deeper (envOfC (Str.ofString "law") scope L fa cdv)) (execs (body.drop 14) (envOfC (Str.ofString "law") scope L fa cdv)) Q (fun _ _ => False) { s with heap := h₁, toks := tk } := by
  revert cont0
  refine' law_open (P := fun body scope cdv => (∀ (h : Heap) (tk : Nat) (m' : Str → Option Value), Fr g L h m' → GrownAt 51 h → GrownAt 44 h → GrownAt 157 h → Q (.ret (.bool true)) { s with heap := h, toks := tk }) → wpAny (model prog w) ((lawTop dp un gd outer).deeper (envOfC (Str.ofString "law") scope L fa cdv)) (execs (body.drop 14) (envOfC (Str.ofString "law") scope L fa cdv)) Q (fun _ _ => False) { s with heap := h₁, toks := tk }) f ?ho ?h
  case ho => k_dflt k_is
  case h =>
    intro cont0
    have F := Fr.knows0 F₀ hkn
    dsimp only [at_] at F
    clear F₀
    dsimp only [List.drop]
    try k_fold
    k_steps
    unfold Hold
    rename Fr _ _ _ _ => F15
    rename News _ _ _ _ => N15
    have hrl := hrow.2.1
    have N16 : News g L _ ((157, tabObj pL) :: (LL, W.listOf ls.toArray el) :: (FC, W.listOf fs.toArray 0) :: (RW, W.listOf ws.toArray 0) :: (L + 1 + 1 + 1 + 1, o4) :: (tabsL p44 p51 k1 oc1 k2 oc2 ++ (tups ++ ts))) := fun q hq => N15 q (by
      exact sub_pick [4, 0, 1, 2, 3, 6, 7, 8, 9] 10 rfl _ hq)
    have n157 : AllNe 157 ((LL, W.listOf ls.toArray el) :: (FC, W.listOf fs.toArray 0) :: (RW, W.listOf ws.toArray 0) :: (L + 1 + 1 + 1 + 1, o4) :: (tabsL p44 p51 k1 oc1 k2 oc2 ++ (tups ++ ts))) := ⟨hJ.n157.1, hJ.n157.2.1, hJ.n157.2.2.1, hJ.n157.2.2.2.1, (show @Ne Nat 44 157 by decide), (show @Ne Nat 51 157 by decide), hJ.k157.1, hJ.k157.2, hp157⟩
    have N44 := N16
    try clear N15
    show wpAny _ _ (eval _ _) _ _ _
    k_dflt (refine' kla_eval ?d0 ?_; (case d0 => exact rfl))
    k_dflt (refine lam_make2 (P := 157) (l₁ := 197) (c₁ := 39) (q₁ := QL) (kc := kL) (koc := oL) (rest := (LL, W.listOf ls.toArray el) :: (FC, W.listOf fs.toArray 0) :: (RW, W.listOf ws.toArray 0) :: (L + 1 + 1 + 1 + 1, o4) :: (tabsL p44 p51 k1 oc1 k2 oc2 ++ (tups ++ ts))) F15 N16 T c3 rfl hJ.tabL (by decide) n157 rfl ?_)
    intro f1 c1' oc' ctv1 h1 tk1 F1 N1 hco
    try clear F15
    try clear N16
    try clear N44
    k_steps
    unfold Hold
    have hll : ls.length ≤ 12 := by
      rw [(Al.ofRows hJ.rows).length]
      exact Nat.le_trans (lev_len row.length) (tab_len _ _)
    refine (split_does (e := el) (pr := [(c1', oc'), (L + 1 + 1 + 1 + 1, o4), (RW, W.listOf ws.toArray 0)]) (tups := tups) (fun d => decide (d.2.2 - d.2.1 > (row.length : Int) * (d.1 : Int))) hJ.rows hll ?hp).use B F1 N1 X T c1 c2 c3 rfl (sub2 (.tail _ (.tail _ (.tail _ (.head _)))) (.head _) ?hsub) trivial ?hd1 ?hu1 ?hret
    case hsub =>
      exact sub_segs [[_], [_], [_], [_], [_], [_], [_], @tabsL _ _ _ _ _ _, tups, ts] [1, 6, 5, 8] rfl rfl
    case hd1 => dsimp only; omega
    case hu1 => dsimp only; omega
    case hp =>
      rintro v d ⟨q, t1, t2, t3, rfl, hq⟩ hd9
      have hd8 := tab_sizes _ _ d (lev_sub _ _ d hd9)
      have hd7 := tab_small b hb hrow d (lev_sub _ _ d hd9)
      have hk7 : (row.length : Int).natAbs ≤ 4 := by omega
      obtain ⟨vs9, t9, hv9, hv8⟩ := hco
      try clear F1
      try clear N1
      try clear hJ
      try clear n157
      try clear hp157
      try clear hkn
      try clear cont0
      refine' does_ofL (binds := [(Str.ofString "each", .ref q)]) ?ho ?hcd ?hbind ?hloc ?c1 ?c2 ?c3 ?c4 ?c5 ?walk
      case ho => exact .head _
      case hcd => exact fun h h0 L0 N0 => ⟨c1', oc', vs9, t9, rfl, (N0 (c1', oc') (.tail _ (.head _))).1, hv9, hv8⟩
      case hbind => exact rfl
      case hloc => exact locs rfl
      case c1 => exact rfl
      case c2 => exact rfl
      case c3 => exact rfl
      case c4 => decide
      case c5 => decide
      case walk =>
        intro dp7 un7 gd7 cn7 cs7 a7 ccd7 cl7 outer7 A7 base7 L7 s7 g7 L7' h7 hent hpre F7 N7 B7 X7 hlt7 hd6 hu6 post7 hPost7
        obtain ⟨X6, T6, c16, c26, c36⟩ := X7
        have N6 : News g7 L7' h7 ((q, tupObj [.int d.1 t1, .int d.2.1 t2, .int d.2.2 t3]) :: (L + 1 + 1 + 1 + 1, o4) :: (RW, W.listOf ws.toArray 0) :: []) := fun p hp => by
          simp only [List.mem_cons, List.not_mem_nil, or_false] at hp
          rcases hp with rfl | rfl | rfl
          · exact N7 _ (.tail _ (.tail _ (.tail _ (.tail _ hq))))
          · exact N7 _ (.tail _ (.tail _ (.head _)))
          · exact N7 _ (.tail _ (.tail _ (.tail _ (.head _))))
        try clear B
        try clear T
        try clear X
        try clear c1
        try clear c2
        try clear c3
        try dsimp only
        try k_fold
        k_steps
        exact Ret.ofA hPost7 (hent.grown F7 N7 (fun _ h => .inr h)) rfl
    case hret =>
      rintro r3 h3 tk3 g3 ⟨TU, Y, Z, ys, zs, ey, ez, rfl, hT0, hY0, hZ0, hT3, hY3, hZ3, hry, hrz⟩
      dsimp only at g3 hT0 hY0 hZ0 hT3 hY3 hZ3
      have hno : (lev (tabRows b (sizesOf row)) row.length).filter (fun d => decide (d.2.2 - d.2.1 > (row.length : Int) * (d.1 : Int))) = [] := by
        rw [List.filter_eq_nil_iff]
        intro d hd9 h9
        have := none_above b (sizesOf row) d (lev_sub _ _ d hd9)
        rw [List.length_map] at this
        exact this (of_decide_eq_true h9)
      have hall : (lev (tabRows b (sizesOf row)) row.length).filter (fun d => !decide (d.2.2 - d.2.1 > (row.length : Int) * (d.1 : Int))) = lev (tabRows b (sizesOf row)) row.length := by
        rw [List.filter_eq_self]
        intro d hd9
        have := none_above b (sizesOf row) d (lev_sub _ _ d hd9)
        rw [List.length_map] at this
        rw [decide_eq_false this]
        rfl
      rw [hno] at hry
      rw [hall] at hrz
      have F3 := g3.fr F1 (fun c hc => nomatch hc)
      have N3 := news_addN F1 (news_addN F1 (news_addN F1 (g3.news N1 (fun q hq h => nomatch h)) hZ0 hZ3) hY0 hY3) hT0 hT3
      try clear F1
      try clear N1
      try clear g3
      try clear hT0
      try clear hT3
      try clear hY0
      try clear hY3
      try clear hZ0
      try clear hZ3
      have hStopE : (StopAt "compareOp Eq ref ref") := .mk
      dsimp only
      k_steps
      unfold Hold
      rename Fr _ _ _ _ => F4
      rename News _ _ _ _ => N4
      have kt4 : ∀ q ∈ tups, _ := fun q hq => (N4 q (.tail _ (.tail _ (.tail _ (.tail _ (.tail _ (.tail _ (.tail _ (.tail _ (.tail _ (.tail _ (.tail _ (.tail _ (List.mem_append_right _ (List.mem_append_left _ hq))))))))))))))).1
      obtain ⟨as1, r1⟩ := list_reads (N4 (Y, _) (.tail _ (.tail _ (.tail _ (.head _))))).1 (hry.at kt4)
      obtain ⟨as2, r2⟩ := list_reads (N4 (Z, _) (.tail _ (.tail _ (.tail _ (.tail _ (.head _)))))).1 (hrz.at kt4)
      obtain ⟨as3, r3⟩ := list_reads (vs := []) (rows := []) (N4 _ (.tail _ (.head _))).1 .nil
      obtain ⟨as4, r4⟩ := list_reads (N4 (LL, _) (.tail _ (.tail _ (.tail _ (.tail _ (.tail _ (.tail _ (.tail _ (.tail _ (.head _)))))))))).1 (hJ.rows.at kt4)
      refine eq_reads (d := .tuple [.list [], .list ((lev (tabRows b (sizesOf row)) row.length).map rowDat)]) (e := .tuple [.list [], .list ((lev (tabRows b (sizesOf row)) row.length).map rowDat)]) true (reads_tuple_at (N4 (TU, _) (.tail _ (.tail _ (.head _)))).1 rfl rfl (.cons r1 (.cons r2 .nil))) (reads_tuple_at (N4 _ (.head _)).1 rfl rfl (.cons r3 (.cons r4 .nil))) (nothing_dat_ok _) (nothing_dat_ok _) (by ke_room) ⟨fun _ => rfl, fun _ => rfl⟩ ?_
      k_steps
      rename Fr _ _ _ _ => F5
      rename News _ _ _ _ => N5
      exact cont0 _ _ _ F5 (GrownAt.of N5 (.tail _ (.tail _ (.tail _ (.tail _ (.tail _ (.tail _ (.tail _ (.tail _ (.tail _ (.tail _ (.tail _ (.tail _ (.tail _ (.head _))))))))))))))) (GrownAt.of N5 (.tail _ (.tail _ (.tail _ (.tail _ (.tail _ (.tail _ (.tail _ (.tail _ (.tail _ (.tail _ (.tail _ (.tail _ (.head _)))))))))))))) (GrownAt.of N5 (.tail _ (.tail _ (.tail _ (.tail _ (.tail _ (.tail _ (.tail _ (.head _)))))))))
end
end Mine
end

section
open PySem PySem.W PyProof.Rows PySem.Calls PySem.Spec
set_option maxRecDepth 100000
set_option maxHeartbeats 2000000
namespace Mine
/-- apart from what the law changes -/
structure Offs (L : Addr) (l : List (Addr × Obj)) : Prop where
  c3 : AllNe (L + 1 + 1 + 1) l
  c2 : AllNe (L + 1 + 1) l
  t44 : AllNe 44 l
  t51 : AllNe 51 l
  t157 : AllNe 157 l
theorem allNe_app {a : Addr} {l r : List (Addr × Obj)} (h1 : AllNe a l) (h2 : AllNe a r) : AllNe a (l ++ r) := AllNe.of fun p hp => (List.mem_append.mp hp).elim (h1.at p) (h2.at p)
theorem Offs.app {L : Addr} {l r : List (Addr × Obj)} (h1 : Offs L l) (h2 : Offs L r) : Offs L (l ++ r) := ⟨allNe_app h1.c3 h2.c3, allNe_app h1.c2 h2.c2, allNe_app h1.t44 h2.t44, allNe_app h1.t51 h2.t51, allNe_app h1.t157 h2.t157⟩
theorem Offs.cons {L : Addr} {p : Addr × Obj} {r : List (Addr × Obj)} (h1 : Offs L [p]) (h2 : Offs L r) : Offs L (p :: r) := h1.app h2
theorem Offs.nil {L : Addr} : Offs L [] := ⟨trivial, trivial, trivial, trivial, trivial⟩
/-- the addresses that the law changes, as a ledger bears them -/
structure Bears (L : Addr) (l : List (Addr × Obj)) : Prop where
  c3 : ∃ o, (L + 1 + 1 + 1, o) ∈ l
  c2 : ∃ o, (L + 1 + 1, o) ∈ l
  t44 : ∃ o, ((44 : Addr), o) ∈ l
  t51 : ∃ o, ((51 : Addr), o) ∈ l
  t157 : ∃ o, ((157 : Addr), o) ∈ l
theorem Bears.sub {L : Addr} {l l' : List (Addr × Obj)} (b : Bears L l) (h : ∀ q ∈ l, q ∈ l') : Bears L l' :=
  ⟨b.c3.imp fun _ => h _, b.c2.imp fun _ => h _, b.t44.imp fun _ => h _, b.t51.imp fun _ => h _, b.t157.imp fun _ => h _⟩
theorem offs_new {L a : Addr} {o : Obj} {l : List (Addr × Obj)} (b : Bears L l) (h : AllNe a l) : Offs L [(a, o)] := by
  obtain ⟨o3, m3⟩ := b.c3
  obtain ⟨o2, m2⟩ := b.c2
  obtain ⟨o44, m44⟩ := b.t44
  obtain ⟨o51, m51⟩ := b.t51
  obtain ⟨o157, m157⟩ := b.t157
  exact ⟨⟨Ne.symm (h.at _ m3), trivial⟩, ⟨Ne.symm (h.at _ m2), trivial⟩, ⟨Ne.symm (h.at _ m44), trivial⟩, ⟨Ne.symm (h.at _ m51), trivial⟩, ⟨Ne.symm (h.at _ m157), trivial⟩⟩
theorem offs_all {L : Addr} {l : List (Addr × Obj)} (b : Bears L l) : ∀ {r : List (Addr × Obj)}, (∀ q ∈ r, AllNe q.1 l) → Offs L r
  | [], _ => .nil
  | (a, o) :: r, h => (offs_new (a := a) (o := o) b (h (a, o) (.head _))).cons (offs_all b fun q hq => h q (.tail _ hq))
theorem bears_ts {L : Addr} {o1 o2 o3 : Obj} : Bears L [(L + 1 + 1 + 1, o3), (L + 1 + 1, o2), (L + 1, o1), (51, tabObj #[]), (44, tabObj #[]), (157, tabObj #[])] :=
  ⟨⟨_, .head _⟩, ⟨_, .tail _ (.head _)⟩, ⟨_, .tail _ (.tail _ (.tail _ (.tail _ (.head _))))⟩, ⟨_, .tail _ (.tail _ (.tail _ (.head _)))⟩, ⟨_, .tail _ (.tail _ (.tail _ (.tail _ (.tail _ (.head _)))))⟩⟩
section
variable {prog : Program} {w : World} {p : Program} {loose : List Str} {mean : ExcName → Option Value} {mg mb : Str → Option Value}
theorem news_sub {g h : Heap} {L : Addr} {l l' : List (Addr × Obj)} (N : News g L h l) (s : ∀ q ∈ l', q ∈ l) : News g L h l' := fun q hq => N q (s q hq)
set_option maxHeartbeats 4000000 in
theorem law_all {body : List Stmt} {scope : Scope} {cdv : Value} (f : LawFn w body scope cdv) {R : Addr} {vs : List Value} {ns : List Int} (hI : IntsAre vs ns) (hn : ns.length ≤ 63)
    {dp un : Nat} {gd : Option (List Code)} {outer : List Env} {base g h₁ : Heap} {L fa : Addr} {m : Str → Option Value} {tk : Nat} {s : Shared} {Q : Flow → Shared → Prop} {o1 o2 o3 o4 : Obj}
    (d1 : o1.data = .cell (some (.ref R))) (d2 : o2.data = .cell none) (d3 : o3.data = .cell none) (d4 : o4.data = .cell none) (hR : g.IsList R vs.toArray) (F : Fr g L h₁ m)
    (N : News g L h₁ [(L + 1 + 1 + 1 + 1, o4), (L + 1 + 1 + 1, o3), (L + 1 + 1, o2), (L + 1, o1), (51, tabObj #[]), (44, tabObj #[]), (157, tabObj #[])]) (hl : @LT.lt Nat _ 51 L ∧ @LT.lt Nat _ 44 L ∧ @LT.lt Nat _ 157 L)
    (B : Below (lawTop dp un gd outer) base outer g) (X : (Mine.KF w.params).In g) (T : Top p loose mean mg mb g) (c1 : CodeHd g 55 51) (c2 : CodeHd g 48 44) (c3 : CodeHd g 159 157) (hd : dp + 200 < recursionLimit) (hu : un + 3000 < cLine)
    (fin : ∀ (h : Heap) (tk : Nat) (m' : Str → Option Value), Fr g L h m' → GrownAt 51 h → GrownAt 44 h → GrownAt 157 h → Q (.ret (.bool true)) { s with heap := h, toks := tk }) :
    wpAny (model prog w) ((lawTop dp un gd outer).deeper (envOfC (Str.ofString "law") scope L fa cdv)) (execs body (envOfC (Str.ofString "law") scope L fa cdv)) Q (fun _ _ => False) { s with heap := h₁, toks := tk } := by
  have hd6 : dp + 60 < recursionLimit := by omega
  have n43 : @Ne Nat (L + 1 + 1 + 1 + 1) (L + 1 + 1 + 1) := Nat.ne_of_gt (Nat.lt_succ_self _)
  have n42 : @Ne Nat (L + 1 + 1 + 1 + 1) (L + 1 + 1) := Nat.ne_of_gt (Nat.lt_succ_of_lt (Nat.lt_succ_self _))
  have big : ∀ c : Nat, c < L → @Ne Nat (L + 1 + 1 + 1 + 1) c := fun c h => Nat.ne_of_gt (Nat.lt_succ_of_lt (Nat.lt_succ_of_lt (Nat.lt_succ_of_lt (Nat.lt_succ_of_lt h))))
  have off4 : ∀ o : Obj, Offs L [(L + 1 + 1 + 1 + 1, o)] := fun o => ⟨⟨n43, trivial⟩, ⟨n42, trivial⟩, ⟨big 44 hl.2.1, trivial⟩, ⟨big 51 hl.1, trivial⟩, ⟨big 157 hl.2.2, trivial⟩⟩
  refine law_seg1 f hI hn d1 d2 d3 d4 hR F N hl B X T c1 c2 c3 hd6 hu ?_
  intro D0 ys0 ms h2 tk2 hIm hm1 hm3 F2 N2 hof2
  refine law_seg2 f hIm hm1 hm3 d4 F2 N2 hof2 hl B X T c1 c2 c3 hd6 hu ?_
  intro RW ws row h3 tk3 o4' m3 hw hrow d4' F3 N3 lRW
  have offRW : ∀ o : Obj, Offs L [(RW, o)] := fun o => offs_new (bears_ts.sub fun q hq => .tail _ hq) (AllNe.lt lRW)
  refine law_seg3 f hI hn hw d1 hR F3 N3 B X T c1 c2 c3 hd6 hu ?_
  intro gap tg b h4 tk4 m4 hgap hb F4 N4
  refine law_seg4 f hw hrow hgap hb d4' F4 ⟨rfl, trivial⟩ N4 B X T c1 c2 c3 hd6 hu ?_
  intro x dx D2 D1 u tu tn tt tb a1 a2 a3 a4 a5 n sb cvs h5 tk5 m5 hn5 hsb hi F5 hkn5 N5 nx ndx nD2 nD1
  have hsb1 : sb = false := by
    rw [hsb, one_len hrow]
    decide
  subst hsb1
  clear hsb
  refine law_seg5 (xo := x) (ts := wsNews w.params x dx D2 D1 u tu n row.length b tn tt tb false a1 a2 a3 a4 a5 cvs ++ [(L + 1 + 1 + 1, o3), (L + 1 + 1, o2), (L + 1, o1), (51, tabObj #[]), (44, tabObj #[]), (157, tabObj #[])]) f hw hrow hgap hb d4' F5 hkn5 (news_sub N5 ?s5) B X T c1 c2 c3 hd6 hu ?_
  case s5 =>
    exact sub_segs [@wsNews _ _ _ _ _ _ _ _ _ _ _ _ _ _ _ _ _ _ _ _, [_], [_], [_], [_], [_], [_], [_], [_]] [1, 2, 0, 3, 4, 5, 6, 7, 8] rfl rfl
  have offW1 : Offs L (wsNews w.params x dx D2 D1 u tu n row.length b tn tt tb false a1 a2 a3 a4 a5 cvs) := by
    have bt : Bears L ((RW, W.listOf ws.toArray 0) :: (L + 1 + 1 + 1 + 1, o4') :: [(L + 1 + 1 + 1, o3), (L + 1 + 1, o2), (L + 1, o1), (51, tabObj #[]), (44, tabObj #[]), (157, tabObj #[])]) := bears_ts.sub fun q hq => .tail _ (.tail _ hq)
    exact (offs_new bt nx).cons ((offs_new bt ndx).cons ((offs_new bt nD2).cons ((offs_new bt nD1).cons .nil)))
  intro x' dx' D2' D1' u' tu' tn' tt' tb' a1' a2' a3' a4' a5' n' sb' cvs' h6 tk6 m6 hn6 hsb' hi' F6 hkn6 N6 nx' ndx' nD2' nD1'
  have offW2 : Offs L (wsNews w.params x' dx' D2' D1' u' tu' n' row.length b tn' tt' tb' sb' a1' a2' a3' a4' a5' cvs') := by
    have bt : Bears L ((RW, W.listOf ws.toArray 0) :: (L + 1 + 1 + 1 + 1, o4') :: (wsNews w.params x dx D2 D1 u tu n row.length b tn tt tb false a1 a2 a3 a4 a5 cvs ++ [(L + 1 + 1 + 1, o3), (L + 1 + 1, o2), (L + 1, o1), (51, tabObj #[]), (44, tabObj #[]), (157, tabObj #[])])) := bears_ts.sub fun q hq => .tail _ (.tail _ (List.mem_append_right _ hq))
    exact (offs_new bt nx').cons ((offs_new bt ndx').cons ((offs_new bt nD2').cons ((offs_new bt nD1').cons .nil)))
  refine law_seg6 (x := x) (dx := dx) (D2 := D2) (D1 := D1) (u := u) (tu := tu) (tn := tn) (tt := tt) (tb := tb) (a1 := a1) (a2 := a2) (a3 := a3) (a4 := a4) (a5 := a5) (n := n) (cvs := cvs) (sb := false) (x' := x') (dx' := dx') (D2' := D2') (D1' := D1') (u' := u') (tu' := tu') (tn' := tn') (tt' := tt') (tb' := tb') (a1' := a1') (a2' := a2') (a3' := a3') (a4' := a4') (a5' := a5') (n' := n') (cvs' := cvs') (sb' := sb') (ts := ((RW, W.listOf ws.toArray 0) :: (L + 1 + 1 + 1 + 1, o4') :: [(L + 1 + 1 + 1, o3), (L + 1 + 1, o2), (L + 1, o1), (51, tabObj #[]), (44, tabObj #[]), (157, tabObj #[])])) f hrow hb hi hi' F6 hkn6 (news_sub N6 ?s6) B X T c1 c2 c3 hd hu ?_
  case s6 =>
    exact sub_segs [@wsNews _ _ _ _ _ _ _ _ _ _ _ _ _ _ _ _ _ _ _ _, [_], [_], @wsNews _ _ _ _ _ _ _ _ _ _ _ _ _ _ _ _ _ _ _ _, [_], [_], [_], [_], [_], [_]] [3, 0, 1, 2, 4, 5, 6, 7, 8, 9] rfl rfl
  intro A us e tups h7 tk7 m7 hr7 F7 hkn7 N7 nA ntu
  have bt6 : Bears L (wsNews w.params x dx D2 D1 u tu n row.length b tn tt tb false a1 a2 a3 a4 a5 cvs ++ (wsNews w.params x' dx' D2' D1' u' tu' n' row.length b tn' tt' tb' sb' a1' a2' a3' a4' a5' cvs' ++ ((RW, W.listOf ws.toArray 0) :: (L + 1 + 1 + 1 + 1, o4') :: [(L + 1 + 1 + 1, o3), (L + 1 + 1, o2), (L + 1, o1), (51, tabObj #[]), (44, tabObj #[]), (157, tabObj #[])]))) := bears_ts.sub fun q hq => List.mem_append_right _ (List.mem_append_right _ (.tail _ (.tail _ hq)))
  have offA : ∀ o : Obj, Offs L [(A, o)] := fun o => offs_new bt6 nA
  have offT : Offs L tups := offs_all bt6 ntu
  refine law_seg7 (A := A) (x := x) (x' := x') (ts := (A, W.listOf us.toArray e) :: (tups ++ (wsNews w.params x dx D2 D1 u tu n row.length b tn tt tb false a1 a2 a3 a4 a5 cvs ++ (wsNews w.params x' dx' D2' D1' u' tu' n' row.length b tn' tt' tb' sb' a1' a2' a3' a4' a5' cvs' ++ [(L + 1 + 1, o2), (L + 1, o1), (51, tabObj #[]), (44, tabObj #[]), (157, tabObj #[])])))) f hw hrow hgap hb d4' d3 ?n7 F7 hkn7 (news_sub N7 ?s7) B X T c1 c2 c3 hd hu ?_
  case n7 =>
    have nb : AllNe (L + 1 + 1 + 1) [(L + 1 + 1, o2), (L + 1, o1), (51, tabObj #[]), (44, tabObj #[]), (157, tabObj #[])] := ⟨Nat.ne_of_lt (Nat.lt_succ_self _), Nat.ne_of_lt (Nat.lt_succ_of_lt (Nat.lt_succ_self _)), Nat.ne_of_lt (Nat.lt_succ_of_lt (Nat.lt_succ_of_lt (Nat.lt_succ_of_lt hl.1))), Nat.ne_of_lt (Nat.lt_succ_of_lt (Nat.lt_succ_of_lt (Nat.lt_succ_of_lt hl.2.1))), Nat.ne_of_lt (Nat.lt_succ_of_lt (Nat.lt_succ_of_lt (Nat.lt_succ_of_lt hl.2.2))), trivial⟩
    exact ⟨(offRW (W.listOf ws.toArray 0)).c3.1, (off4 o4').c3.1, (offA (W.listOf us.toArray e)).c3.1, allNe_app offT.c3 (allNe_app offW1.c3 (allNe_app offW2.c3 nb))⟩
  case s7 =>
    exact sub_segs [[_], tups, @wsNews _ _ _ _ _ _ _ _ _ _ _ _ _ _ _ _ _ _ _ _, @wsNews _ _ _ _ _ _ _ _ _ _ _ _ _ _ _ _ _ _ _ _, [_], [_], [_], [_], [_], [_], [_], [_]] [4, 5, 6, 0, 1, 2, 3, 7, 8, 9, 10, 11] rfl rfl
  intro D us2 e2 tups2 o3' h8 tk8 m8 hr8 F8 hkn8 N8 nD ntu2
  refine law_seg8 (A := A) (D := D) (x := x) (x' := x') (us := us) (us2 := us2) (e := e) (e2 := e2) (tups := tups) (tups2 := tups2) (tg := tg) (gap := gap) (ts := (RW, W.listOf ws.toArray 0) :: (L + 1 + 1 + 1 + 1, o4') :: (wsNews w.params x dx D2 D1 u tu n row.length b tn tt tb false a1 a2 a3 a4 a5 cvs ++ (wsNews w.params x' dx' D2' D1' u' tu' n' row.length b tn' tt' tb' sb' a1' a2' a3' a4' a5' cvs' ++ [(L + 1 + 1, o2), (L + 1, o1), (51, tabObj #[]), (44, tabObj #[]), (157, tabObj #[])]))) f hr7 hr8 F8 hkn8 (news_sub N8 ?s8) B X T c1 c2 c3 hd hu ?_
  case s8 =>
    exact sub_segs [[_], [_], [_], [_], tups2, [_], tups, @wsNews _ _ _ _ _ _ _ _ _ _ _ _ _ _ _ _ _ _ _ _, @wsNews _ _ _ _ _ _ _ _ _ _ _ _ _ _ _ _ _ _ _ _, [_], [_], [_], [_], [_]] [5, 0, 6, 4, 2, 3, 7, 8, 9, 10, 11, 12, 13] rfl rfl
  intro h9 tk9 m9 F9 hkn9 N9
  refine law_seg9 (x := x) (dx := dx) (D2 := D2) (D1 := D1) (u := u) (tu := tu) (tn := tn) (tt := tt) (tb := tb) (a1 := a1) (a2 := a2) (a3 := a3) (a4 := a4) (a5 := a5) (n := n) (cvs := cvs) (x' := x') (dx' := dx') (D2' := D2') (D1' := D1') (u' := u') (tu' := tu') (tn' := tn') (tt' := tt') (tb' := tb') (a1' := a1') (a2' := a2') (a3' := a3') (a4' := a4') (a5' := a5') (n' := n') (cvs' := cvs') (sb' := sb') (A := A) (ts := (A, W.listOf us.toArray e) :: (RW, W.listOf ws.toArray 0) :: (L + 1 + 1 + 1 + 1, o4') :: ([(L + 1 + 1, o2), (L + 1, o1), (51, tabObj #[]), (44, tabObj #[]), (157, tabObj #[])] ++ tups)) f hrow hb hi hi' ?n9 F9 hkn9 (news_sub N9 ?s9) B X T c1 c2 c3 hd hu ?_
  case n9 =>
    rw [hn5, hn6]
    exact text_lt hrow b
  case s9 =>
    exact sub_segs [[_], [_], tups, tups2, [_], [_], @wsNews _ _ _ _ _ _ _ _ _ _ _ _ _ _ _ _ _ _ _ _, @wsNews _ _ _ _ _ _ _ _ _ _ _ _ _ _ _ _ _ _ _ _, [_], [_], [_], [_], [_]] [6, 7, 0, 4, 5, 8, 9, 10, 11, 12, 2] rfl rfl
  intro h10 tk10 m10 F10 hkn10 N10
  refine law_seg10 (A := A) (ts := (A, W.listOf us.toArray e) :: (L + 1 + 1, o2) :: (157, tabObj #[]) :: tups) f hw hrow d4' ?p10 ?q10 F10 hkn10 (news_sub N10 ?s10) B X T c1 c2 c3 hd hu ?_
  case p10 => exact ⟨(offRW (W.listOf ws.toArray 0)).t44.1, (off4 o4').t44.1, trivial⟩ |> fun z => ⟨z, (offRW (W.listOf ws.toArray 0)).t51.1, (off4 o4').t51.1, trivial⟩
  case q10 =>
    have h2a : @Ne Nat (L + 1 + 1) 44 := Nat.ne_of_gt (Nat.lt_succ_of_lt (Nat.lt_succ_of_lt hl.2.1))
    have h2b : @Ne Nat (L + 1 + 1) 51 := Nat.ne_of_gt (Nat.lt_succ_of_lt (Nat.lt_succ_of_lt hl.1))
    exact ⟨⟨(offA (W.listOf us.toArray e)).t44.1, h2a, (show @Ne Nat 157 44 by decide), offT.t44⟩, ⟨(offA (W.listOf us.toArray e)).t51.1, h2b, (show @Ne Nat 157 51 by decide), offT.t51⟩⟩
  case s10 =>
    exact sub_segs [@wsNews _ _ _ _ _ _ _ _ _ _ _ _ _ _ _ _ _ _ _ _, @wsNews _ _ _ _ _ _ _ _ _ _ _ _ _ _ _ _ _ _ _ _, [_], [_], [_], [_], [_], [_], [_], [_], tups] [3, 4, 8, 7, 2, 5, 9, 10] rfl rfl
  intro FC fs p44 p51 k1 k2 oc1 oc2 h11 tk11 m11 hf hT1 hT2 F11 hkn11 N11 nFC nk1 nk2
  have hA := offA (W.listOf us.toArray e)
  have hRW := offRW (W.listOf ws.toArray 0)
  have h4 := off4 o4'
  have F2' : @Ne Nat FC (L + 1 + 1) := Ne.symm (nFC.at (L + 1 + 1, o2) (.tail _ (.tail _ (.tail _ (.tail _ (.tail _ (.head _)))))))
  have F157 : @Ne Nat FC 157 := Ne.symm (nFC.at (157, tabObj #[]) (.tail _ (.tail _ (.tail _ (.tail _ (.tail _ (.tail _ (.head _))))))))
  have F44 : @Ne Nat FC 44 := Ne.symm (nFC.at (44, tabObj #[]) (.tail _ (.tail _ (.head _))))
  have F51 : @Ne Nat FC 51 := Ne.symm (nFC.at (51, tabObj #[]) (.tail _ (.tail _ (.tail _ (.head _)))))
  have lt2 : ∀ c : Nat, c < L → @Ne Nat c (L + 1 + 1) := fun c h => Nat.ne_of_lt (Nat.lt_succ_of_lt (Nat.lt_succ_of_lt h))
  have eT : tups ++ [] = tups := List.append_nil _
  refine law_seg11 (A := A) (FC := FC) (RW := RW) (us := us) (e := e) (fs := fs) (ws := ws) (row := row) (b := b) (p44 := p44) (p51 := p51) (k1 := k1) (k2 := k2) (oc1 := oc1) (oc2 := oc2) (tups := tups) (o4 := o4') (o2 := o2) (ts := []) f hw hrow hb hf d4' d2 ?n11 ?st11 ?p157 ?p44 ?p51 F11 ⟨hkn11.2.1, hkn11.2.2.1, trivial⟩ (news_sub N11 ?s11) B X T c1 c2 c3 hd hu ?_
  case n11 =>
    refine ⟨hA.c2.1, F2', hRW.c2.1, h4.c2.1, lt2 157 hl.2.2, lt2 157 hl.2.2, lt2 44 hl.2.1, lt2 51 hl.1, Ne.symm nk1.2.1, Ne.symm nk2.2.1, ?_⟩
    rw [eT]
    exact offT.c2
  case st11 =>
    exact ⟨hr7, .inl ⟨rfl, rfl, rfl⟩, hT1, hT2, ⟨hA.t157.1, F157, hRW.t157.1, h4.t157.1, trivial⟩, ⟨Ne.symm nk1.2.2.1, Ne.symm nk2.2.2.1⟩, ⟨⟨hA.t44.1, F44, hRW.t44.1, h4.t44.1, trivial⟩, (show @Ne Nat 157 44 by decide)⟩, ⟨⟨hA.t51.1, F51, hRW.t51.1, h4.t51.1, trivial⟩, (show @Ne Nat 157 51 by decide)⟩⟩
  case p157 => rw [eT]; exact offT.t157
  case p44 => rw [eT]; exact offT.t44
  case p51 => rw [eT]; exact offT.t51
  case s11 =>
    exact sub_segs [[_], [_], [_], @tabsL _ _ _ _ _ _, [_], [_], [_], tups] [5, 4, 0, 1, 2, 6, 6, 3, 7, 99] rfl rfl
  intro LL ls el pL kL oL okc q44 q51 d1' e1' d2' e2' h12 tk12 m12 hJ F12 hkn12 N12
  refine law_seg12 (ts := []) f hw hrow hb d4' hJ ?r157 F12 hkn12 N12 B X T c1 c2 c3 hd hu ?_
  case r157 => rw [eT]; exact offT.t157
  exact fin
end
end Mine
end

set_option maxHeartbeats 8000000 in
theorem PySem.Challenge.cw_ph0163_01_holds : PySem.Challenge.rw_ph0163_01.Holds := by
  w_on
  o_law
  o_head (kmHook Mine.KF [2, 3, 27, 28, 34, 35, 48, 49, 55, 56, 62, 63, 69, 70, 86, 87, 93, 94, 100, 101, 107, 108, 114, 115, 121, 122, 131, 132, 133, 134, 142, 143, 149, 150, 154, 155, 159, 160] (fun _ => by kernel_rfl) [51, 44, 157])
  case hw => w_witness2
  k_go0
  refine wpAny_noRaise ?_
  rename IntsAre _ _ => hI9
  rename Fr _ _ _ _ => F9
  rename News _ _ _ _ => N9
  rename Below _ _ _ _ => B9
  rename Frag.In _ _ => X9
  rename Heap.IsList _ _ _ => hR9
  rename Top _ _ _ _ _ _ => T9
  k_dflt (refine Mine.law_all (body := _) (scope := _) (cdv := _) ?f hI9 ?hn ?d1 ?d2 ?d3 ?d4 hR9 F9 N9 ?hlt B9 X9 T9 ?c1 ?c2 ?c3 ?hd ?hu ?fin)
  case f => exact ⟨_, _, _, _, _, _, _, _, _, _, _, by k_is⟩
  case hn => omega
  case d1 => k_dflt assumption
  case d2 => k_dflt assumption
  case d3 => k_dflt assumption
  case d4 => k_dflt assumption
  case hlt => k_dflt assumption
  case c1 => assumption
  case c2 => assumption
  case c3 => assumption
  case hd => decide
  case hu => decide
  case fin =>
    intro h tk m' F8 G51 G44 G157
    refine ⟨?_, ⟨G51, G44, G157, trivial⟩⟩
    dsimp only
    k_steps
