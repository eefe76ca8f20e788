import PyProof.Rows.All
import Wide.All
import OpenK.AllK
import Wide.FinOn
import PySem.Challenge.RW_re0021_02

/- part MineHD -/
section
open PySem PySem.W PyProof.Rows PySem.W.Fast
set_option Elab.async false
namespace Mine
/-! ## the head: the top's run, checked at once by the kernel (with the library's quick twins) -/
def fdOf : Option Stmt → Option (Arguments × List Stmt × Scope)
  | some (.FunctionDef (args := a) (body := b) (scope := s) ..) => some (a, b, s)
  | _ => none
def cdOf : Option Stmt → List Stmt
  | some (.ClassDef (body := b) ..) => b
  | _ => []
abbrev Fd (x : Option Stmt) : Type := {f : Arguments × List Stmt × Scope // fdOf x = some f}
section
variable (p : Program) (w : World) (N : Nat)
noncomputable def topQ (s₀ : Shared) : Option Shared :=
  match s₀.heap.isNs mainGlobals && s₀.gens.size == 0 with
  | true => (tw14082659384304107361 tw14364793385576792824 p w s₀.heap.objs.size (tw8920871248978507458 s₀.heap mainGlobals "__annotations__") N s₀ (topStub p)).bind fun s₁ => match staticsOk (tw5923862056798008813 p.main.body) s₀.heap s₁.heap && namesBound p s₁.heap && gensDone s₁ && laidKept s₀.heap s₁.heap with
      | true => some s₁
      | false => none
  | false => none
theorem topQ_eq : topQ p w N = topFrom treeTable p w N := by
  unfold topQ topFrom
  rw [← te14082659384304107361, ← te14364793385576792824, ← te8920871248978507458, ← te5923862056798008813]; rfl
noncomputable def openQ : Option Shared := ((tw10274390034422433532 tw14364793385576792824 (opening p) w N (tw1435165496053646825 (opening p)).1 (tw1435165496053646825 (opening p)).2).bind (tw14289696077712309145 p)).bind (topQ p w N)
theorem openQ_eq : openQ p w N = openEnds treeTable p w N := by
  unfold openQ openEnds fencedOpening
  rw [← te10274390034422433532, ← te14364793385576792824, ← te1435165496053646825, ← te14289696077712309145, topQ_eq]
end
theorem said_of {l : OpenLaw} (h : tw9446332074065402090 l = true) : l.wellSaid = true := by rw [te9446332074065402090]; exact h
theorem left_of {p q : Program} {Xt : Shared → Bool} {α : Type} {Yf : Shared → α} {Ya : World → α} {N : Nat} {g0 : Bool}
    (h : ∀ w, (openQ p w N).map (fun s => (tw4187177175401517315 q [] (tw5923862056798008813 p.main.body) Xt g0 s, Yf s)) = some (openGood q [], Ya w)) : LeftO p q [] Xt Yf Ya N g0 := by
  intro w
  have := h w
  rw [openQ_eq, ← te4187177175401517315, ← te5923862056798008813] at this
  exact this
end Mine
end

/- part Head02 -/
section
open PySem PySem.W PyProof.Rows PySem.W.Fast
set_option Elab.async false
set_option maxRecDepth 100000
set_option maxHeartbeats 8000000
namespace Mine
abbrev pw02 : Program := PySem.Challenge.pw_re0021_02
@[reducible] noncomputable def fd28 : Fd ((cdOf pw02.main.body[1]?)[0]?) := ⟨_, rfl⟩
@[reducible] noncomputable def fd35 : Fd ((cdOf pw02.main.body[1]?)[1]?) := ⟨_, rfl⟩
@[reducible] noncomputable def fd42 : Fd ((cdOf pw02.main.body[1]?)[2]?) := ⟨_, rfl⟩
@[reducible] noncomputable def fd49 : Fd ((cdOf pw02.main.body[1]?)[3]?) := ⟨_, rfl⟩
@[reducible] noncomputable def fd76 : Fd (pw02.main.body[4]?) := ⟨_, rfl⟩
@[reducible] noncomputable def fd83 : Fd (pw02.main.body[5]?) := ⟨_, rfl⟩
@[reducible] noncomputable def fd88 : Fd (pw02.main.body[7]?) := ⟨_, rfl⟩
@[reducible] noncomputable def fd95 : Fd (pw02.main.body[8]?) := ⟨_, rfl⟩
@[reducible] noncomputable def fd100 : Fd (pw02.main.body[9]?) := ⟨_, rfl⟩
@[reducible] noncomputable def fd107 : Fd (pw02.main.body[10]?) := ⟨_, rfl⟩
@[reducible] noncomputable def fd114 : Fd (pw02.main.body[11]?) := ⟨_, rfl⟩
@[reducible] noncomputable def fd121 : Fd (pw02.main.body[12]?) := ⟨_, rfl⟩
@[reducible] noncomputable def fd126 : Fd (pw02.main.body[13]?) := ⟨_, rfl⟩
@[reducible] noncomputable def fd133 : Fd (pw02.main.body[14]?) := ⟨_, rfl⟩
/-- what stands at the top's end: the objects that the law can come to -/
noncomputable def KH : Params → Frag := fun P =>
  (nat_lit 2, { cls := PySem.Value.none, data := PySem.Data.dict #[] }) ::
  (nat_lit 3, { cls := PySem.Value.type "dict", data := PySem.Data.dict #[{ hash := PySem.PyData.keyHash P (PySem.Str.ofString "__name__"), key := PySem.Value.str (PySem.Str.ofString "__name__") 165, val := PySem.Value.str (PySem.Str.ofString "law_re0021_02") 283 }, { hash := PySem.PyData.keyHash P (PySem.Str.ofString "__doc__"), key := PySem.Value.str (PySem.Str.ofString "__doc__") 166, val := PySem.Value.none }, { hash := PySem.PyData.keyHash P (PySem.Str.ofString "__package__"), key := PySem.Value.str (PySem.Str.ofString "__package__") 167, val := PySem.Value.none }, { hash := PySem.PyData.keyHash P (PySem.Str.ofString "__loader__"), key := PySem.Value.str (PySem.Str.ofString "__loader__") 168, val := PySem.Value.builtin "__main__.__loader__#opaque" }, { hash := PySem.PyData.keyHash P (PySem.Str.ofString "__spec__"), key := PySem.Value.str (PySem.Str.ofString "__spec__") 169, val := PySem.Value.none }, { hash := PySem.PyData.keyHash P (PySem.Str.ofString "__annotations__"), key := PySem.Value.str (PySem.Str.ofString "__annotations__") 170, val := PySem.Value.ref 6 }, { hash := PySem.PyData.keyHash P (PySem.Str.ofString "__builtins__"), key := PySem.Value.str (PySem.Str.ofString "__builtins__") 171, val := PySem.Value.ref 4 }, { hash := PySem.PyData.keyHash P (PySem.Str.ofString "__file__"), key := PySem.Value.str (PySem.Str.ofString "__file__") 173, val := PySem.Value.str (PySem.Str.ofString "/claim/cut.py") 172 }, { hash := PySem.PyData.keyHash P (PySem.Str.ofString "__cached__"), key := PySem.Value.str (PySem.Str.ofString "__cached__") 174, val := PySem.Value.none }, { hash := PySem.PyData.keyHash P (PySem.Str.ofString "_netrclex"), key := PySem.Value.str (PySem.Str.ofString "_netrclex") 246, val := PySem.Value.ref 52 }, { hash := PySem.PyData.keyHash P (PySem.Str.ofString "StatisticsError"), key := PySem.Value.str (PySem.Str.ofString "StatisticsError") 266, val := PySem.Value.ref 66 }, { hash := PySem.PyData.keyHash P (PySem.Str.ofString "median_low"), key := PySem.Value.str (PySem.Str.ofString "median_low") 274, val := PySem.Value.ref 76 }, { hash := PySem.PyData.keyHash P (PySem.Str.ofString "median_high"), key := PySem.Value.str (PySem.Str.ofString "median_high") 282, val := PySem.Value.ref 83 }, { hash := PySem.PyData.keyHash P (PySem.Str.ofString "_law_text"), key := PySem.Value.str (PySem.Str.ofString "_law_text") 290, val := PySem.Value.ref 88 }, { hash := PySem.PyData.keyHash P (PySem.Str.ofString "_law_stream"), key := PySem.Value.str (PySem.Str.ofString "_law_stream") 301, val := PySem.Value.ref 95 }, { hash := PySem.PyData.keyHash P (PySem.Str.ofString "_law_words"), key := PySem.Value.str (PySem.Str.ofString "_law_words") 307, val := PySem.Value.ref 100 }, { hash := PySem.PyData.keyHash P (PySem.Str.ofString "_law_sections"), key := PySem.Value.str (PySem.Str.ofString "_law_sections") 318, val := PySem.Value.ref 107 }, { hash := PySem.PyData.keyHash P (PySem.Str.ofString "_law_passes"), key := PySem.Value.str (PySem.Str.ofString "_law_passes") 329, val := PySem.Value.ref 114 }, { hash := PySem.PyData.keyHash P (PySem.Str.ofString "_law_pass"), key := PySem.Value.str (PySem.Str.ofString "_law_pass") 341, val := PySem.Value.ref 121 }, { hash := PySem.PyData.keyHash P (PySem.Str.ofString "_law_due"), key := PySem.Value.str (PySem.Str.ofString "_law_due") 347, val := PySem.Value.ref 126 }, { hash := PySem.PyData.keyHash P (PySem.Str.ofString "law"), key := PySem.Value.str (PySem.Str.ofString "law") 368, val := PySem.Value.ref 133 }] 21 }) ::
  (nat_lit 6, { cls := PySem.Value.type "dict", data := PySem.Data.dict #[] }) ::
  (nat_lit 22, { cls := PySem.Value.type "tuple", data := PySem.Data.seq #[] }) ::
  (nat_lit 24, { cls := PySem.Value.type "tuple", data := PySem.Data.seq #[PySem.Value.str (PySem.Str.ofString "self") 204, PySem.Value.str (PySem.Str.ofString "fp") 205] }) ::
  (nat_lit 25, { cls := PySem.Value.type "tuple", data := PySem.Data.seq #[] }) ::
  (nat_lit 27, { cls := PySem.Value.type "code", data := PySem.Data.fields #[PySem.Value.str (PySem.Str.ofString "__init__") 201, PySem.Value.str (PySem.Str.ofString "_netrclex.__init__") 202, PySem.Value.str (PySem.Str.ofString "/claim/cut.py") 203, PySem.Value.int 4 0, PySem.Value.int 2 0, PySem.Value.int 0 0, PySem.Value.int 0 0, PySem.Value.int 3 0, PySem.Value.ref 22, PySem.Value.bool true, PySem.Value.int 181 0, PySem.Value.ref 23, PySem.Value.none, PySem.Value.ref 24, PySem.Value.ref 25, PySem.Value.ref 26, PySem.Value.int 206 0, PySem.Value.int 4 0, PySem.Value.str (PySem.Str.ofString "/claim/cut.py") 207] }) ::
  (nat_lit 28, { cls := PySem.Value.type "function", data := PySem.Data.func { name := PySem.Str.ofString "__init__", qualname := PySem.Str.ofString "_netrclex.__init__", params := fd28.1.1, body := PySem.FuncBody.stmts fd28.1.2.1, scope := fd28.1.2.2, globals := 3, closure := [], defaults := PySem.Value.none, kwdefaults := PySem.Value.none, pyModule := PySem.Value.str (PySem.Str.ofString "cpy313.netrc") 187, code := PySem.Value.ref 27 } }) ::
  (nat_lit 29, { cls := PySem.Value.type "tuple", data := PySem.Data.seq #[] }) ::
  (nat_lit 31, { cls := PySem.Value.type "tuple", data := PySem.Data.seq #[PySem.Value.str (PySem.Str.ofString "self") 212, PySem.Value.str (PySem.Str.ofString "ch") 213] }) ::
  (nat_lit 32, { cls := PySem.Value.type "tuple", data := PySem.Data.seq #[] }) ::
  (nat_lit 34, { cls := PySem.Value.type "code", data := PySem.Data.fields #[PySem.Value.str (PySem.Str.ofString "_read_char") 209, PySem.Value.str (PySem.Str.ofString "_netrclex._read_char") 210, PySem.Value.str (PySem.Str.ofString "/claim/cut.py") 211, PySem.Value.int 10 0, PySem.Value.int 1 0, PySem.Value.int 0 0, PySem.Value.int 0 0, PySem.Value.int 3 0, PySem.Value.ref 29, PySem.Value.bool true, PySem.Value.int 181 0, PySem.Value.ref 30, PySem.Value.none, PySem.Value.ref 31, PySem.Value.ref 32, PySem.Value.ref 33, PySem.Value.int 214 0, PySem.Value.int 10 0, PySem.Value.str (PySem.Str.ofString "/claim/cut.py") 215] }) ::
  (nat_lit 35, { cls := PySem.Value.type "function", data := PySem.Data.func { name := PySem.Str.ofString "_read_char", qualname := PySem.Str.ofString "_netrclex._read_char", params := fd35.1.1, body := PySem.FuncBody.stmts fd35.1.2.1, scope := fd35.1.2.2, globals := 3, closure := [], defaults := PySem.Value.none, kwdefaults := PySem.Value.none, pyModule := PySem.Value.str (PySem.Str.ofString "cpy313.netrc") 187, code := PySem.Value.ref 34 } }) ::
  (nat_lit 36, { cls := PySem.Value.type "tuple", data := PySem.Data.seq #[] }) ::
  (nat_lit 38, { cls := PySem.Value.type "tuple", data := PySem.Data.seq #[PySem.Value.str (PySem.Str.ofString "self") 220, PySem.Value.str (PySem.Str.ofString "token") 221, PySem.Value.str (PySem.Str.ofString "fiter") 222, PySem.Value.str (PySem.Str.ofString "ch") 223] }) ::
  (nat_lit 39, { cls := PySem.Value.type "tuple", data := PySem.Data.seq #[] }) ::
  (nat_lit 41, { cls := PySem.Value.type "code", data := PySem.Data.fields #[PySem.Value.str (PySem.Str.ofString "get_token") 217, PySem.Value.str (PySem.Str.ofString "_netrclex.get_token") 218, PySem.Value.str (PySem.Str.ofString "/claim/cut.py") 219, PySem.Value.int 16 0, PySem.Value.int 1 0, PySem.Value.int 0 0, PySem.Value.int 0 0, PySem.Value.int 3 0, PySem.Value.ref 36, PySem.Value.bool true, PySem.Value.int 181 0, PySem.Value.ref 37, PySem.Value.none, PySem.Value.ref 38, PySem.Value.ref 39, PySem.Value.ref 40, PySem.Value.int 224 0, PySem.Value.int 16 0, PySem.Value.str (PySem.Str.ofString "/claim/cut.py") 225] }) ::
  (nat_lit 42, { cls := PySem.Value.type "function", data := PySem.Data.func { name := PySem.Str.ofString "get_token", qualname := PySem.Str.ofString "_netrclex.get_token", params := fd42.1.1, body := PySem.FuncBody.stmts fd42.1.2.1, scope := fd42.1.2.2, globals := 3, closure := [], defaults := PySem.Value.none, kwdefaults := PySem.Value.none, pyModule := PySem.Value.str (PySem.Str.ofString "cpy313.netrc") 187, code := PySem.Value.ref 41 } }) ::
  (nat_lit 43, { cls := PySem.Value.type "tuple", data := PySem.Data.seq #[] }) ::
  (nat_lit 45, { cls := PySem.Value.type "tuple", data := PySem.Data.seq #[PySem.Value.str (PySem.Str.ofString "self") 230, PySem.Value.str (PySem.Str.ofString "token") 231] }) ::
  (nat_lit 46, { cls := PySem.Value.type "tuple", data := PySem.Data.seq #[] }) ::
  (nat_lit 48, { cls := PySem.Value.type "code", data := PySem.Data.fields #[PySem.Value.str (PySem.Str.ofString "push_token") 227, PySem.Value.str (PySem.Str.ofString "_netrclex.push_token") 228, PySem.Value.str (PySem.Str.ofString "/claim/cut.py") 229, PySem.Value.int 43 0, PySem.Value.int 2 0, PySem.Value.int 0 0, PySem.Value.int 0 0, PySem.Value.int 3 0, PySem.Value.ref 43, PySem.Value.bool true, PySem.Value.int 181 0, PySem.Value.ref 44, PySem.Value.none, PySem.Value.ref 45, PySem.Value.ref 46, PySem.Value.ref 47, PySem.Value.int 232 0, PySem.Value.int 43 0, PySem.Value.str (PySem.Str.ofString "/claim/cut.py") 233] }) ::
  (nat_lit 49, { cls := PySem.Value.type "function", data := PySem.Data.func { name := PySem.Str.ofString "push_token", qualname := PySem.Str.ofString "_netrclex.push_token", params := fd49.1.1, body := PySem.FuncBody.stmts fd49.1.2.1, scope := fd49.1.2.2, globals := 3, closure := [], defaults := PySem.Value.none, kwdefaults := PySem.Value.none, pyModule := PySem.Value.str (PySem.Str.ofString "cpy313.netrc") 187, code := PySem.Value.ref 48 } }) ::
  (nat_lit 50, { cls := PySem.Value.type "tuple", data := PySem.Data.seq #[PySem.Value.str (PySem.Str.ofString "instream") 235, PySem.Value.str (PySem.Str.ofString "lineno") 236, PySem.Value.str (PySem.Str.ofString "pushback") 237, PySem.Value.str (PySem.Str.ofString "whitespace") 238] }) ::
  (nat_lit 51, { cls := PySem.Value.type "dict", data := PySem.Data.dict #[{ hash := PySem.PyData.keyHash P (PySem.Str.ofString "__module__"), key := PySem.Value.str (PySem.Str.ofString "__module__") 196, val := PySem.Value.str (PySem.Str.ofString "cpy313.netrc") 187 }, { hash := PySem.PyData.keyHash P (PySem.Str.ofString "__firstlineno__"), key := PySem.Value.str (PySem.Str.ofString "__firstlineno__") 200, val := PySem.Value.int 2 199 }, { hash := PySem.PyData.keyHash P (PySem.Str.ofString "__init__"), key := PySem.Value.str (PySem.Str.ofString "__init__") 208, val := PySem.Value.ref 28 }, { hash := PySem.PyData.keyHash P (PySem.Str.ofString "_read_char"), key := PySem.Value.str (PySem.Str.ofString "_read_char") 216, val := PySem.Value.ref 35 }, { hash := PySem.PyData.keyHash P (PySem.Str.ofString "get_token"), key := PySem.Value.str (PySem.Str.ofString "get_token") 226, val := PySem.Value.ref 42 }, { hash := PySem.PyData.keyHash P (PySem.Str.ofString "push_token"), key := PySem.Value.str (PySem.Str.ofString "push_token") 234, val := PySem.Value.ref 49 }, { hash := PySem.PyData.keyHash P (PySem.Str.ofString "__static_attributes__"), key := PySem.Value.str (PySem.Str.ofString "__static_attributes__") 239, val := PySem.Value.ref 50 }, { hash := PySem.PyData.keyHash P (PySem.Str.ofString "__dict__"), key := PySem.Value.str (PySem.Str.ofString "__dict__") 241, val := PySem.Value.ref 53 }, { hash := PySem.PyData.keyHash P (PySem.Str.ofString "__weakref__"), key := PySem.Value.str (PySem.Str.ofString "__weakref__") 243, val := PySem.Value.ref 54 }, { hash := PySem.PyData.keyHash P (PySem.Str.ofString "__doc__"), key := PySem.Value.str (PySem.Str.ofString "__doc__") 244, val := PySem.Value.none }] 4 }) ::
  (nat_lit 52, { cls := PySem.Value.type "type", data := PySem.Data.cls { name := PySem.Str.ofString "_netrclex", bases := [PySem.Value.type "object"], mro := [PySem.Value.ref 52, PySem.Value.type "object"], ns := 51, qualname := PySem.Str.ofString "_netrclex" }, slots := #[none, none, some (PySem.Value.str (PySem.Str.ofString "_netrclex") 189), some (PySem.Value.str (PySem.Str.ofString "_netrclex") 197), some (PySem.Value.builtin "object.__new__"), some (PySem.Value.bool true)] }) ::
  (nat_lit 53, { cls := PySem.Value.type "getset_descriptor", data := PySem.Data.fields #[PySem.Value.str (PySem.Str.ofString "__dict__") 240, PySem.Value.ref 52, PySem.Value.builtin "function.__dict__", PySem.Value.builtin "function.__dict__#set"] }) ::
  (nat_lit 54, { cls := PySem.Value.type "getset_descriptor", data := PySem.Data.fields #[PySem.Value.str (PySem.Str.ofString "__weakref__") 242, PySem.Value.ref 52, PySem.Value.builtin "ExceptionGroup.__weakref__", PySem.Value.none] }) ::
  (nat_lit 57, { cls := PySem.Value.type "tuple", data := PySem.Data.seq #[PySem.Value.type "ValueError"] }) ::
  (nat_lit 64, { cls := PySem.Value.type "tuple", data := PySem.Data.seq #[] }) ::
  (nat_lit 65, { cls := PySem.Value.type "dict", data := PySem.Data.dict #[{ hash := PySem.PyData.keyHash P (PySem.Str.ofString "__module__"), key := PySem.Value.str (PySem.Str.ofString "__module__") 256, val := PySem.Value.str (PySem.Str.ofString "cpy313.statistics") 247 }, { hash := PySem.PyData.keyHash P (PySem.Str.ofString "__firstlineno__"), key := PySem.Value.str (PySem.Str.ofString "__firstlineno__") 260, val := PySem.Value.int 46 259 }, { hash := PySem.PyData.keyHash P (PySem.Str.ofString "__static_attributes__"), key := PySem.Value.str (PySem.Str.ofString "__static_attributes__") 261, val := PySem.Value.ref 64 }, { hash := PySem.PyData.keyHash P (PySem.Str.ofString "__weakref__"), key := PySem.Value.str (PySem.Str.ofString "__weakref__") 263, val := PySem.Value.ref 67 }, { hash := PySem.PyData.keyHash P (PySem.Str.ofString "__doc__"), key := PySem.Value.str (PySem.Str.ofString "__doc__") 264, val := PySem.Value.none }] 3 }) ::
  (nat_lit 66, { cls := PySem.Value.type "type", data := PySem.Data.cls { name := PySem.Str.ofString "StatisticsError", bases := [PySem.Value.type "ValueError"], mro := [PySem.Value.ref 66, PySem.Value.type "ValueError", PySem.Value.type "Exception", PySem.Value.type "BaseException", PySem.Value.type "object"], ns := 65, qualname := PySem.Str.ofString "StatisticsError" }, slots := #[some (PySem.Value.ref 57), none, some (PySem.Value.str (PySem.Str.ofString "StatisticsError") 249), some (PySem.Value.str (PySem.Str.ofString "StatisticsError") 257), some (PySem.Value.builtin "ValueError.__new__"), some (PySem.Value.bool true)] }) ::
  (nat_lit 67, { cls := PySem.Value.type "getset_descriptor", data := PySem.Data.fields #[PySem.Value.str (PySem.Str.ofString "__weakref__") 262, PySem.Value.ref 66, PySem.Value.builtin "ExceptionGroup.__weakref__", PySem.Value.none] }) ::
  (nat_lit 70, { cls := PySem.Value.type "tuple", data := PySem.Data.seq #[] }) ::
  (nat_lit 72, { cls := PySem.Value.type "tuple", data := PySem.Data.seq #[PySem.Value.str (PySem.Str.ofString "data") 270, PySem.Value.str (PySem.Str.ofString "n") 271] }) ::
  (nat_lit 73, { cls := PySem.Value.type "tuple", data := PySem.Data.seq #[] }) ::
  (nat_lit 75, { cls := PySem.Value.type "code", data := PySem.Data.fields #[PySem.Value.str (PySem.Str.ofString "median_low") 267, PySem.Value.str (PySem.Str.ofString "median_low") 268, PySem.Value.str (PySem.Str.ofString "/claim/cut.py") 269, PySem.Value.int 48 0, PySem.Value.int 1 0, PySem.Value.int 0 0, PySem.Value.int 0 0, PySem.Value.int 3 0, PySem.Value.ref 70, PySem.Value.bool true, PySem.Value.int 181 0, PySem.Value.ref 71, PySem.Value.none, PySem.Value.ref 72, PySem.Value.ref 73, PySem.Value.ref 74, PySem.Value.int 272 0, PySem.Value.int 48 0, PySem.Value.str (PySem.Str.ofString "/claim/cut.py") 273] }) ::
  (nat_lit 76, { cls := PySem.Value.type "function", data := PySem.Data.func { name := PySem.Str.ofString "median_low", qualname := PySem.Str.ofString "median_low", params := fd76.1.1, body := PySem.FuncBody.stmts fd76.1.2.1, scope := fd76.1.2.2, globals := 3, closure := [], defaults := PySem.Value.none, kwdefaults := PySem.Value.none, pyModule := PySem.Value.str (PySem.Str.ofString "cpy313.statistics") 247, code := PySem.Value.ref 75 } }) ::
  (nat_lit 77, { cls := PySem.Value.type "tuple", data := PySem.Data.seq #[] }) ::
  (nat_lit 79, { cls := PySem.Value.type "tuple", data := PySem.Data.seq #[PySem.Value.str (PySem.Str.ofString "data") 278, PySem.Value.str (PySem.Str.ofString "n") 279] }) ::
  (nat_lit 80, { cls := PySem.Value.type "tuple", data := PySem.Data.seq #[] }) ::
  (nat_lit 82, { cls := PySem.Value.type "code", data := PySem.Data.fields #[PySem.Value.str (PySem.Str.ofString "median_high") 275, PySem.Value.str (PySem.Str.ofString "median_high") 276, PySem.Value.str (PySem.Str.ofString "/claim/cut.py") 277, PySem.Value.int 57 0, PySem.Value.int 1 0, PySem.Value.int 0 0, PySem.Value.int 0 0, PySem.Value.int 3 0, PySem.Value.ref 77, PySem.Value.bool true, PySem.Value.int 181 0, PySem.Value.ref 78, PySem.Value.none, PySem.Value.ref 79, PySem.Value.ref 80, PySem.Value.ref 81, PySem.Value.int 280 0, PySem.Value.int 57 0, PySem.Value.str (PySem.Str.ofString "/claim/cut.py") 281] }) ::
  (nat_lit 83, { cls := PySem.Value.type "function", data := PySem.Data.func { name := PySem.Str.ofString "median_high", qualname := PySem.Str.ofString "median_high", params := fd83.1.1, body := PySem.FuncBody.stmts fd83.1.2.1, scope := fd83.1.2.2, globals := 3, closure := [], defaults := PySem.Value.none, kwdefaults := PySem.Value.none, pyModule := PySem.Value.str (PySem.Str.ofString "cpy313.statistics") 247, code := PySem.Value.ref 82 } }) ::
  (nat_lit 84, { cls := PySem.Value.type "tuple", data := PySem.Data.seq #[] }) ::
  (nat_lit 87, { cls := PySem.Value.type "code", data := PySem.Data.fields #[PySem.Value.str (PySem.Str.ofString "_law_text") 285, PySem.Value.str (PySem.Str.ofString "_law_text") 286, PySem.Value.str (PySem.Str.ofString "/claim/cut.py") 287, PySem.Value.int 64 0, PySem.Value.int 1 0, PySem.Value.int 0 0, PySem.Value.int 0 0, PySem.Value.int 3 0, PySem.Value.ref 84, PySem.Value.bool true, PySem.Value.int 181 0, PySem.Value.ref 85, PySem.Value.none, PySem.Value.none, PySem.Value.none, PySem.Value.ref 86, PySem.Value.int 288 0, PySem.Value.int 64 0, PySem.Value.str (PySem.Str.ofString "/claim/cut.py") 289] }) ::
  (nat_lit 88, { cls := PySem.Value.type "function", data := PySem.Data.func { name := PySem.Str.ofString "_law_text", qualname := PySem.Str.ofString "_law_text", params := fd88.1.1, body := PySem.FuncBody.stmts fd88.1.2.1, scope := fd88.1.2.2, globals := 3, closure := [], defaults := PySem.Value.none, kwdefaults := PySem.Value.none, pyModule := PySem.Value.str (PySem.Str.ofString "law_re0021_02") 283, code := PySem.Value.ref 87 } }) ::
  (nat_lit 89, { cls := PySem.Value.type "tuple", data := PySem.Data.seq #[] }) ::
  (nat_lit 91, { cls := PySem.Value.type "tuple", data := PySem.Data.seq #[PySem.Value.str (PySem.Str.ofString "text") 294, PySem.Value.str (PySem.Str.ofString "read") 295, PySem.Value.str (PySem.Str.ofString "stream") 296] }) ::
  (nat_lit 92, { cls := PySem.Value.type "tuple", data := PySem.Data.seq #[PySem.Value.str (PySem.Str.ofString "text") 297, PySem.Value.str (PySem.Str.ofString "place") 298] }) ::
  (nat_lit 94, { cls := PySem.Value.type "code", data := PySem.Data.fields #[PySem.Value.str (PySem.Str.ofString "_law_stream") 291, PySem.Value.str (PySem.Str.ofString "_law_stream") 292, PySem.Value.str (PySem.Str.ofString "/claim/cut.py") 293, PySem.Value.int 67 0, PySem.Value.int 1 0, PySem.Value.int 0 0, PySem.Value.int 0 0, PySem.Value.int 3 0, PySem.Value.ref 89, PySem.Value.bool true, PySem.Value.int 181 0, PySem.Value.ref 90, PySem.Value.none, PySem.Value.ref 91, PySem.Value.ref 92, PySem.Value.ref 93, PySem.Value.int 299 0, PySem.Value.int 67 0, PySem.Value.str (PySem.Str.ofString "/claim/cut.py") 300] }) ::
  (nat_lit 95, { cls := PySem.Value.type "function", data := PySem.Data.func { name := PySem.Str.ofString "_law_stream", qualname := PySem.Str.ofString "_law_stream", params := fd95.1.1, body := PySem.FuncBody.stmts fd95.1.2.1, scope := fd95.1.2.2, globals := 3, closure := [], defaults := PySem.Value.none, kwdefaults := PySem.Value.none, pyModule := PySem.Value.str (PySem.Str.ofString "law_re0021_02") 283, code := PySem.Value.ref 94 } }) ::
  (nat_lit 96, { cls := PySem.Value.type "tuple", data := PySem.Data.seq #[] }) ::
  (nat_lit 99, { cls := PySem.Value.type "code", data := PySem.Data.fields #[PySem.Value.str (PySem.Str.ofString "_law_words") 302, PySem.Value.str (PySem.Str.ofString "_law_words") 303, PySem.Value.str (PySem.Str.ofString "/claim/cut.py") 304, PySem.Value.int 77 0, PySem.Value.int 1 0, PySem.Value.int 0 0, PySem.Value.int 0 0, PySem.Value.int 3 0, PySem.Value.ref 96, PySem.Value.bool true, PySem.Value.int 181 0, PySem.Value.ref 97, PySem.Value.none, PySem.Value.none, PySem.Value.none, PySem.Value.ref 98, PySem.Value.int 305 0, PySem.Value.int 77 0, PySem.Value.str (PySem.Str.ofString "/claim/cut.py") 306] }) ::
  (nat_lit 100, { cls := PySem.Value.type "function", data := PySem.Data.func { name := PySem.Str.ofString "_law_words", qualname := PySem.Str.ofString "_law_words", params := fd100.1.1, body := PySem.FuncBody.stmts fd100.1.2.1, scope := fd100.1.2.2, globals := 3, closure := [], defaults := PySem.Value.none, kwdefaults := PySem.Value.none, pyModule := PySem.Value.str (PySem.Str.ofString "law_re0021_02") 283, code := PySem.Value.ref 99 } }) ::
  (nat_lit 101, { cls := PySem.Value.type "tuple", data := PySem.Data.seq #[] }) ::
  (nat_lit 103, { cls := PySem.Value.type "tuple", data := PySem.Data.seq #[PySem.Value.str (PySem.Str.ofString "text") 311, PySem.Value.str (PySem.Str.ofString "sections") 312, PySem.Value.str (PySem.Str.ofString "row") 313, PySem.Value.str (PySem.Str.ofString "word") 314, PySem.Value.str (PySem.Str.ofString "end") 315] }) ::
  (nat_lit 104, { cls := PySem.Value.type "tuple", data := PySem.Data.seq #[] }) ::
  (nat_lit 106, { cls := PySem.Value.type "code", data := PySem.Data.fields #[PySem.Value.str (PySem.Str.ofString "_law_sections") 308, PySem.Value.str (PySem.Str.ofString "_law_sections") 309, PySem.Value.str (PySem.Str.ofString "/claim/cut.py") 310, PySem.Value.int 103 0, PySem.Value.int 1 0, PySem.Value.int 0 0, PySem.Value.int 0 0, PySem.Value.int 3 0, PySem.Value.ref 101, PySem.Value.bool true, PySem.Value.int 181 0, PySem.Value.ref 102, PySem.Value.none, PySem.Value.ref 103, PySem.Value.ref 104, PySem.Value.ref 105, PySem.Value.int 316 0, PySem.Value.int 103 0, PySem.Value.str (PySem.Str.ofString "/claim/cut.py") 317] }) ::
  (nat_lit 107, { cls := PySem.Value.type "function", data := PySem.Data.func { name := PySem.Str.ofString "_law_sections", qualname := PySem.Str.ofString "_law_sections", params := fd107.1.1, body := PySem.FuncBody.stmts fd107.1.2.1, scope := fd107.1.2.2, globals := 3, closure := [], defaults := PySem.Value.none, kwdefaults := PySem.Value.none, pyModule := PySem.Value.str (PySem.Str.ofString "law_re0021_02") 283, code := PySem.Value.ref 106 } }) ::
  (nat_lit 108, { cls := PySem.Value.type "tuple", data := PySem.Data.seq #[] }) ::
  (nat_lit 110, { cls := PySem.Value.type "tuple", data := PySem.Data.seq #[PySem.Value.str (PySem.Str.ofString "script") 322, PySem.Value.str (PySem.Str.ofString "k") 323, PySem.Value.str (PySem.Str.ofString "number") 324, PySem.Value.str (PySem.Str.ofString "figures") 325, PySem.Value.str (PySem.Str.ofString "marks") 326] }) ::
  (nat_lit 111, { cls := PySem.Value.type "tuple", data := PySem.Data.seq #[] }) ::
  (nat_lit 113, { cls := PySem.Value.type "code", data := PySem.Data.fields #[PySem.Value.str (PySem.Str.ofString "_law_passes") 319, PySem.Value.str (PySem.Str.ofString "_law_passes") 320, PySem.Value.str (PySem.Str.ofString "/claim/cut.py") 321, PySem.Value.int 113 0, PySem.Value.int 2 0, PySem.Value.int 0 0, PySem.Value.int 0 0, PySem.Value.int 3 0, PySem.Value.ref 108, PySem.Value.bool true, PySem.Value.int 181 0, PySem.Value.ref 109, PySem.Value.none, PySem.Value.ref 110, PySem.Value.ref 111, PySem.Value.ref 112, PySem.Value.int 327 0, PySem.Value.int 113 0, PySem.Value.str (PySem.Str.ofString "/claim/cut.py") 328] }) ::
  (nat_lit 114, { cls := PySem.Value.type "function", data := PySem.Data.func { name := PySem.Str.ofString "_law_passes", qualname := PySem.Str.ofString "_law_passes", params := fd114.1.1, body := PySem.FuncBody.stmts fd114.1.2.1, scope := fd114.1.2.2, globals := 3, closure := [], defaults := PySem.Value.none, kwdefaults := PySem.Value.none, pyModule := PySem.Value.str (PySem.Str.ofString "law_re0021_02") 283, code := PySem.Value.ref 113 } }) ::
  (nat_lit 115, { cls := PySem.Value.type "tuple", data := PySem.Data.seq #[] }) ::
  (nat_lit 117, { cls := PySem.Value.type "tuple", data := PySem.Data.seq #[PySem.Value.str (PySem.Str.ofString "lexer") 333, PySem.Value.str (PySem.Str.ofString "count") 334, PySem.Value.str (PySem.Str.ofString "greater") 335, PySem.Value.str (PySem.Str.ofString "hand") 336, PySem.Value.str (PySem.Str.ofString "turn") 337, PySem.Value.str (PySem.Str.ofString "pair") 338] }) ::
  (nat_lit 118, { cls := PySem.Value.type "tuple", data := PySem.Data.seq #[] }) ::
  (nat_lit 120, { cls := PySem.Value.type "code", data := PySem.Data.fields #[PySem.Value.str (PySem.Str.ofString "_law_pass") 330, PySem.Value.str (PySem.Str.ofString "_law_pass") 331, PySem.Value.str (PySem.Str.ofString "/claim/cut.py") 332, PySem.Value.int 121 0, PySem.Value.int 3 0, PySem.Value.int 0 0, PySem.Value.int 0 0, PySem.Value.int 3 0, PySem.Value.ref 115, PySem.Value.bool true, PySem.Value.int 181 0, PySem.Value.ref 116, PySem.Value.none, PySem.Value.ref 117, PySem.Value.ref 118, PySem.Value.ref 119, PySem.Value.int 339 0, PySem.Value.int 121 0, PySem.Value.str (PySem.Str.ofString "/claim/cut.py") 340] }) ::
  (nat_lit 121, { cls := PySem.Value.type "function", data := PySem.Data.func { name := PySem.Str.ofString "_law_pass", qualname := PySem.Str.ofString "_law_pass", params := fd121.1.1, body := PySem.FuncBody.stmts fd121.1.2.1, scope := fd121.1.2.2, globals := 3, closure := [], defaults := PySem.Value.none, kwdefaults := PySem.Value.none, pyModule := PySem.Value.str (PySem.Str.ofString "law_re0021_02") 283, code := PySem.Value.ref 120 } }) ::
  (nat_lit 122, { cls := PySem.Value.type "tuple", data := PySem.Data.seq #[] }) ::
  (nat_lit 125, { cls := PySem.Value.type "code", data := PySem.Data.fields #[PySem.Value.str (PySem.Str.ofString "_law_due") 342, PySem.Value.str (PySem.Str.ofString "_law_due") 343, PySem.Value.str (PySem.Str.ofString "/claim/cut.py") 344, PySem.Value.int 134 0, PySem.Value.int 2 0, PySem.Value.int 0 0, PySem.Value.int 0 0, PySem.Value.int 3 0, PySem.Value.ref 122, PySem.Value.bool true, PySem.Value.int 181 0, PySem.Value.ref 123, PySem.Value.none, PySem.Value.none, PySem.Value.none, PySem.Value.ref 124, PySem.Value.int 345 0, PySem.Value.int 134 0, PySem.Value.str (PySem.Str.ofString "/claim/cut.py") 346] }) ::
  (nat_lit 126, { cls := PySem.Value.type "function", data := PySem.Data.func { name := PySem.Str.ofString "_law_due", qualname := PySem.Str.ofString "_law_due", params := fd126.1.1, body := PySem.FuncBody.stmts fd126.1.2.1, scope := fd126.1.2.2, globals := 3, closure := [], defaults := PySem.Value.none, kwdefaults := PySem.Value.none, pyModule := PySem.Value.str (PySem.Str.ofString "law_re0021_02") 283, code := PySem.Value.ref 125 } }) ::
  (nat_lit 127, { cls := PySem.Value.type "tuple", data := PySem.Data.seq #[] }) ::
  (nat_lit 129, { cls := PySem.Value.type "tuple", data := PySem.Data.seq #[PySem.Value.str (PySem.Str.ofString "script") 351, PySem.Value.str (PySem.Str.ofString "text") 352, PySem.Value.str (PySem.Str.ofString "stream") 353, PySem.Value.str (PySem.Str.ofString "place") 354, PySem.Value.str (PySem.Str.ofString "lexer") 355, PySem.Value.str (PySem.Str.ofString "sections") 356, PySem.Value.str (PySem.Str.ofString "told") 357, PySem.Value.str (PySem.Str.ofString "due") 358, PySem.Value.str (PySem.Str.ofString "k") 359, PySem.Value.str (PySem.Str.ofString "words") 360, PySem.Value.str (PySem.Str.ofString "end") 361, PySem.Value.str (PySem.Str.ofString "marks") 362, PySem.Value.str (PySem.Str.ofString "row") 363, PySem.Value.str (PySem.Str.ofString "word") 364, PySem.Value.str (PySem.Str.ofString "mark") 365] }) ::
  (nat_lit 130, { cls := PySem.Value.type "tuple", data := PySem.Data.seq #[] }) ::
  (nat_lit 132, { cls := PySem.Value.type "code", data := PySem.Data.fields #[PySem.Value.str (PySem.Str.ofString "law") 348, PySem.Value.str (PySem.Str.ofString "law") 349, PySem.Value.str (PySem.Str.ofString "/claim/cut.py") 350, PySem.Value.int 149 0, PySem.Value.int 1 0, PySem.Value.int 0 0, PySem.Value.int 0 0, PySem.Value.int 3 0, PySem.Value.ref 127, PySem.Value.bool true, PySem.Value.int 181 0, PySem.Value.ref 128, PySem.Value.none, PySem.Value.ref 129, PySem.Value.ref 130, PySem.Value.ref 131, PySem.Value.int 366 0, PySem.Value.int 149 0, PySem.Value.str (PySem.Str.ofString "/claim/cut.py") 367] }) ::
  (nat_lit 133, { cls := PySem.Value.type "function", data := PySem.Data.func { name := PySem.Str.ofString "law", qualname := PySem.Str.ofString "law", params := fd133.1.1, body := PySem.FuncBody.stmts fd133.1.2.1, scope := fd133.1.2.2, globals := 3, closure := [], defaults := PySem.Value.none, kwdefaults := PySem.Value.none, pyModule := PySem.Value.str (PySem.Str.ofString "law_re0021_02") 283, code := PySem.Value.ref 132 } }) :: []
def kAs : List Addr := 2 :: 3 :: 6 :: 22 :: 24 :: 25 :: 27 :: 28 :: 29 :: 31 :: 32 :: 34 :: 35 :: 36 :: 38 :: 39 :: 41 :: 42 :: 43 :: 45 :: 46 :: 48 :: 49 :: 50 :: 51 :: 52 :: 53 :: 54 :: 57 :: 64 :: 65 :: 66 :: 67 :: 70 :: 72 :: 73 :: 75 :: 76 :: 77 :: 79 :: 80 :: 82 :: 83 :: 84 :: 87 :: 88 :: 89 :: 91 :: 92 :: 94 :: 95 :: 96 :: 99 :: 100 :: 101 :: 103 :: 104 :: 106 :: 107 :: 108 :: 110 :: 111 :: 113 :: 114 :: 115 :: 117 :: 118 :: 120 :: 121 :: 122 :: 125 :: 126 :: 127 :: 129 :: 130 :: 132 :: 133 :: []
theorem kAs_eq : ∀ P, kAs = (KH P).map (·.1) := fun P => by kernel_rfl
noncomputable abbrev kHk : Hook := kmHook KH kAs kAs_eq [90]
abbrev kView : Program := view pw02 [1, 3, 4, 5, 7, 8, 9, 10, 11, 12, 13, 14]
theorem kLeft : LeftO pw02 kView [] (fun s => xlAt kView [] s && recOk [] s) (Hook.obs kHk) (Hook.val kHk) 1826 := left_of fun w => by kernel_rfl
@[reducible] noncomputable def kD : {d : DefRec × List (Str × Expr) // defOf kView PySem.Challenge.rw_re0021_02.name = some d} := ⟨_, rfl⟩
theorem kHead (walk : WalkO kView [] (XL kView []) (Hook.says (kmHook KH kAs kAs_eq [90])) PySem.Challenge.rw_re0021_02.row.toRowW kD.1.1 kD.1.2 fun f vs => PySem.call f vs) : PySem.Challenge.rw_re0021_02.Holds := by
  refine holds_law (said_of (by kernel_rfl)) fun said => ?_
  refine holds_open (q := kView) (loose := []) (Xt := fun s => xlAt kView [] s && recOk [] s) (XP := XL kView []) (Yf := Hook.obs kHk) (Ya := Hook.val kHk) (YP := Hook.says kHk) (N := 1826) kLeft (Hook.of kHk) (Hook.keeps kHk) (fun s e => xl_of s (Bool.and_eq_true_iff.mp e).1) XL.keeps kD.2 (by rfl) (by rfl) (fun s e => recFacts_of (Bool.and_eq_true_iff.mp e).2) (by rfl) said (by decide +kernel) ⟨rfl, rfl, rfl, rfl, rfl, by decide +kernel⟩ ?hw walk
  w_witness2
end Mine
end

/- part MineA -/
section
open PySem PySem.W PyProof.Rows
set_option Elab.async false
namespace Mine

/-! ## The ledger -/
abbrev Ent := Addr × (Obj → Prop)

structure Own (B h : Heap) (l : List Ent) : Prop where
  keep : ∀ b o, B.get? b = some o → h.get? b = some o
  own : ∀ p ∈ l, (∃ o, h.get? p.1 = some o ∧ p.2 o) ∧ B.get? p.1 = none
  nodup : (l.map (·.1)).Nodup

def Sub (B B' : Heap) : Prop := ∀ b o, B.get? b = some o → B'.get? b = some o
theorem Sub.refl (B : Heap) : Sub B B := fun _ _ e => e
theorem Sub.trans {A B C : Heap} (h : Sub A B) (k : Sub B C) : Sub A C := fun b o e => k b o (h b o e)

inductive Put (a : Addr) (P' : Obj → Prop) : List Ent → List Ent → Prop where
  | head {P : Obj → Prop} {l : List Ent} : Put a P' ((a, P) :: l) ((a, P') :: l)
  | tail {x : Ent} {l l' : List Ent} : Put a P' l l' → Put a P' (x :: l) (x :: l')

theorem Put.keys {a : Addr} {P' : Obj → Prop} {l l' : List Ent} (p : Put a P' l l') : l'.map (·.1) = l.map (·.1) := by
  induction p with
  | head => rfl
  | tail _ ih => simp only [List.map_cons, ih]
theorem Put.mem {a : Addr} {P' : Obj → Prop} {l l' : List Ent} (p : Put a P' l l') : a ∈ l.map (·.1) := by
  induction p with
  | head => exact .head _
  | tail _ ih => exact .tail _ ih
theorem Put.cases' {a : Addr} {P' : Obj → Prop} {l l' : List Ent} (p : Put a P' l l') (nd : (l.map (·.1)).Nodup) :
    ∀ q ∈ l', q = (a, P') ∨ (q ∈ l ∧ q.1 ≠ a) := by
  induction p with
  | head =>
    intro q hq
    rw [List.map_cons, List.nodup_cons] at nd
    rcases List.mem_cons.mp hq with rfl | hq
    · exact .inl rfl
    · exact .inr ⟨.tail _ hq, fun e => nd.1 (by have := List.mem_map_of_mem (f := (·.1)) hq; rw [e] at this; exact this)⟩
  | tail p ih =>
    intro q hq
    rw [List.map_cons, List.nodup_cons] at nd
    rcases List.mem_cons.mp hq with rfl | hq
    · exact .inr ⟨.head _, fun e => nd.1 (e ▸ p.mem)⟩
    · rcases ih nd.2 q hq with h | ⟨h, h'⟩
      · exact .inl h
      · exact .inr ⟨.tail _ h, h'⟩

theorem Own.get {B h : Heap} {l : List Ent} (O : Own B h l) {a : Addr} {P : Obj → Prop} (hm : (a, P) ∈ l) : ∃ o, h.get? a = some o ∧ P o := (O.own _ hm).1
theorem Own.ext {B h h' : Heap} {l : List Ent} (O : Own B h l) (hk : Sub h h') : Own B h' l :=
  ⟨fun b o e => hk b o (O.keep b o e), fun p hp => let ⟨⟨o, ho, hP⟩, hn⟩ := O.own p hp; ⟨⟨o, hk _ _ ho, hP⟩, hn⟩, O.nodup⟩
theorem Own.put {B h h' : Heap} {l l' : List Ent} {a : Addr} {P' : Obj → Prop} (O : Own B h l) (p : Put a P' l l')
    (hk : ∀ b o, b ≠ a → h.get? b = some o → h'.get? b = some o) (ha : ∃ o, h'.get? a = some o ∧ P' o) : Own B h' l' := by
  have hBa : B.get? a = none := by
    obtain ⟨q, hq, e⟩ := List.mem_map.mp p.mem
    exact e ▸ (O.own q hq).2
  refine ⟨fun b o e => hk b o (fun z => by subst z; rw [hBa] at e; cases e) (O.keep b o e), fun q hq => ?_, by rw [p.keys]; exact O.nodup⟩
  rcases p.cases' O.nodup q hq with rfl | ⟨h1, h2⟩
  · exact ⟨ha, hBa⟩
  · obtain ⟨⟨o, ho, hP⟩, hn⟩ := O.own q h1
    exact ⟨⟨o, hk _ _ h2 ho, hP⟩, hn⟩
theorem Own.putExt {B h h' : Heap} {l l' : List Ent} {a : Addr} {P' : Obj → Prop} (O : Own B h l) (p : Put a P' l l')
    (hk : Heap.ExtBut a h h') (ha : ∃ o, h'.get? a = some o ∧ P' o) : Own B h' l' := O.put p (fun b o hb e => hk b o hb e) ha
theorem Own.putSame {B h h' : Heap} {l l' : List Ent} {a : Addr} {P' : Obj → Prop} (O : Own B h l) (p : Put a P' l l')
    (hk : Heap.SameBut a h h') (ha : ∃ o, h'.get? a = some o ∧ P' o) : Own B h' l' := O.putExt p hk.extBut ha
theorem Own.notIn {B h : Heap} {l : List Ent} (O : Own B h l) {a : Addr} (hn : h.get? a = none) : B.get? a = none := by
  cases e : B.get? a with
  | none => rfl
  | some o => rw [O.keep _ _ e] at hn; cases hn
theorem Own.fresh {B h h' : Heap} {l : List Ent} {a : Addr} {P : Obj → Prop} (O : Own B h l) (hk : Sub h h') (hn : h.get? a = none) (ha : ∃ o, h'.get? a = some o ∧ P o) : Own B h' ((a, P) :: l) := by
  have O' := O.ext hk
  refine ⟨O'.keep, fun p hp => ?_, ?_⟩
  · rcases List.mem_cons.mp hp with rfl | hp
    · exact ⟨ha, O.notIn hn⟩
    · exact O'.own p hp
  · rw [List.map_cons, List.nodup_cons]
    refine ⟨fun hm => ?_, O.nodup⟩
    obtain ⟨q, hq, e⟩ := List.mem_map.mp hm
    obtain ⟨⟨o, ho, _⟩, _⟩ := O.own q hq
    rw [e, hn] at ho; cases ho
theorem get?_size (h : Heap) : h.get? h.objs.size = none := by
  cases e : h.get? h.objs.size with
  | none => rfl
  | some o => exact absurd (Heap.lt_size e) (Nat.lt_irrefl _)
theorem sub_push (h : Heap) (o : Obj) : Sub h (h.push o) := fun _ _ e => Heap.get?_push_of_some _ e
theorem Own.push {B h : Heap} {l : List Ent} {P : Obj → Prop} (O : Own B h l) (o : Obj) (hP : P o) (hf : o.isFreed = false := by rfl) : Own B (h.push o) ((h.objs.size, P) :: l) :=
  O.fresh (sub_push h o) (get?_size h) ⟨o, Heap.get?_push_size _ hf, hP⟩
theorem Own.junk {B h : Heap} {l : List Ent} (O : Own B h l) (o : Obj) : Own B (h.push o) l := O.ext (sub_push h o)
theorem Own.tail {B h : Heap} {x : Ent} {l : List Ent} (O : Own B h (x :: l)) : Own B h l :=
  ⟨O.keep, fun p hp => O.own p (.tail _ hp), (List.nodup_cons.mp O.nodup).2⟩
theorem Own.perm {B h : Heap} {l l' : List Ent} (O : Own B h l) (p : l.Perm l') : Own B h l' :=
  ⟨O.keep, fun q hq => O.own q (p.mem_iff.mpr hq), (p.map _).nodup_iff.mp O.nodup⟩
theorem Own.weak {B h : Heap} {a : Addr} {P P' : Obj → Prop} {l : List Ent} (O : Own B h ((a, P) :: l)) (hP : ∀ o, P o → P' o) : Own B h ((a, P') :: l) :=
  ⟨O.keep, fun q hq => by
    rcases List.mem_cons.mp hq with rfl | hq
    · obtain ⟨⟨o, ho, hp⟩, hn⟩ := O.own _ (.head _)
      exact ⟨⟨o, ho, hP o hp⟩, hn⟩
    · exact O.own q (.tail _ hq), O.nodup⟩
/-- an entry moved behind a written block -/
theorem Own.behind {B h : Heap} {x : Ent} {post : List Ent} (pre : List Ent) (O : Own B h (x :: (pre ++ post))) : Own B h (pre ++ x :: post) := O.perm List.perm_middle.symm
theorem Own.ahead {B h : Heap} {x : Ent} {post : List Ent} (pre : List Ent) (O : Own B h (pre ++ x :: post)) : Own B h (x :: (pre ++ post)) := O.perm List.perm_middle
theorem Own.cut {B h : Heap} {x : Ent} {post : List Ent} (pre : List Ent) (O : Own B h (pre ++ x :: post)) : Own B h (pre ++ post) := (O.ahead pre).tail
theorem Own.sub {B h : Heap} {l : List Ent} (O : Own B h l) : Sub B h := O.keep

/-- everything that is not of the written rest becomes ground -/
theorem Own.freeze {B h : Heap} {l : List Ent} (O : Own B h l) (l' : List Ent) (hl : ∀ p ∈ l', p ∈ l) (nd : (l'.map (·.1)).Nodup) :
    ∃ B', Sub B B' ∧ Own B' h l' ∧ ∀ a o, h.get? a = some o → a ∉ l'.map (·.1) → B'.get? a = some o := by
  have key : ∀ a o, h.get? a = some o → a ∉ l'.map (·.1) → (hideAll h (l'.map (·.1))).get? a = some o := fun a o e n => hideAll_get _ e n
  refine ⟨hideAll h (l'.map (·.1)), fun b o e => key b o (O.keep b o e) fun hm => ?_, ⟨fun b o e => of_hideAll _ e, fun p hp => ⟨(O.own p (hl p hp)).1, hideAll_none _ (List.mem_map_of_mem hp)⟩, nd⟩, key⟩
  obtain ⟨q, hq, rfl⟩ := List.mem_map.mp hm
  rw [(O.own q (hl q hq)).2] at e; cases e
/-- the head entry becomes ground -/
theorem Own.freeze1 {B h : Heap} {a : Addr} {P : Obj → Prop} {l : List Ent} (O : Own B h ((a, P) :: l)) : ∃ B', Sub B B' ∧ Own B' h l ∧ ∃ o, B'.get? a = some o ∧ P o := by
  obtain ⟨B', h1, h2, h3⟩ := O.freeze l (fun p hp => .tail _ hp) (List.nodup_cons.mp O.nodup).2
  obtain ⟨o, ho, hP⟩ := O.get (.head _)
  exact ⟨B', h1, h2, o, h3 a o ho (List.nodup_cons.mp O.nodup).1, hP⟩
theorem Own.freezeAt {B h : Heap} {a : Addr} {P : Obj → Prop} {post : List Ent} (pre : List Ent) (O : Own B h (pre ++ (a, P) :: post)) : ∃ B', Sub B B' ∧ Own B' h (pre ++ post) ∧ ∃ o, B'.get? a = some o ∧ P o := (O.ahead pre).freeze1

/-! ## What entries say -/
def NsP (m : Str → Option Value) : Obj → Prop := fun o => ∃ es ep, o.data = .dict es ep ∧ StrKeys es ∧ ∀ name, nsFind es name = m name
def ListP (vs : List Value) : Obj → Prop := fun o => ∃ n, o = { cls := .type "list", data := .seq vs.toArray n }
def TupP (vs : List Value) : Obj → Prop := fun o => ∃ n, o = { cls := .type "tuple", data := .seq vs.toArray n }
def CellP (v : Option Value) : Obj → Prop := fun o => o.data = .cell v
def EqP (o' : Obj) : Obj → Prop := fun o => o = o'
def AnyP : Obj → Prop := fun _ => True
def FieldsP (cls : String) (vs : List Value) : Obj → Prop := fun o => o = { cls := .type cls, data := .fields vs.toArray }

theorem Own.ns {B h : Heap} {l : List Ent} (O : Own B h l) {a : Addr} {m} (hm : (a, NsP m) ∈ l) : h.Ns a m := by obtain ⟨o, ho, es, ep, h1, h2, h3⟩ := O.get hm; exact ⟨o, es, ep, ho, h1, h2, h3⟩
theorem nsP_of {h : Heap} {a : Addr} {m} (x : h.Ns a m) : ∃ o, h.get? a = some o ∧ NsP m o := by obtain ⟨o, es, ep, ho, h1, h2, h3⟩ := x; exact ⟨o, ho, es, ep, h1, h2, h3⟩
theorem Own.list {B h : Heap} {l : List Ent} (O : Own B h l) {a : Addr} {vs} (hm : (a, ListP vs) ∈ l) : h.IsList a vs.toArray := by obtain ⟨_, ho, n, e⟩ := O.get hm; exact ⟨_, ho, e ▸ rfl, n, e ▸ rfl⟩
theorem Own.cell {B h : Heap} {l : List Ent} (O : Own B h l) {a : Addr} {v} (hm : (a, CellP v) ∈ l) : h.IsCell a v := by obtain ⟨o, ho, hd⟩ := O.get hm; exact ⟨o, ho, hd⟩
theorem Own.tup {B h : Heap} {l : List Ent} (O : Own B h l) {a : Addr} {vs} (hm : (a, TupP vs) ∈ l) : IsTup h a vs.toArray := by obtain ⟨_, ho, n, e⟩ := O.get hm; exact ⟨_, ho, e ▸ rfl, n, e ▸ rfl⟩
theorem Own.eq {B h : Heap} {l : List Ent} (O : Own B h l) {a : Addr} {o} (hm : (a, EqP o) ∈ l) : h.get? a = some o := by obtain ⟨_, ho, e⟩ := O.get hm; exact e ▸ ho

end Mine
end

/- part MineB -/
section
open PySem PySem.W PyProof.Rows PySem.Calls
set_option Elab.async false
namespace Mine
/-- a frame's map with one name laid anew -/
abbrev updM (m : Str → Option Value) (x : Str) (v : Option Value) : Str → Option Value := fun y => if y = x then v else m y

/-! ## Ground -/
structure Gr (K : Frag) (p : Program) (loose : List Str) (mg mb : Str → Option Value) (B : Heap) : Prop where
  X : K.In B
  T : TopRead p loose mg mb B
  bm : ∃ bm ob, mg "__builtins__" = some (.ref bm) ∧ bm ≠ builtinsNs ∧ B.get? bm = some ob ∧ ob.cls = .type "module" ∧ ob.dict = some builtinsNs ∧ ob.data = .plain
theorem Gr.mono {K p loose mg mb} {B B' : Heap} (G : Gr K p loose mg mb B) (h : Sub B B') : Gr K p loose mg mb B' :=
  ⟨fun a o e => h a o (G.X a o e), G.T.keeps h, let ⟨bm, ob, a, b, c, r⟩ := G.bm; ⟨bm, ob, a, b, h _ _ c, r⟩⟩

section
variable {prog : Program} {w : World} {A : Around} {E : Value → Shared → Prop} {s : Shared} {env : Env} {B : Heap} {l l' : List Ent} {m : Str → Option Value}
  {K : Frag} {p : Program} {loose : List Str} {mg mb : Str → Option Value}

theorem r_local {x : Str} {pos : Pos} {v : Value} {Q : Value → Shared → Prop} (O : Own B s.heap l) (hm : (env.locals, NsP m) ∈ l) (hv : m x = some v) (h : Q v s)
    (hk : env.scope.kind = .function := by rfl) (hl : env.kindOf x = some .local := by rfl) (hd : (x == ("__debug__" : Str)) = false := by decide) :
    wpAny (model prog w) A (eval (.Name x pos) env) Q E s := wpAny_Name (wpAny_loadName_local hk hl (O.ns hm) hv h) hd
theorem r_localN {x : Str} {v : Value} {Q : Value → Shared → Prop} (O : Own B s.heap l) (hm : (env.locals, NsP m) ∈ l) (hv : m x = some v) (h : Q v s)
    (hk : env.scope.kind = .function := by rfl) (hl : env.kindOf x = some .local := by rfl) :
    wpAny (model prog w) A (loadName env x) Q E s := wpAny_loadName_local hk hl (O.ns hm) hv h
theorem r_global {x : Str} {pos : Pos} {v : Value} {Q : Value → Shared → Prop} (O : Own B s.heap l) (G : Gr K p loose mg mb B) (e : nsIn K mainGlobals x = some (some v)) (h : Q v s)
    (hg : env.globals = mainGlobals := by rfl)
    (hk : env.scope.kind = .function := by rfl) (hl : env.kindOf x = some .globalImplicit := by rfl) (hd : (x == ("__debug__" : Str)) = false := by decide) :
    wpAny (model prog w) A (eval (.Name x pos) env) Q E s :=
  Name_function_global hk hl (loadGlobal_global (by rw [hg]; exact G.T.g.keeps O.keep) (mg_of G.X G.T.g e) h) hd
theorem r_builtin {x : Str} {pos : Pos} {v : Value} {Q : Value → Shared → Prop} (O : Own B s.heap l) (G : Gr K p loose mg mb B) (e : nsIn K mainGlobals x = some none) (hv : bootBuiltins x = some v) (h : Q v s) (hn : x ≠ "__name__" := by decide)
    (hg : env.globals = mainGlobals := by rfl) (hb : env.builtins = builtinsNs := by rfl)
    (hk : env.scope.kind = .function := by rfl) (hl : env.kindOf x = some .globalImplicit := by rfl) (hd : (x == ("__debug__" : Str)) = false := by decide) :
    wpAny (model prog w) A (eval (.Name x pos) env) Q E s :=
  Name_function_global hk hl (loadGlobal_builtin (by rw [hg]; exact G.T.g.keeps O.keep) (mg_none_of G.X G.T.g e) (by rw [hb]; exact G.T.b.keeps O.keep) ((G.T.builtins x hn).trans hv) h) hd
theorem r_cell {x : Str} {pos : Pos} {c : Addr} {v : Value} {Q : Value → Shared → Prop} (O : Own B s.heap l) (hc : env.cells.lookup x = some c) (hm : (c, CellP (some v)) ∈ l) (h : Q v s)
    (hk : env.scope.kind = .function := by rfl) (hl : env.kindOf x = some .cell := by rfl) (hd : (x == ("__debug__" : Str)) = false := by decide) :
    wpAny (model prog w) A (eval (.Name x pos) env) Q E s := wpAny_Name (wpAny_loadName_cell hk hl hc (O.cell hm) h) hd
theorem r_freeB {x : Str} {pos : Pos} {c : Addr} {v : Value} {Q : Value → Shared → Prop} (O : Own B s.heap l) (hc : env.cells.lookup x = some c) (hB : B.IsCell c (some v)) (h : Q v s)
    (hk : env.scope.kind = .function := by rfl) (hl : env.kindOf x = some .free := by rfl) (hd : (x == ("__debug__" : Str)) = false := by decide) (hn : (x == ("__classdict__" : Str)) = false := by decide) :
    wpAny (model prog w) A (eval (.Name x pos) env) Q E s := wpAny_Name (wpAny_loadName_free hk hl hc (hB.keeps O.keep) h hn) hd

theorem r_store {x : Str} {v : Value} {Q : Unit → Shared → Prop} (O : Own B s.heap l) (hm : (env.locals, NsP m) ∈ l) (hp : Put env.locals (NsP (updM m x (some v))) l l')
    (h : ∀ h', Own B h' l' → Q () { s with heap := h', toks := s.toks + 1 })
    (hl : env.kindOf x = some .local := by rfl)
    (hc : (env.scope.kind == .class || (env.scope.kind == .module && env.locals != env.globals)) = false := by rfl) : wpAny (model prog w) A (storeName env x v) Q E s :=
  wpAny_storeName_local hl (O.ns hm) (fun h' hn hs => h h' (O.putSame hp hs (nsP_of hn))) hc
theorem r_storeC {x : Str} {c : Addr} {v : Value} {v₀ : Option Value} {Q : Unit → Shared → Prop} (O : Own B s.heap l) (hc : env.cells.lookup x = some c) (hm : (c, CellP v₀) ∈ l) (hp : Put c (CellP (some v)) l l')
    (h : ∀ h', Own B h' l' → Q () { s with heap := h' })
    (hk : env.scope.kind = .function := by rfl) (hl : env.kindOf x = some .cell := by rfl) : wpAny (model prog w) A (storeName env x v) Q E s :=
  wpAny_storeName_cell hk hl hc (O.cell hm) fun h' hv hs => h h' (O.putSame hp hs (let ⟨o, ho, hd⟩ := hv; ⟨o, ho, hd⟩))

/-- a def of the ground is entered; it does not raise -/
theorem r_enter {f : Addr} {o : Obj} {fd : FuncData} {body : List Stmt} {args : Args} {binds : List (Str × Value)} {pre post : List Ent} {R : Result → Shared → Prop}
    (O : Own B s.heap (pre ++ post)) (hlim : B.NoLimit) (ho : B.get? f = some o) (hdata : o.data = .func fd) (hcd : B.CodeRec fd.code fd.qualname) (hroom : A.depth < recursionLimit)
    (hbody : fd.body = .stmts body) (hbind : BindsTo s fd args binds)
    (hcell : ∀ x ∈ fd.scope.names, x.2 ≠ .cell) (hloc : ∀ x ∈ binds, fd.scope.names.lookup x.1 = some .local)
    (h : ∀ L h₁, Own B h₁ (pre ++ (L, NsP fun x => binds.reverse.lookup x) :: post) →
      wpAny (model prog w) (A.deeper (callEnv fd L f)) (execs body (callEnv fd L f)) (fun fl s' => R (.ok (.ret (match fl with | .ret v => v | _ => .none))) s') (fun _ _ => False)
        { s with heap := h₁, toks := s.toks + binds.length })
    (hco : fd.scope.isCoroutine = false := by rfl) (hgen : fd.scope.isGenerator = false := by rfl) (hk : fd.scope.kind = .function := by rfl) :
    codeAny (model prog w) A (.call (.ref f) args) R s :=
  codeAny_call_def hroom (O.keep _ _ ho) hdata (hlim.keeps O.keep) (hcd.keeps O.keep) hbody hbind hcell hloc (fun h₀ hns hk₀ =>
    wpAny_mono (h _ h₀ ((O.fresh hk₀ (get?_size _) (nsP_of hns)).behind pre)) (fun _ _ x => x) fun _ _ x => x.elim) hco hgen hk

theorem r_call {f : Value} {args : List Value} {Q : Value → Shared → Prop}
    (h : codeAny (model prog w) A (.call f ⟨args, []⟩) (fun r s' => match r with | .ok (.ret v) => Q v s' | .ok _ => False | .error e => E e s') s) :
    wpAny (model prog w) A (call f args) Q E s := wpAny_call h

theorem r_callWith {pos : Pos} {f : Addr} {o : Obj} {fd : FuncData} {first : List Value} {e : Expr} {rest : List Expr} {Q : Value → Shared → Prop} (hdat : o.data = .func fd) (ho : B.get? f = some o)
    (h : wpAny (model prog w) A (spliced (backTo pos (starEach (e :: rest) env))) (fun vs s₁ => Sub B s₁.heap ∧ wpAny (model prog w) A (call (.ref f) (first ++ vs)) Q E s₁) E s)
    (he : starEach (e :: rest) env = (false, eval e env) :: starEach rest env := by rfl) :
    wpAny (model prog w) A (callWith pos (.ref f) first (backTo pos (starEach (e :: rest) env)) []) Q E s := callWith_meth hdat ho h he
theorem r_callWith0 {pos : Pos} {f : Addr} {o : Obj} {fd : FuncData} {first : List Value} {Q : Value → Shared → Prop} (hdat : o.data = .func fd) (O : Own B s.heap l) (ho : B.get? f = some o)
    (h : wpAny (model prog w) A (call (.ref f) first) Q E s) :
    wpAny (model prog w) A (callWith pos (.ref f) first (backTo pos (starEach [] env)) []) Q E s := callWith_meth0 hdat (O.keep _ _ ho) h

theorem r_list {vs : List Value} {Q : Value → Shared → Prop} (O : Own B s.heap l)
    (h : ∀ a h', Own B h' ((a, ListP vs) :: l) → Q (.ref a) { s with heap := h' }) (hsz : vs.length ≤ sizeLine := by size_fits) : wpAny (model prog w) A (newList vs) Q E s :=
  wpAny_newObj_type (h _ _ (O.push _ ⟨_, rfl⟩)) (by show vs.toArray.size ≤ sizeLine; rw [List.size_toArray]; exact hsz)
theorem r_tuple {vs : List Value} {Q : Value → Shared → Prop} (O : Own B s.heap l)
    (h : ∀ a h', Own B h' ((a, TupP vs) :: l) → Q (.ref a) { s with heap := h' }) (hsz : vs.length ≤ sizeLine := by size_fits) : wpAny (model prog w) A (newTuple vs) Q E s :=
  wpAny_newObj_type (h _ _ (O.push _ ⟨_, rfl⟩)) (by show vs.toArray.size ≤ sizeLine; rw [List.size_toArray]; exact hsz)
end

/-! ## The driver: plain steps -/
-- an entry of the ledger; a ledger with one entry put anew
local macro_rules | `(tactic| walk_at "mem") => `(tactic| (first | exact List.Mem.head _ | (refine List.Mem.tail _ ?_; walk_at "mem")))
local macro_rules | `(tactic| walk_at "put") => `(tactic| (first | exact Put.head | (apply Put.tail; walk_at "put")))
local macro_rules | `(tactic| walk_at "lk") => `(tactic| (first | exact rfl | assumption))
/-- a function stands there -/
def funcAt (K : Frag) (a : Addr) : Bool := match K.lookup a with | some o => (match o.data with | .func _ => true | _ => false) | none => false
theorem fn_of {K : Frag} {a : Addr} (h : funcAt K a = true) : ∃ o fd, K.lookup a = some o ∧ o.data = .func fd := by
  unfold funcAt at h
  cases ho : K.lookup a with
  | none => rw [ho] at h; cases h
  | some o =>
    rw [ho] at h
    cases hd : o.data with
    | func fd => exact ⟨o, fd, rfl, hd⟩
    | _ => simp only [hd] at h; cases h
end Mine
end

/- part MineC -/
section
open PySem PySem.W PyProof.Rows PySem.Calls
set_option Elab.async false
namespace Mine

/-- room: n more calls may be nested -/
structure Ar (A : Around) (n : Nat) : Prop where
  depth : A.depth + n < 1000
  units : A.units + 10 * n < 9900
  handled : A.handled = none
theorem Ar.room {A : Around} {n : Nat} (h : Ar A n) : A.depth < recursionLimit := by have := h.depth; show A.depth < 1000; (first | assumption | decide | exact Nat.le_trans (by assumption) (by decide) | exact Nat.sub_succ_lt_self _ _ (by assumption) | exact Nat.succ_le_of_lt (by assumption) | exact Nat.le_of_lt (by assumption) | lia | omega)
theorem Ar.deeper {A : Around} {n : Nat} (h : Ar A (n + 1)) (env : Env) : Ar (A.deeper env) n :=
  ⟨by have := h.depth; show A.depth + 1 + n < 1000; (first | assumption | decide | exact Nat.le_trans (by assumption) (by decide) | exact Nat.sub_succ_lt_self _ _ (by assumption) | exact Nat.succ_le_of_lt (by assumption) | exact Nat.le_of_lt (by assumption) | lia | omega), by have := h.units; show A.units + 3 + 10 * n < 9900; (first | assumption | decide | exact Nat.le_trans (by assumption) (by decide) | exact Nat.sub_succ_lt_self _ _ (by assumption) | exact Nat.succ_le_of_lt (by assumption) | exact Nat.le_of_lt (by assumption) | lia | omega), h.handled⟩
theorem Ar.in1 {A : Around} {n : Nat} (h : Ar A (n + 1)) : Ar A.in1 n :=
  ⟨by have := h.depth; show A.depth + n < 1000; (first | assumption | decide | exact Nat.le_trans (by assumption) (by decide) | exact Nat.sub_succ_lt_self _ _ (by assumption) | exact Nat.succ_le_of_lt (by assumption) | exact Nat.le_of_lt (by assumption) | lia | omega), by have := h.units; show A.units + 1 + 10 * n < 9900; (first | assumption | decide | exact Nat.le_trans (by assumption) (by decide) | exact Nat.sub_succ_lt_self _ _ (by assumption) | exact Nat.succ_le_of_lt (by assumption) | exact Nat.le_of_lt (by assumption) | lia | omega), h.handled⟩
theorem Ar.le {A : Around} {n m : Nat} (h : Ar A n) (hm : m ≤ n) : Ar A m := ⟨by have := h.depth; (first | assumption | decide | exact Nat.le_trans (by assumption) (by decide) | exact Nat.sub_succ_lt_self _ _ (by assumption) | exact Nat.succ_le_of_lt (by assumption) | exact Nat.le_of_lt (by assumption) | lia | omega), by have := h.units; (first | assumption | decide | exact Nat.le_trans (by assumption) (by decide) | exact Nat.sub_succ_lt_self _ _ (by assumption) | exact Nat.succ_le_of_lt (by assumption) | exact Nat.le_of_lt (by assumption) | lia | omega), h.handled⟩
theorem Ar.cunits {A : Around} {n : Nat} (h : Ar A n) : A.units < cLine := by have := h.units; show A.units < 9900; (first | assumption | decide | exact Nat.le_trans (by assumption) (by decide) | exact Nat.sub_succ_lt_self _ _ (by assumption) | exact Nat.succ_le_of_lt (by assumption) | exact Nat.le_of_lt (by assumption) | lia | omega)

theorem lookIn_of {m : Str → Option Value} {o : Obj} (hn : NsP m o) (x : Str) : lookIn x o = some (m x) := by
  obtain ⟨es, ep, hd, hk, hf⟩ := hn
  unfold lookIn
  rw [hd]
  have h1 := hf x
  unfold nsFind findBy at h1
  dsimp only
  rw [← Array.find?_toList] at h1
  split
  · rename_i e he
    rw [he] at h1
    rw [← h1]; rfl
  · rename_i he
    rw [he] at h1
    have h2 : es.toList.any (·.refKey) = false := by
      rw [List.any_eq_false]
      intro e hm
      obtain ⟨n, t, hk'⟩ := hk e (Array.mem_toList_iff.mp hm)
      unfold DictEntry.refKey
      rw [hk']; simp
    rw [h2, ← h1]; rfl

/-- a dict of an object: what it holds, and its size -/
def NsZ (k : Nat) (m : Str → Option Value) : Obj → Prop := fun o => o.cls = .type "dict" ∧ ∃ es ep, o.data = .dict es ep ∧ StrKeys es ∧ (∀ name, nsFind es name = m name) ∧ es.size ≤ k
theorem NsZ.ns {k : Nat} {m : Str → Option Value} {o : Obj} (h : NsZ k m o) : NsP m o := by obtain ⟨_, es, ep, a, b, c, _⟩ := h; exact ⟨es, ep, a, b, c⟩

section
variable {prog : Program} {w : World} {A : Around} {E : Value → Shared → Prop} {s : Shared} {B : Heap} {l l' : List Ent} {m : Str → Option Value}
  {K : Frag} {p : Program} {loose : List Str} {mg mb : Str → Option Value} {x C d : Addr} {sl : Array (Option Value)} {name : Str} {v : Value}

theorem Own.inst {k : Nat} (O : Own B s.heap l) (hx : B.get? x = some ⟨.ref C, some d, .plain, sl⟩) (hm : (d, NsZ k m) ∈ l) : ∃ od, NsP m od ∧ s.heap.get? d = some od ∧ InstAt s.heap x ⟨.ref C, some d, .plain, sl⟩ C (some od) := by
  obtain ⟨od, ho, hn⟩ := O.get hm
  exact ⟨od, hn.ns, ho, O.keep _ _ hx, rfl, rfl, ho⟩

/-- an attribute out of the object's dict -/
theorem r_getattr {k : Nat} {expr : Bool} {Q : Value → Shared → Prop} (O : Own B s.heap l) (G : Gr K p loose mg mb B) (hx : B.get? x = some ⟨.ref C, some d, .plain, sl⟩) (hm : (d, NsZ k m) ∈ l) (hv : m name = some v)
    (hg : plainGet K C name = true) (hh : hasDictIn K C = true) (ha : findIn K (.ref C) name = some none) (hv' : handedIn v = true) (h : Q v { s with toks := s.toks + 1 }) :
    wpAny (model prog w) A (getAttr (.ref x) name expr) Q E s := by
  obtain ⟨od, hn, ho, I⟩ := O.inst hx hm
  exact get_value (fun a o e => O.keep a o (G.X a o e)) I (plainGet_of hg).1 (findObj_own hh ha rfl (by rw [lookIn_of hn, hv])) hv' h
/-- a method of the class -/
theorem r_method {k : Nat} {pl : Sem Bool} {f : Addr} {Q : Value × List Value → Shared → Prop} (O : Own B s.heap l) (G : Gr K p loose mg mb B) (hx : B.get? x = some ⟨.ref C, some d, .plain, sl⟩) (hm : (d, NsZ k m) ∈ l) (hv : m name = none)
    (hg : plainGet K C name = true) (hf : findIn K (.ref C) name = some (some (.ref f))) (ht : typeIn K (.ref f) = some (.type "function")) (h : Q (.ref f, [.ref x]) s) :
    wpAny (model prog w) A (getMethod (.ref x) name pl) Q E s := by
  obtain ⟨od, hn, ho, I⟩ := O.inst hx hm
  exact method_fn (fun a o e => O.keep a o (G.X a o e)) I (plainGet_of hg).1 (plainGet_of hg).2 hf ht (by show (lookIn name od).map _ = _; rw [lookIn_of hn, hv]; rfl) h

end

theorem nsZ_put {k : Nat} {m : Str → Option Value} {o : Obj} (hn : NsZ k m o) (name : Str) (hash : Int) (t : Tok) (v : Value) :
    NsZ (if (m name).isSome then k else k + 1) (fun x => if x = name then some v else m x) (Obj.putName name hash (.str name t) v o) ∧ (Obj.putName name hash (.str name t) v o).isFreed = false := by
  obtain ⟨hc, es, ep, hd, hk, hm, hz⟩ := hn
  obtain ⟨c, d, dt, sl⟩ := o
  dsimp only at hd hc
  subst hd hc
  cases hi : es.findIdx? (·.key.isStr name) with
  | some i =>
    have e : Obj.putName name hash (.str name t) v ⟨.type "dict", d, .dict es ep, sl⟩ = ⟨.type "dict", d, .dict (es.modify i fun e => { e with val := v }) ep, sl⟩ := by
      simp only [Obj.putName_eq, Obj.putNameByArray, hi]
    rw [e]
    have hs : (m name).isSome = true := by
      rw [← hm]
      unfold nsFind findBy
      have := Array.findIdx?_eq_some_iff_getElem.mp hi
      obtain ⟨hlt, hp, _⟩ := this
      cases hf : es.find? (fun x => x.key.isStr name) with
      | none =>
        rw [Array.find?_eq_none] at hf
        exact absurd hp (hf _ (Array.getElem_mem hlt))
      | some e => rfl
    rw [hs]
    refine ⟨⟨rfl, _, _, rfl, hk.modify _ _, fun x => ?_, by simpa using hz⟩, rfl⟩
    show _ = if x = name then some v else m x
    rw [← hm]; exact findBy_modify (fun n v => v.isStr n) Value.isStr_inj es name x v i hi
  | none =>
    have e : Obj.putName name hash (.str name t) v ⟨.type "dict", d, .dict es ep, sl⟩ = ⟨.type "dict", d, .dict (es.push ⟨hash, .str name t, v⟩) (ep + 1), sl⟩ := by
      simp only [Obj.putName_eq, Obj.putNameByArray, hi]
    rw [e]
    refine ⟨⟨rfl, _, _, rfl, hk.push _ _ _ _, fun x => ?_, ?_⟩, rfl⟩
    · show _ = if x = name then some v else m x
      rw [← hm]
      exact findBy_push (fun n v => v.isStr n) es name x _ _ v (fun y => by
        show (name == y) = decide (y = name)
        by_cases h : y = name
        · subst h; simp
        · have : ¬ name = y := fun e => h e.symm
          simp [h, this]) hi
    · have hs : (m name).isSome = false := by
        rw [← hm]
        unfold nsFind findBy
        rw [Array.findIdx?_eq_none_iff] at hi
        cases hf : es.find? (fun x => x.key.isStr name) with
        | none => rfl
        | some e =>
          have h1 := Array.find?_some hf
          have h2 := hi e (Array.mem_of_find?_eq_some hf)
          exact absurd h1 (by simpa using h2)
      rw [hs]
      simpa using hz

section
variable {prog : Program} {w : World} {A : Around} {E : Value → Shared → Prop} {s : Shared} {B : Heap} {l l' : List Ent} {m : Str → Option Value}
  {K : Frag} {p : Program} {loose : List Str} {mg mb : Str → Option Value} {x C d : Addr} {sl : Array (Option Value)} {name : Str} {v : Value} {k k' : Nat}

/-- a name laid into a dict of the ledger, the dict's size looked at -/
theorem r_storeInDict {tk : Tok} {Q : Fin → Shared → Prop} (O : Own B s.heap l) (hm : (d, NsZ k m) ∈ l) (hk : (if (m name).isSome then k else k + 1) = k') (hp : Put d (NsZ k' fun y => if y = name then some v else m y) l l')
    (hz : k' ≤ 1000) (h : ∀ h', Own B h' l' → Q (.done (.ret .none)) { s with heap := h', toks := s.toks + 1 }) :
    wpAny (model prog w) A (Builtin.ObjectAttr.storeInDict d (.str name tk) name v) Q E s := by
  obtain ⟨od, ho, hn⟩ := O.get hm
  have hn' := nsZ_put hn name (PyData.keyHash w.params name) s.toks v
  rw [hk] at hn'
  refine wpAny_bind (wpAny_pure (wpAny_bind ?_))
  unfold nsSet
  refine wpAny_bind (wpAny_bind (wpAny_askSetting (wpAny_pure (wpAny_bind (wpAny_mkText (wpAny_bind (wpAny_loadPart ho ?_)))))))
  obtain ⟨hc, es, ep, hd, hk, hm', hz'⟩ := id hn
  have hany : es.any (·.refKey) = false := by
    rw [Array.any_eq_false']; intro e he; obtain ⟨n, t, h⟩ := hk e he; simp [DictEntry.refKey, h]
  simp only [hd, aRefKeyMayBeTheName_at, hany, Bool.and_false, Bool.false_eq_true, if_false]
  refine wpAny_updatePart ho ?_
  have g : (s.heap.update d (Obj.putName name (PyData.keyHash w.params name) (.str name s.toks) v)).get? d = some (Obj.putName name (PyData.keyHash w.params name) (.str name s.toks) v od) := Heap.get?_update_self _ ho hn'.2
  have hs : Heap.SameBut d s.heap (s.heap.update d (Obj.putName name (PyData.keyHash w.params name) (.str name s.toks) v)) := Heap.SameBut.update ..
  obtain ⟨⟨_, es', ep', hd', _, _, hz''⟩, _⟩ := id hn'
  refine wpAny_bind (wpAny_lookBehind g (by rw [hd']; exact pastItsLine_dict (by rw [sizeLine_eq]; (first | assumption | decide | exact Nat.le_trans (by assumption) (by decide) | exact Nat.sub_succ_lt_self _ _ (by assumption) | exact Nat.succ_le_of_lt (by assumption) | exact Nat.le_of_lt (by assumption) | lia | omega))) ?_)
  exact wpAny_pure (h _ (O.putSame hp hs ⟨_, g, hn'.1⟩))

/-- an attribute laid into the object's dict -/
theorem r_setattr {Q : Unit → Shared → Prop} (O : Own B s.heap l) (G : Gr K p loose mg mb B) (hx : B.get? x = some ⟨.ref C, some d, .plain, sl⟩) (hm : (d, NsZ k m) ∈ l)
    (hk : (if (m name).isSome then k else k + 1) = k') (hp : Put d (NsZ k' fun y => if y = name then some v else m y) l l') (hz : k' ≤ 1000)
    (hs : findIn K (.ref C) "__setattr__" = some (some (.builtin "object.__setattr__"))) (hpo : plainOver K C = true) (ht : takerIn K C name = some none) (hh : hasDictIn K C = true)
    (h : ∀ h', Own B h' l' → Q () { s with heap := h', toks := s.toks + 2 }) :
    wpAny (model prog w) A (setAttr (.ref x) name v) Q E s := by
  obtain ⟨od, ho, hn⟩ := O.get hm
  have I : InstAt s.heap x ⟨.ref C, some d, .plain, sl⟩ C (some od) := ⟨O.keep _ _ hx, rfl, rfl, ho⟩
  have X : K.In s.heap := fun a o e => O.keep a o (G.X a o e)
  refine set_plain X I hs (osa_open (s := { s with toks := s.toks + 1 }) X I hpo ht fun b => ?_)
  obtain ⟨cd, hc, hd'⟩ := any_some hh
  refine wpAny_bind (wpAny_pure ?_)
  refine wpAny_bind (m := Builtin.ObjectAttr.ownDictForStores _) ?_
  refine wpAny_bind (wpAny_loadPart (O.keep _ _ hx) (wpAny_bind ((looks_clsIn X hc) _ _ _ _ (fun _ _ e => e) ?_)))
  rw [hd']
  refine wpAny_pure (a := some d) ?_
  exact r_storeInDict (s := { s with toks := s.toks + 1 }) O hm hk hp hz fun h' O' => h h' O'
end

/-! ## a def's own attributes -/
theorem lk_fn_ga : typeLookup (.type "function") "__getattribute__" = pure (some (.builtin "object.__getattribute__")) := by rw [typeLookup_type, builtinLookup_eq_fast]; kernel_rfl
theorem lk_fn_hook : typeLookup (.type "function") "__getattr__" = pure none := by rw [typeLookup_type, builtinLookup_eq_fast]; kernel_rfl
theorem lk_fn_read : typeLookup (.type "function") "read" = pure none := by rw [typeLookup_type, builtinLookup_eq_fast]; kernel_rfl
theorem slot_fn_ga : Slot "function" "__getattribute__" "object.__getattribute__" :=
  .of (owner := "object") (n := "__getattribute__") lk_fn_ga (by decide +kernel) (by decide +kernel) (by decide +kernel)
    (by first | exact .inl (by decide +kernel) | exact .inr (by decide +kernel)) (by rw [isSubtype_type]; kernel_rfl)
theorem slot_fn_sa : Slot "function" "__setattr__" "object.__setattr__" :=
  .of (owner := "object") (n := "__setattr__") (by rw [typeLookup_type, builtinLookup_eq_fast]; kernel_rfl) (by decide +kernel) (by decide +kernel) (by decide +kernel)
    (by first | exact .inl (by decide +kernel) | exact .inr (by decide +kernel)) (by rw [isSubtype_type]; kernel_rfl)
section
variable {prog : Program} {w : World} {A : Around} {E : Value → Shared → Prop} {s : Shared} {fs d : Addr} {o od : Obj} {m : Str → Option Value} {v : Value}

theorem find_fn {h : Heap} {M : Model} (ho : h.get? fs = some o) (hc : o.cls = .type "function") (hd : o.dict = some d) (hf : ∃ fd, o.data = .func fd) (hdd : h.get? d = some od) (hn : NsP m od) (hv : m "read" = some v) :
    Looks M h (Builtin.ObjectAttr.find (.ref fs) (.type "function") "read") (.value v) := by
  obtain ⟨fd, hf⟩ := hf
  obtain ⟨es, ep, h1, h2, h3⟩ := hn
  intro A Q E s k q
  have ns : s.heap.Ns d m := ⟨od, es, ep, k _ _ hdd, h1, h2, h3⟩
  refine wpAny_bind ((Looks.of_pure lk_fn_read) A _ E s (fun _ _ e => e) ?_)
  refine wpAny_bind (wpAny_pure (wpAny_bind (wpAny_pure (wpAny_bind (wpAny_bind (wpAny_bind (wpAny_loadPart (k _ _ ho) ?_)))))))
  rw [hf]
  refine wpAny_bind (wpAny_loadPart (k _ _ ho) ?_)
  rw [hc, hd]
  refine wpAny_pure (a := some d) (wpAny_nsGet ns ?_)
  rw [hv]
  exact wpAny_bind (wpAny_rule (wpAny_pure q))

theorem getattr_fn {expr : Bool} {Q : Value → Shared → Prop} (ho : s.heap.get? fs = some o) (hc : o.cls = .type "function") (hd : o.dict = some d) (hf : ∃ fd, o.data = .func fd) (hdd : s.heap.get? d = some od) (hn : NsP m od)
    (hv : m "read" = some v) (hh : handedIn v = true) (h : Q v { s with toks := s.toks + 1 }) : wpAny (model prog w) A (getAttr (.ref fs) "read" expr) Q E s := by
  have L := find_fn (M := model prog w) ho hc hd hf hdd hn hv
  have T : ({ s with toks := s.toks + 1 } : Shared).TypeIs (.ref fs) "function" := ⟨o, ho, hc⟩
  have Ty : ∀ {A : Around} {E : Value → Shared → Prop} {Q : Value → Shared → Prop}, Q (.type "function") { s with toks := s.toks + 1 } → wpAny (model prog w) A (typeOf (.ref fs)) Q E { s with toks := s.toks + 1 } :=
    fun q => wpAny_bind (wpAny_loadPart ho (by rw [hc]; exact wpAny_pure q))
  unfold getAttr getAttrBy
  refine wpAny_bind (wpAny_mkText (wpAny_holding (wpAny_bind (Ty (wpAny_bind ((Looks.of_pure lk_fn_ga) _ _ _ _ (fun _ _ e => e) ?_))))))
  show wpAny _ _ (getAttrByItsOwn _ _ (.type "function") (.builtin "object.__getattribute__") true expr) _ _ _
  unfold getAttrByItsOwn
  refine wpAny_bind (wpAny_pure (wpAny_bind (wpAny_attempt (wpAny_holding ?_))))
  show wpAny _ _ (callGetattribute (.ref fs) _ (.builtin "object.__getattribute__") expr) _ _ _
  have e : callGetattribute (.ref fs) (.str "read" s.toks) (.builtin "object.__getattribute__") expr = boundAndCalled (.builtin "object.__getattribute__") (.ref fs) (.str "read" s.toks) := by
    unfold callGetattribute; cases expr <;> rfl
  rw [e]
  unfold boundAndCalled
  rw [slot_fn_ga.bind]
  refine wpAny_bind (wpAny_pure (wpAny_call_entry (s := { s with toks := s.toks + 1 }) slot_fn_ga T PySem.F.entry_object_getattribute ?_ (PySem.F.args_object_getattribute_2 _ _)))
  unfold Builtin.«object.__getattribute__»
  refine wpAny_bind (wpAny_of_eq (a := (Value.ref fs, [Value.str (Str.ofString "read") s.toks])) rfl ?_)
  refine wpAny_bind (wpAny_of_eq (a := Str.ofString "read") rfl ?_)
  refine wpAny_bind (Ty (wpAny_bind (L _ _ _ _ (fun _ _ e => e) ?_)))
  refine wpAny_pure ⟨v, rfl, ?_⟩
  show wpAny _ _ (handedOut v) _ _ _
  rw [handedOut_of hh]; exact wpAny_pure h

theorem method_fnAttr {pl : Sem Bool} {Q : Value × List Value → Shared → Prop} (ho : s.heap.get? fs = some o) (hc : o.cls = .type "function") (hd : o.dict = some d) (hf : ∃ fd, o.data = .func fd) (hdd : s.heap.get? d = some od) (hn : NsP m od)
    (hv : m "read" = some v) (hh : handedIn v = true) (h : Q (v, []) { s with toks := s.toks + 1 }) : wpAny (model prog w) A (getMethod (.ref fs) "read" pl) Q E s := by
  have T : s.TypeIs (.ref fs) "function" := ⟨o, ho, hc⟩
  have hcan := PySem.F.canon_object_ga
  unfold getMethod
  refine wpAny_bind (wpAny_specialOf T lk_fn_ga ?_)
  dsimp only
  rw [hcan, if_neg (by decide)]
  refine wpAny_bind (wpAny_specialOf T lk_fn_hook ?_)
  refine wpAny_bind (wpAny_specialOf T lk_fn_read ?_)
  exact wpAny_bind (getattr_fn ho hc hd hf hdd hn hv hh (wpAny_pure h))

theorem mro_fn : mroOf (.type "function") = pure [.type "function", .type "object"] := by kernel_rfl
theorem passes_fn (self : Value) : refuseLoop self "__setattr__" [.type "function", .type "object"] = pure () := by kernel_rfl
theorem hasDict_fn : typeHasDict (.type "function") = true := by decide +kernel
theorem fin_fn : finalisedInACycleAlone "function" = false := by decide +kernel

/-- a name laid on a def of the ledger that has no dict yet -/
theorem setattr_fn {B : Heap} {l : List Ent} {l' : Addr → List Ent} {fd : FuncData} {Q : Unit → Shared → Prop} (O : Own B s.heap l) (hm : (fs, EqP ⟨.type "function", none, .func fd, #[]⟩) ∈ l)
    (hp : ∀ d, Put fs (EqP ⟨.type "function", some d, .func fd, #[]⟩) l (l' d) )
    (h : ∀ d h' t, Own B h' ((d, NsZ 1 fun y => if y = "read" then some v else none) :: l' d) → Q () { s with heap := h', toks := t }) :
    wpAny (model prog w) A (setAttr (.ref fs) "read" v) Q E s := by
  have ho := O.eq hm
  have T : ({ s with toks := s.toks + 1 } : Shared).TypeIs (.ref fs) "function" := ⟨_, ho, rfl⟩
  unfold setAttr
  refine wpAny_bind (wpAny_mkText (wpAny_bind (wpAny_callSpecial?_slot (s := { s with toks := s.toks + 1 }) T slot_fn_sa (wpAny_call_entry (s := { s with toks := s.toks + 1 }) slot_fn_sa T PySem.F.entry_object_sa ?_ (PySem.F.store_object.args _ _ _)))))
  have Ty : ∀ {A : Around} {E : Value → Shared → Prop} {Q : Value → Shared → Prop}, Q (.type "function") { s with toks := s.toks + 1 } → wpAny (model prog w) A (typeOf (.ref fs)) Q E { s with toks := s.toks + 1 } :=
    fun q => wpAny_bind (wpAny_loadPart ho (wpAny_pure q))
  rw [osa_eq, refuse_eq]
  refine wpAny_bind (wpAny_bind (Ty (wpAny_bind ((Looks.of_pure mro_fn) _ _ _ _ (fun _ _ e => e) ?_))))
  rw [passes_fn]
  refine wpAny_pure (wpAny_bind (Ty (wpAny_bind ((Looks.of_pure lk_fn_read) _ _ _ _ (fun _ _ e => e) (wpAny_bind (wpAny_pure ?_))))))
  show wpAny _ _ (Builtin.ObjectAttr.storeInOwnDict (.ref fs) (.type "function") _ _ v _) _ _ _
  refine wpAny_bind (wpAny_of_eq (a := ()) (by kernel_rfl) ?_)
  show wpAny _ _ (Builtin.ObjectAttr.ownDictForStores (.ref fs) >>= _) _ _ _
  refine wpAny_bind (wpAny_bind (wpAny_loadPart ho ?_))
  show wpAny _ _ (if (!true || !typeHasDict (.type "function")) = true then _ else _) _ _ _
  rw [hasDict_fn, if_neg (by decide)]
  refine wpAny_bind (wpAny_alloc ?_)
  have O1 := O.push (P := NsZ 0 fun _ => none) { cls := .type "dict", data := .dict #[] } ⟨rfl, #[], 0, rfl, (fun e he => by cases he with | mk h => exact nomatch h), (fun _ => rfl), Nat.le_refl _⟩
  have ho1 := O1.eq (.tail _ hm)
  refine wpAny_bind (wpAny_update ho1 ?_)
  have O2 := O1.putSame (Put.tail (hp s.heap.objs.size)) (Heap.SameBut.update _ _ (fun o => { o with dict := some s.heap.objs.size })) ⟨_, Heap.get?_update_self _ ho1 rfl, rfl⟩
  refine wpAny_of_eq (a := some s.heap.objs.size) (by unfold dictMade; dsimp only; rw [fin_fn]; rfl) ?_
  exact r_storeInDict (k' := 1) (s := ⟨_, s.gens, s.drawn, s.toks + 1, s.os⟩) O2 (.head _) rfl Put.head (by (first | assumption | decide | exact Nat.le_trans (by assumption) (by decide) | exact Nat.sub_succ_lt_self _ _ (by assumption) | exact Nat.succ_le_of_lt (by assumption) | exact Nat.le_of_lt (by assumption) | lia | omega)) fun h' O' => ⟨_, rfl, wpAny_pure (h _ h' _ O')⟩
end
end Mine
end

/- part MineD -/
section
open PySem PySem.W PyProof.Rows PySem.Calls
set_option Elab.async false
namespace Mine

/-! ## bound methods; iterators by a callable and a sentinel -/
theorem slot_cit_next : Slot "callable_iterator" "__next__" "callable_iterator.__next__" :=
  .of (owner := "callable_iterator") (n := "__next__") (by rw [typeLookup_type, builtinLookup_eq_fast]; kernel_rfl) (by decide +kernel) (by decide +kernel) (by decide +kernel)
    (by first | exact .inl (by decide +kernel) | exact .inr (by decide +kernel)) (by rw [isSubtype_type]; kernel_rfl)
theorem slot_cit_iter : Slot "callable_iterator" "__iter__" "callable_iterator.__iter__" :=
  .of (owner := "callable_iterator") (n := "__iter__") (by rw [typeLookup_type, builtinLookup_eq_fast]; kernel_rfl) (by decide +kernel) (by decide +kernel) (by decide +kernel)
    (by first | exact .inl (by decide +kernel) | exact .inr (by decide +kernel)) (by rw [isSubtype_type]; kernel_rfl)
theorem entry_cit_next : entryFor table "callable_iterator.__next__" = some Builtin.«callable_iterator.__next__» := entryFor_of_tree (by kernel_rfl)
theorem entry_cit_iter : entryFor table "callable_iterator.__iter__" = some Builtin.«dict_keyiterator.__iter__» :=
  entryFor_alias (id' := "dict_keyiterator.__iter__") (by kernel_rfl) rfl (by decide +kernel) (by kernel_rfl)
theorem args_cit_next (a : Value) : argsOk "callable_iterator.__next__" ⟨[a], []⟩ := by unfold argsOk; kernel_rfl
theorem args_cit_iter (a : Value) : argsOk "callable_iterator.__iter__" ⟨[a], []⟩ := by unfold argsOk; kernel_rfl
theorem kind_iter : builtinKind "iter" = none := by decide +kernel
theorem plain_iter : plainId "iter" = true := by decide +kernel
theorem entry_iter : entryFor table "iter" = some Builtin.«iter» := entryFor_of_tree (by kernel_rfl)
theorem args_iter_2 (a b : Value) : argsOk "iter" ⟨[a, b], []⟩ := by unfold argsOk; kernel_rfl
theorem lk_method_call : ∃ v, typeLookup (.type "method") "__call__" = pure (some v) := ⟨.builtin "method.__call__", by rw [typeLookup_type, builtinLookup_eq_fast]; kernel_rfl⟩

abbrev citObj (f v : Value) : Obj := { cls := .type "callable_iterator", data := .fields #[f, v, .bool false] }
abbrev citEnd : Obj := { cls := .type "callable_iterator", data := .fields #[.none, .none, .bool true] }

section
variable {prog : Program} {w : World} {A : Around} {E : Value → Shared → Prop} {s : Shared} {B : Heap} {l l' : List Ent} {m : Str → Option Value}
  {K : Frag} {p : Program} {loose : List Str} {mg mb : Str → Option Value} {x C d f : Addr} {sl : Array (Option Value)} {name : Str} {v : Value} {k k' : Nat}

/-- a method read as a value -/
theorem r_bound {expr : Bool} {Q : Value → Shared → Prop} (O : Own B s.heap l) (G : Gr K p loose mg mb B) (hx : B.get? x = some ⟨.ref C, some d, .plain, sl⟩) (hm : (d, NsZ k m) ∈ l) (hv : m name = none)
    (hg : plainGet K C name = true) (hh : hasDictIn K C = true) (ha : findIn K (.ref C) name = some (some (.ref f))) (hf : isFn K (.ref f) = true)
    (hgf : specialIn K (.ref f) "__get__" = some (some (.builtin "function.__get__"))) (ht : takesIn K (.ref f) = some false) (hc : copiedNames.contains name = false)
    (h : ∀ q h', Own B h' ((q, EqP (methodObj (.ref f) (.ref x))) :: l) → Q (.ref q) { s with heap := h', toks := s.toks + 1 }) : wpAny (model prog w) A (getAttr (.ref x) name expr) Q E s := by
  obtain ⟨od, hn, ho, I⟩ := O.inst hx hm
  have X : K.In s.heap := fun a o e => O.keep a o (G.X a o e)
  exact get_bind X I (plainGet_of hg).1 (findObj_fn hh ha hgf ht hc (by rw [lookIn_of hn, hv])) (plainGet_of hg).2
    (wpAny_call (fn_get (s := { s with toks := s.toks + 1 }) X (beq_iff_eq.mp hf) (handed_on rfl (h s.heap.objs.size _ (O.push _ rfl)))))

theorem r_iter2 {bm : Addr} {a b : Value} {Q : Value → Shared → Prop} (O : Own B s.heap l) (hm : (bm, EqP (methodObj a b)) ∈ l)
    (h : ∀ it h', Own B h' ((it, EqP (citObj (.ref bm) v)) :: l) → Q (.ref it) { s with heap := h' }) : wpAny (model prog w) A (call (.builtin "iter") [.ref bm, v]) Q E s := by
  refine Calls.call_function_entry kind_iter plain_iter entry_iter (args_iter_2 _ _) ?_
  unfold Builtin.«iter»
  refine wpAny_bind (wpAny_of_eq (a := [.ref bm, v]) (by first | rfl | kernel_rfl) ?_)
  obtain ⟨c, hc⟩ := lk_method_call
  refine wpAny_bind (wpAny_specialOf (T := "method") ⟨_, O.eq hm, rfl⟩ hc ?_)
  refine wpAny_bind (wpAny_rule ?_)
  exact wpAny_bind (wpAny_newObj_type (wpAny_pure ⟨_, rfl, h _ _ (O.push _ rfl)⟩))

theorem pyIter_cit {it : Addr} {a b : Value} {Q : Value → Shared → Prop} (ho : s.heap.get? it = some (citObj a b)) (h : Q (.ref it) s) : wpAny (model prog w) A (pyIter (.ref it)) Q E s := by
  have T : s.TypeIs (.ref it) "callable_iterator" := ⟨_, ho, rfl⟩
  refine wpAny_pyIter_slot T slot_cit_iter (wpAny_call_entry slot_cit_iter T entry_cit_iter ?_ (args_cit_iter _))
  unfold Builtin.«dict_keyiterator.__iter__»
  refine wpAny_bind (wpAny_of_eq (a := (Value.ref it, [])) (by first | rfl | kernel_rfl) ?_)
  exact wpAny_pure ⟨_, rfl, _, _, T, slot_cit_next.lookup, h⟩

theorem borrows {bm fn : Addr} {self : Value} {o : Obj} {fd : FuncData} {Q : Bool → Shared → Prop} (hb : s.heap.get? bm = some (methodObj (.ref fn) self)) (hf : s.heap.get? fn = some o) (hd : o.data = .func fd) (h : Q true s) :
    wpAny (model prog w) A (borrowsExactly (.ref bm)) Q E s := by
  unfold borrowsExactly
  refine wpAny_bind (wpAny_load hb ?_)
  show wpAny _ _ (load fn >>= _) _ _ _
  refine wpAny_bind (wpAny_load hf ?_)
  rw [hd]
  exact wpAny_pure h

/-- the next word of an iterator by a bound method and a written text as sentinel -/
theorem pyNext_cit {it bm fn : Addr} {self : Value} {o : Obj} {fd : FuncData} {y : Str} {u : Tok} {Q : Option Value → Shared → Prop} (hh : A.handled = none)
    (hi : s.heap.get? it = some (citObj (.ref bm) (.str y u))) (hb : s.heap.get? bm = some (methodObj (.ref fn) self)) (hf : s.heap.get? fn = some o) (hd : o.data = .func fd)
    (h : codeAny (model prog w) A.in1 (.call (.ref fn) ⟨[self], []⟩) (fun r s' => ∃ x t, r = .ok (.ret (.str x t)) ∧ s'.heap.get? it = some (citObj (.ref bm) (.str y u)) ∧ s'.heap.get? bm = some (methodObj (.ref fn) self) ∧ s'.heap.get? fn = some o ∧
      (x ≠ y → Q (some (.str x t)) s') ∧ (x = y → ∀ h', Heap.ExtBut it s'.heap h' → h'.get? it = some citEnd → Q none { s' with heap := h' })) s) :
    wpAny (model prog w) A (pyNext (.ref it)) Q E s := by
  have T : s.TypeIs (.ref it) "callable_iterator" := ⟨_, hi, rfl⟩
  unfold pyNext
  refine wpAny_bind (wpAny_attempt (wpAny_callSpecial?_slot (name := Str.ofString "__next__") T slot_cit_next (wpAny_call_entry slot_cit_next T entry_cit_next ?_ (args_cit_next _))))
  unfold Builtin.«callable_iterator.__next__»
  refine wpAny_bind (wpAny_of_eq (a := (Value.ref it, [])) (by first | rfl | kernel_rfl) ?_)
  refine wpAny_bind (wpAny_field hi rfl (x := .bool false) rfl ?_)
  show wpAny _ _ (field (.ref it) 0 >>= _) _ _ _
  refine wpAny_bind (wpAny_field hi rfl (x := .ref bm) rfl (wpAny_bind (wpAny_attempt ?_)))
  unfold callOutOfASlot
  refine wpAny_bind (borrows hb hf hd ?_)
  show wpAny _ _ (callBorrowed (.ref bm) []) _ _ _
  unfold callBorrowed
  refine X.x_call (codeAny_mono (method_call hb h) fun r s' z => ?_) (by intro e; cases e)
  obtain ⟨x, t, rfl, hi', hb', hf', z1, z2⟩ := z
  dsimp only
  refine wpAny_pure (wpAny_bind (wpAny_field hi' rfl (x := .bool false) rfl ?_))
  show wpAny _ _ (field (.ref it) 1 >>= _) _ _ _
  refine wpAny_bind (wpAny_field hi' rfl (x := .str y u) rfl (wpAny_bind (wpAny_holding (eqBool_str ?_))))
  by_cases hxy : x = y
  · subst hxy
    rw [show (x == x) = true from beq_self_eq_true x]
    refine wpAny_bind (wpAny_rule (wpAny_bind ?_))
    show wpAny _ _ (field (.ref it) 0 >>= _) _ _ _
    refine wpAny_bind (wpAny_field hi' rfl (x := .ref bm) rfl ?_)
    refine wpAny_bind ?_
    unfold slotLetsGo
    refine wpAny_bind (borrows hb' hf' hd (wpAny_pure ?_))
    refine wpAny_bind (wpAny_setField hi' rfl (by simp) ?_)
    refine wpAny_bind (wpAny_setField (Heap.get?_update_self _ hi' rfl) rfl (by simp) ?_)
    refine wpAny_setField (Heap.get?_update_self _ (Heap.get?_update_self _ hi' rfl) rfl) rfl (by simp) ?_
    show wpAny _ _ (newExc (.type "StopIteration") [] >>= _) _ _ _
    refine wpAny_bind ?_
    simp only [newExc, newTuple]
    refine wpAny_bind (wpAny_newObj_type ?_ (by size_fits))
    refine wpAny_bind (m := firstArgMember _ _) (wpAny_of_eq (a := Value.none) (by first | rfl | (simp only [firstArgMember]; rfl)) ?_)
    refine wpAny_newObj_type ?_ (by size_fits)
    simp only [raiseNew]
    refine wpAny_bind (wpAny_handled ?_)
    rw [show A.in1.handled = none from hh]
    refine wpAny_bind (wpAny_pure (wpAny_throw ?_))
    refine wpAny_bind (wpAny_isInstance (T := "StopIteration") (b := true) ⟨_, Heap.get?_push_size _ rfl, rfl⟩ isSubtype_stop ?_)
    refine wpAny_pure (z2 rfl _ ?_ ?_)
    · exact (((((Heap.SameBut.update ..).trans (Heap.SameBut.update ..)).trans (Heap.SameBut.update ..)).extBut.push _).push _)
    · exact Heap.get?_push_of_some _ (Heap.get?_push_of_some _ (Heap.get?_update_self _ (Heap.get?_update_self _ (Heap.get?_update_self _ hi' rfl) rfl) rfl))
  · rw [show (y == x) = false from beq_eq_false_iff_ne.mpr fun e => hxy e.symm]
    exact wpAny_pure ⟨_, rfl, wpAny_pure (z1 hxy)⟩

/-- an iterator that has ended -/
theorem pyNext_citEnd {it : Addr} {Q : Option Value → Shared → Prop} (hh : A.handled = none) (hi : s.heap.get? it = some citEnd) (h : ∀ h', Sub s.heap h' → Q none { s with heap := h' }) :
    wpAny (model prog w) A (pyNext (.ref it)) Q E s := by
  have T : s.TypeIs (.ref it) "callable_iterator" := ⟨_, hi, rfl⟩
  unfold pyNext
  refine wpAny_bind (wpAny_attempt (wpAny_callSpecial?_slot (name := Str.ofString "__next__") T slot_cit_next (wpAny_call_entry slot_cit_next T entry_cit_next ?_ (args_cit_next _))))
  unfold Builtin.«callable_iterator.__next__»
  refine wpAny_bind (wpAny_of_eq (a := (Value.ref it, [])) (by first | rfl | kernel_rfl) ?_)
  refine wpAny_bind (wpAny_field hi rfl (x := .bool true) rfl ?_)
  refine wpAny_bind (wpAny_rule ?_)
  show wpAny _ _ (_ >>= _) _ _ _
  refine wpAny_bind ?_
  show wpAny _ _ (newExc (.type "StopIteration") [] >>= _) _ _ _
  refine wpAny_bind ?_
  simp only [newExc, newTuple]
  refine wpAny_bind (wpAny_newObj_type ?_ (by size_fits))
  refine wpAny_bind (m := firstArgMember _ _) (wpAny_of_eq (a := Value.none) (by first | rfl | (simp only [firstArgMember]; rfl)) ?_)
  refine wpAny_newObj_type ?_ (by size_fits)
  simp only [raiseNew]
  refine wpAny_bind (wpAny_handled ?_)
  rw [show A.in1.handled = none from hh]
  refine wpAny_bind (wpAny_pure (wpAny_throw ?_))
  refine wpAny_bind (wpAny_isInstance (T := "StopIteration") (b := true) ⟨_, Heap.get?_push_size _ rfl, rfl⟩ isSubtype_stop ?_)
  exact wpAny_pure (h _ ((sub_push _ _).trans (sub_push _ _)))
end
end Mine
end

/- part MineE -/
section
open PySem PySem.W PyProof.Rows PySem.Calls PySem.Builtin.Str
set_option Elab.async false
namespace Mine

/-! ## texts -/
theorem str_ext {x y : Str} (h : x.cps.toList = y.cps.toList) : x = y := by
  obtain ⟨⟨a⟩⟩ := x; obtain ⟨⟨b⟩⟩ := y
  simp only at h; subst h; rfl
theorem sliceIdx (a b n : Nat) : strSliceIndices (some (a : Int)) (some (b : Int)) 1 n = (List.range (min b n - min a n)).map (min a n + ·) := by
  unfold strSliceIndices
  simp only [show (1 : Int) > 0 by decide, if_true]
  rw [if_neg (show ¬ ((a : Int) < 0) by (first | assumption | decide | exact Nat.le_trans (by assumption) (by decide) | exact Nat.sub_succ_lt_self _ _ (by assumption) | exact Nat.succ_le_of_lt (by assumption) | exact Nat.le_of_lt (by assumption) | lia | omega)), if_neg (show ¬ ((b : Int) < 0) by (first | assumption | decide | exact Nat.le_trans (by assumption) (by decide) | exact Nat.sub_succ_lt_self _ _ (by assumption) | exact Nat.succ_le_of_lt (by assumption) | exact Nat.le_of_lt (by assumption) | lia | omega))]
  rw [show max (0 : Int) (min (a : Int) n) = ((min a n : Nat) : Int) by (first | assumption | decide | exact Nat.le_trans (by assumption) (by decide) | exact Nat.sub_succ_lt_self _ _ (by assumption) | exact Nat.succ_le_of_lt (by assumption) | exact Nat.le_of_lt (by assumption) | lia | omega), show max (0 : Int) (min (b : Int) n) = ((min b n : Nat) : Int) by (first | assumption | decide | exact Nat.le_trans (by assumption) (by decide) | exact Nat.sub_succ_lt_self _ _ (by assumption) | exact Nat.succ_le_of_lt (by assumption) | exact Nat.le_of_lt (by assumption) | lia | omega)]
  exact sliceRange_one _ _
theorem drop_take_min {α : Type} (xs : List α) (a b : Nat) : (xs.drop (min a xs.length)).take (min b xs.length - min a xs.length) = (xs.drop a).take (b - a) := by
  by_cases h : a ≤ xs.length
  · rw [Nat.min_eq_left h]
    by_cases hb : b ≤ xs.length
    · rw [Nat.min_eq_left hb]
    · rw [Nat.min_eq_right (by (first | assumption | decide | exact Nat.le_trans (by assumption) (by decide) | exact Nat.sub_succ_lt_self _ _ (by assumption) | exact Nat.succ_le_of_lt (by assumption) | exact Nat.le_of_lt (by assumption) | lia | omega)), List.take_of_length_le (by simp), List.take_of_length_le (by simp; (first | assumption | decide | exact Nat.le_trans (by assumption) (by decide) | exact Nat.sub_succ_lt_self _ _ (by assumption) | exact Nat.succ_le_of_lt (by assumption) | exact Nat.le_of_lt (by assumption) | lia | omega))]
  · rw [Nat.min_eq_right (a := a) (by (first | assumption | decide | exact Nat.le_trans (by assumption) (by decide) | exact Nat.sub_succ_lt_self _ _ (by assumption) | exact Nat.succ_le_of_lt (by assumption) | exact Nat.le_of_lt (by assumption) | lia | omega)), List.drop_length, List.drop_of_length_le (by (first | assumption | decide | exact Nat.le_trans (by assumption) (by decide) | exact Nat.sub_succ_lt_self _ _ (by assumption) | exact Nat.succ_le_of_lt (by assumption) | exact Nat.le_of_lt (by assumption) | lia | omega))]; simp
theorem txt_slice (x : Str) (a b : Nat) : Txt.slice x (some (a : Int)) (some (b : Int)) = ⟨((x.cps.toList.drop a).take (b - a)).toArray⟩ := by
  have e : ((strSliceIndices (some (a : Int)) (some (b : Int)) 1 x.length).filterMap (x.cps[·]?)) = (x.cps.toList.drop a).take (b - a) := by
    rw [sliceIdx, pick_run]
    exact drop_take_min x.cps.toList a b
  unfold Txt.slice
  split
  · rename_i h
    apply str_ext
    rw [← e]
    have hl : (strSliceIndices (some (a : Int)) (some (b : Int)) 1 x.length).length = x.length := by simpa using h
    rw [sliceIdx] at hl ⊢
    simp only [List.length_map, List.length_range] at hl
    rw [pick_run]
    show x.cps.toList = _
    have hz : x.length = x.cps.toList.length := rfl
    rw [hz] at hl ⊢
    by_cases h0 : x.cps.toList.length = 0
    · rw [List.length_eq_zero_iff.mp h0]; simp
    · have : min a x.cps.toList.length = 0 := by (first | assumption | decide | exact Nat.le_trans (by assumption) (by decide) | exact Nat.sub_succ_lt_self _ _ (by assumption) | exact Nat.succ_le_of_lt (by assumption) | exact Nat.le_of_lt (by assumption) | lia | omega)
      rw [hl, this, List.drop_zero, List.take_length]
  · rw [e]

def one (c : Nat) : Str := ⟨#[c]⟩
theorem slice_at {x : Str} {cs : List Nat} (hx : x.cps.toList = cs) (p : Nat) : Txt.slice x (some (p : Int)) (some ((p : Int) + 1)) = ⟨((cs.drop p).take 1).toArray⟩ := by
  have := txt_slice x p (p + 1)
  rw [hx] at this
  simpa using this

section
variable {prog : Program} {w : World} {A : Around} {E : Value → Shared → Prop} {s : Shared} {B : Heap} {l l' : List Ent} {value slice : Expr} {x : Str} {t : Tok} {Q : Value → Shared → Prop}

theorem keptOwn : KeptH (fun h => Own B h l) := fun _ o O => O.junk o
theorem r_slice_ss {i j : Int} {ui uj : Tok} (O : Own B s.heap l) (h : ∀ h' t' k, Own B h' l → Q (.str (Txt.slice x (some i) (some j)) t') { s with heap := h', toks := k })
    (hsz : x.length ≤ sizeLine)
    (hs : subscripted slice false (.str x t) (.ref s.heap.objs.size) = operate [.ref s.heap.objs.size, .str x t] (getItem (.str x t) (.ref s.heap.objs.size)) := by with_unfolding_all rfl)
    (ht : ∀ r, letTemporaryGo value (.str x t) r = pure () := by intro _; with_unfolding_all rfl) :
    wpAny (model prog w) A (subscriptTail value slice (.str x t) (.ref s.heap.objs.size)) Q E { s with heap := s.heap.push { cls := .type "slice", data := .fields #[.int i ui, .int j uj, .none] } } :=
  tail_of_ItemOn (SBH.sliceItem_ss keptOwn O h hsz) hs ht
theorem r_slice_ns {j : Int} {uj : Tok} (O : Own B s.heap l) (h : ∀ h' t' k, Own B h' l → Q (.str (Txt.slice x none (some j)) t') { s with heap := h', toks := k })
    (hsz : x.length ≤ sizeLine)
    (hs : subscripted slice false (.str x t) (.ref s.heap.objs.size) = operate [.ref s.heap.objs.size, .str x t] (getItem (.str x t) (.ref s.heap.objs.size)) := by with_unfolding_all rfl)
    (ht : ∀ r, letTemporaryGo value (.str x t) r = pure () := by intro _; with_unfolding_all rfl) :
    wpAny (model prog w) A (subscriptTail value slice (.str x t) (.ref s.heap.objs.size)) Q E { s with heap := s.heap.push { cls := .type "slice", data := .fields #[.none, .int j uj, .none] } } :=
  tail_of_ItemOn (SBH.sliceItem_ns keptOwn O h hsz) hs ht

/-- an item of a list -/
theorem r_item {a : Addr} {vs : List Value} {k : Int} {u : Tok} {v : Value} (hl : s.heap.IsList a vs.toArray) (h0 : 0 ≤ k) (hhi : k < 2 ^ 63) (hx : vs[k.toNat]? = some v) (h : Q v s)
    (hs : subscripted slice false (.ref a) (.int k u) = operate [.ref a, .int k u] (getItem (.ref a) (.int k u)) := by with_unfolding_all rfl) :
    wpAny (model prog w) A (subscriptTail value slice (.ref a) (.int k u)) Q E s :=
  tail_any hl.typeIs slot_list_getitem.lookup (wpAny_getItem_list hl h0 hhi (by simpa using hx) h) hs

/-! lists of the ledger -/
theorem r_append {a : Addr} {vs : List Value} {v : Value} (O : Own B s.heap l) (hm : (a, ListP vs) ∈ l) (hp : Put a (ListP (vs ++ [v])) l l') (hz : vs.length ≤ sizeLine)
    (h : ∀ h', Own B h' l' → Q .none { s with heap := h' }) : wpAny (model prog w) A (call (.builtin "list.append") [.ref a, v]) Q E s := by
  obtain ⟨o, ho, n, rfl⟩ := O.get hm
  exact append_at (hsz := by rw [List.size_toArray]; exact hz) ho fun h' hs ho' => h h' (O.putSame hp hs ⟨_, ho', n + 1, by simp⟩)
theorem r_pop0 {a : Addr} {vs : List Value} {v : Value} {t : Tok} (O : Own B s.heap l) (hm : (a, ListP (v :: vs)) ∈ l) (hp : Put a (ListP vs) l l') (hz : vs.length + 1 ≤ sizeLine)
    (h : ∀ h', Own B h' l' → Q v { s with heap := h' }) : wpAny (model prog w) A (call (.builtin "list.pop") [.ref a, .int 0 t]) Q E s := by
  obtain ⟨o, ho, n, rfl⟩ := O.get hm
  have hz' : (v :: vs).toArray.size ≤ sizeLine := by rw [List.size_toArray]; exact hz
  refine call_meets PySem.F.slot_list_pop ⟨_, ho, rfl⟩ PySem.F.entry_list_pop (PySem.F.args_list_pop_2 _ _) (PySem.MeetsSeq.list_pop_at a _ n 0 t 0 v (by decide) (by simp [seqIndex?]) (by simp) hz') ⟨ho, h _ (O.putSame hp (Heap.SameBut.update ..) ⟨_, Heap.get?_update_self _ ho rfl, n + 1, ?_⟩)⟩
  simp [Obj.mapSeq]
theorem r_listMeth {a : Addr} {vs : List Value} {name : Str} {id : String} {pl : Sem Bool} {Q : Value × List Value → Shared → Prop} (O : Own B s.heap l) (hm : (a, ListP vs) ∈ l) (slot : Slot "list" name id) (hty : typeOf (.builtin id) = pure (.type "method_descriptor"))
    (h : Q (.builtin id, [.ref a]) s) : wpAny (model prog w) A (getMethod (.ref a) name pl) Q E s := by
  obtain ⟨o, ho, n, rfl⟩ := O.get hm
  exact getMethod_builtin ⟨_, ho, rfl⟩ PySem.F.plainAttrs_list slot hty (fun b e => by cases e; exact ⟨_, ho, rfl⟩) h
theorem r_truthyL {a : Addr} {vs : List Value} {Q : Bool → Shared → Prop} (O : Own B s.heap l) (hm : (a, ListP vs) ∈ l) (hz : vs.length ≤ sizeLine) (h : Q (!vs.isEmpty) { s with toks := s.toks + 1 + 1 }) :
    wpAny (model prog w) A (truthy (.ref a)) Q E s :=
  wpAny_truthy_list (O.list hm) (by rw [List.size_toArray]; rw [sizeLine_eq] at hz; (first | assumption | decide | exact Nat.le_trans (by assumption) (by decide) | exact Nat.sub_succ_lt_self _ _ (by assumption) | exact Nat.succ_le_of_lt (by assumption) | exact Nat.le_of_lt (by assumption) | lia | omega)) (by rw [List.isEmpty_toArray]; exact h)
end
end Mine
end

/- part MineR -/
section
open PySem PySem.W PyProof.Rows PySem.Calls
set_option Elab.async false
namespace Mine

/-! ## the rules over a written state ⟨heap, generators, draws, tokens, system⟩: states stay flat -/
section
variable {prog : Program} {w : World} {A : Around} {E : Value → Shared → Prop} {h : Heap} {g : Array GenState} {dr : Drawn} {tk : Nat} {os : OsState} {env : Env} {B : Heap} {l l' : List Ent} {m : Str → Option Value}
  {K : Frag} {p : Program} {loose : List Str} {mg mb : Str → Option Value}

theorem x_store {x : Str} {v : Value} {Q : Unit → Shared → Prop} (O : Own B h l) (hm : (env.locals, NsP m) ∈ l) (hp : Put env.locals (NsP (updM m x (some v))) l l')
    (k : ∀ h' t', Own B h' l' → Q () ⟨h', g, dr, t', os⟩)
    (hl : env.kindOf x = some .local := by rfl)
    (hc : (env.scope.kind == .class || (env.scope.kind == .module && env.locals != env.globals)) = false := by rfl) : wpAny (model prog w) A (storeName env x v) Q E ⟨h, g, dr, tk, os⟩ :=
  r_store (s := ⟨h, g, dr, tk, os⟩) O hm hp (fun h' O' => k h' _ O') hl hc
theorem x_storeC {x : Str} {c : Addr} {v : Value} {v₀ : Option Value} {Q : Unit → Shared → Prop} (O : Own B h l) (hc : env.cells.lookup x = some c) (hm : (c, CellP v₀) ∈ l) (hp : Put c (CellP (some v)) l l')
    (k : ∀ h' t', Own B h' l' → Q () ⟨h', g, dr, t', os⟩)
    (hk : env.scope.kind = .function := by rfl) (hl : env.kindOf x = some .cell := by rfl) : wpAny (model prog w) A (storeName env x v) Q E ⟨h, g, dr, tk, os⟩ :=
  r_storeC (s := ⟨h, g, dr, tk, os⟩) O hc hm hp (fun h' O' => k h' _ O') hk hl
theorem x_list {vs : List Value} {Q : Value → Shared → Prop} (O : Own B h l) (k : ∀ a h' t', Own B h' ((a, ListP vs) :: l) → Q (.ref a) ⟨h', g, dr, t', os⟩) (hsz : vs.length ≤ sizeLine := by size_fits) :
    wpAny (model prog w) A (newList vs) Q E ⟨h, g, dr, tk, os⟩ := r_list (s := ⟨h, g, dr, tk, os⟩) O (fun a h' O' => k a h' _ O') hsz
theorem x_tuple {vs : List Value} {Q : Value → Shared → Prop} (O : Own B h l) (k : ∀ a h' t', Own B h' ((a, TupP vs) :: l) → Q (.ref a) ⟨h', g, dr, t', os⟩) (hsz : vs.length ≤ sizeLine := by size_fits) :
    wpAny (model prog w) A (newTuple vs) Q E ⟨h, g, dr, tk, os⟩ := r_tuple (s := ⟨h, g, dr, tk, os⟩) O (fun a h' O' => k a h' _ O') hsz
theorem x_cint {i : Int} {n : Nat} {pos : Pos} {Q : Value → Shared → Prop} (k : ∀ t t', Q (.int i t) ⟨h, g, dr, t', os⟩) : wpAny (model prog w) A (eval (.Constant (.int i) n pos) env) Q E ⟨h, g, dr, tk, os⟩ := wpAny_Constant_int (k _ _)
theorem x_cstr {x : Str} {n : Nat} {pos : Pos} {Q : Value → Shared → Prop} (k : ∀ t t', Q (.str x t) ⟨h, g, dr, t', os⟩) : wpAny (model prog w) A (eval (.Constant (.str x) n pos) env) Q E ⟨h, g, dr, tk, os⟩ := Calls.Constant_str (k _ _)
theorem x_addI {a b : Int} {t u : Tok} {Q : Value → Shared → Prop} (k : ∀ t t', Q (.int (a + b) t) ⟨h, g, dr, t', os⟩) : wpAny (model prog w) A (binaryOp .Add (.int a t) (.int b u)) Q E ⟨h, g, dr, tk, os⟩ := add_int (k _ _)
theorem x_iaddI {a b : Int} {t u : Tok} {Q : Value → Shared → Prop} (k : ∀ t t', Q (.int (a + b) t) ⟨h, g, dr, t', os⟩) : wpAny (model prog w) A (inplaceOp .Add (.int a t) (.int b u)) Q E ⟨h, g, dr, tk, os⟩ := iadd_int (k _ _)
theorem x_addS {x y : Str} {t u : Tok} {Q : Value → Shared → Prop} (hz : x.length + y.length ≤ sizeLine) (k : ∀ t t', Q (.str (x ++ y) t) ⟨h, g, dr, t', os⟩) : wpAny (model prog w) A (binaryOp .Add (.str x t) (.str y u)) Q E ⟨h, g, dr, tk, os⟩ := add_str (fun t' t'' => k _ _) hz
theorem x_iaddS {x y : Str} {t u : Tok} {Q : Value → Shared → Prop} (hz : x.length + y.length ≤ sizeLine) (k : ∀ t t', Q (.str (x ++ y) t) ⟨h, g, dr, t', os⟩) : wpAny (model prog w) A (inplaceOp .Add (.str x t) (.str y u)) Q E ⟨h, g, dr, tk, os⟩ := PyProof.Rows.iadd_str (fun t' t'' => k _ _) hz
theorem x_lenS {x : Str} {t : Tok} {Q : Value → Shared → Prop} (hz : x.length ≤ 1000000000) (k : ∀ t t', Q (.int (x.length : Int) t) ⟨h, g, dr, t', os⟩) : wpAny (model prog w) A (call (.builtin "len") [.str x t]) Q E ⟨h, g, dr, tk, os⟩ := SBL.len (by (first | assumption | decide | exact Nat.le_trans (by assumption) (by decide) | exact Nat.sub_succ_lt_self _ _ (by assumption) | exact Nat.succ_le_of_lt (by assumption) | exact Nat.le_of_lt (by assumption) | lia | omega)) (k _ _)
theorem x_sliceSS {value slice : Expr} {x : Str} {t : Tok} {i j : Int} {ui uj : Tok} {Q : Value → Shared → Prop} (O : Own B h l) (hsz : x.length ≤ sizeLine) (k : ∀ h' t t', Own B h' l → Q (.str (Txt.slice x (some i) (some j)) t) ⟨h', g, dr, t', os⟩)
    (hs : subscripted slice false (.str x t) (.ref h.objs.size) = operate [.ref h.objs.size, .str x t] (getItem (.str x t) (.ref h.objs.size)) := by with_unfolding_all rfl)
    (ht : ∀ r, letTemporaryGo value (.str x t) r = pure () := by intro _; with_unfolding_all rfl) :
    wpAny (model prog w) A (subscriptTail value slice (.str x t) (.ref h.objs.size)) Q E ⟨h.push { cls := .type "slice", data := .fields #[.int i ui, .int j uj, .none] }, g, dr, tk, os⟩ :=
  r_slice_ss (s := ⟨h, g, dr, tk, os⟩) O (fun h' t' k' O' => k h' t' k' O') hsz hs ht
theorem x_sliceNS {value slice : Expr} {x : Str} {t : Tok} {j : Int} {uj : Tok} {Q : Value → Shared → Prop} (O : Own B h l) (hsz : x.length ≤ sizeLine) (k : ∀ h' t t', Own B h' l → Q (.str (Txt.slice x none (some j)) t) ⟨h', g, dr, t', os⟩)
    (hs : subscripted slice false (.str x t) (.ref h.objs.size) = operate [.ref h.objs.size, .str x t] (getItem (.str x t) (.ref h.objs.size)) := by with_unfolding_all rfl)
    (ht : ∀ r, letTemporaryGo value (.str x t) r = pure () := by intro _; with_unfolding_all rfl) :
    wpAny (model prog w) A (subscriptTail value slice (.str x t) (.ref h.objs.size)) Q E ⟨h.push { cls := .type "slice", data := .fields #[.none, .int j uj, .none] }, g, dr, tk, os⟩ :=
  r_slice_ns (s := ⟨h, g, dr, tk, os⟩) O (fun h' t' k' O' => k h' t' k' O') hsz hs ht
theorem x_append {a : Addr} {vs : List Value} {v : Value} {Q : Value → Shared → Prop} (O : Own B h l) (hm : (a, ListP vs) ∈ l) (hp : Put a (ListP (vs ++ [v])) l l') (hz : vs.length ≤ sizeLine)
    (k : ∀ h' t', Own B h' l' → Q .none ⟨h', g, dr, t', os⟩) : wpAny (model prog w) A (call (.builtin "list.append") [.ref a, v]) Q E ⟨h, g, dr, tk, os⟩ := r_append (s := ⟨h, g, dr, tk, os⟩) O hm hp hz fun h' O' => k h' _ O'
theorem x_pop0 {a : Addr} {vs : List Value} {v : Value} {t : Tok} {Q : Value → Shared → Prop} (O : Own B h l) (hm : (a, ListP (v :: vs)) ∈ l) (hp : Put a (ListP vs) l l') (hz : vs.length + 1 ≤ sizeLine)
    (k : ∀ h' t', Own B h' l' → Q v ⟨h', g, dr, t', os⟩) : wpAny (model prog w) A (call (.builtin "list.pop") [.ref a, .int 0 t]) Q E ⟨h, g, dr, tk, os⟩ := r_pop0 (s := ⟨h, g, dr, tk, os⟩) O hm hp hz fun h' O' => k h' _ O'
theorem x_truthyL {a : Addr} {vs : List Value} {Q : Bool → Shared → Prop} (O : Own B h l) (hm : (a, ListP vs) ∈ l) (hz : vs.length ≤ sizeLine) (k : ∀ t', Q (!vs.isEmpty) ⟨h, g, dr, t', os⟩) :
    wpAny (model prog w) A (truthy (.ref a)) Q E ⟨h, g, dr, tk, os⟩ := r_truthyL (s := ⟨h, g, dr, tk, os⟩) O hm hz (k _)

section
variable {x C d f : Addr} {sl : Array (Option Value)} {name : Str} {v : Value} {n n' : Nat}
theorem x_getattr {expr : Bool} {Q : Value → Shared → Prop} (O : Own B h l) (G : Gr K p loose mg mb B) (hx : B.get? x = some ⟨.ref C, some d, .plain, sl⟩) (hm : (d, NsZ n m) ∈ l) (hv : m name = some v)
    (hg : plainGet K C name = true) (hh : hasDictIn K C = true) (ha : findIn K (.ref C) name = some none) (hv' : handedIn v = true) (k : ∀ t', Q v ⟨h, g, dr, t', os⟩) :
    wpAny (model prog w) A (getAttr (.ref x) name expr) Q E ⟨h, g, dr, tk, os⟩ := r_getattr (s := ⟨h, g, dr, tk, os⟩) O G hx hm hv hg hh ha hv' (k _)
theorem x_setattr {Q : Unit → Shared → Prop} (O : Own B h l) (G : Gr K p loose mg mb B) (hx : B.get? x = some ⟨.ref C, some d, .plain, sl⟩) (hm : (d, NsZ n m) ∈ l)
    (hk : (if (m name).isSome then n else n + 1) = n') (hp : Put d (NsZ n' fun y => if y = name then some v else m y) l l') (hz : n' ≤ 1000)
    (hs : findIn K (.ref C) "__setattr__" = some (some (.builtin "object.__setattr__"))) (hpo : plainOver K C = true) (ht : takerIn K C name = some none) (hh : hasDictIn K C = true)
    (k : ∀ h' t', Own B h' l' → Q () ⟨h', g, dr, t', os⟩) : wpAny (model prog w) A (setAttr (.ref x) name v) Q E ⟨h, g, dr, tk, os⟩ :=
  r_setattr (s := ⟨h, g, dr, tk, os⟩) O G hx hm hk hp hz hs hpo ht hh fun h' O' => k h' _ O'
theorem x_bound {expr : Bool} {Q : Value → Shared → Prop} (O : Own B h l) (G : Gr K p loose mg mb B) (hx : B.get? x = some ⟨.ref C, some d, .plain, sl⟩) (hm : (d, NsZ n m) ∈ l) (hv : m name = none)
    (hg : plainGet K C name = true) (hh : hasDictIn K C = true) (ha : findIn K (.ref C) name = some (some (.ref f))) (hf : isFn K (.ref f) = true)
    (hgf : specialIn K (.ref f) "__get__" = some (some (.builtin "function.__get__"))) (ht : takesIn K (.ref f) = some false) (hc : copiedNames.contains name = false)
    (k : ∀ q h' t', Own B h' ((q, EqP (methodObj (.ref f) (.ref x))) :: l) → Q (.ref q) ⟨h', g, dr, t', os⟩) : wpAny (model prog w) A (getAttr (.ref x) name expr) Q E ⟨h, g, dr, tk, os⟩ :=
  r_bound (s := ⟨h, g, dr, tk, os⟩) O G hx hm hv hg hh ha hf hgf ht hc fun q h' O' => k q h' _ O'
theorem x_iter2 {bm : Addr} {a b : Value} {Q : Value → Shared → Prop} (O : Own B h l) (hm : (bm, EqP (methodObj a b)) ∈ l)
    (k : ∀ it h' t', Own B h' ((it, EqP (citObj (.ref bm) v)) :: l) → Q (.ref it) ⟨h', g, dr, t', os⟩) : wpAny (model prog w) A (call (.builtin "iter") [.ref bm, v]) Q E ⟨h, g, dr, tk, os⟩ :=
  r_iter2 (s := ⟨h, g, dr, tk, os⟩) O hm fun it h' O' => k it h' _ O'
end

theorem x_enterK {f : Addr} {oc : Value} {od : Option Addr} {osl : Array (Option Value)} {name qual : Str} {params : Arguments} {body : List Stmt} {scope : Scope} {dV kV doc pm cdv ct : Value} {an : Option Addr} {args : List Value} {binds : List (Str × Value)} {pre post : List Ent} {R : Result → Shared → Prop}
    (G : Gr K p loose mg mb B) (O : Own B h (pre ++ post)) (ho : K.lookup f = some ⟨oc, od, .func (fnOf name qual params body scope dV kV doc pm an cdv ct), osl⟩) (hcd : codeIn K cdv qual = true)
    (hroom : A.depth < recursionLimit) (hbind : bindArgs (fnOf name qual params body scope dV kV doc pm an cdv ct) ⟨args, []⟩ = pure binds)
    (hloc : ∀ x ∈ binds, scope.names.lookup x.1 = some .local)
    (k : ∀ L h₁ t', Own B h₁ (pre ++ (L, NsP fun x => binds.reverse.lookup x) :: post) →
      wpAny (model prog w) (A.deeper (envOf qual scope L f cdv)) (execs body (envOf qual scope L f cdv)) (fun fl s' => R (.ok (.ret (match fl with | .ret v => v | _ => .none))) s') (fun _ _ => False)
        ⟨h₁, g, dr, t', os⟩)
    (hcell : ∀ x ∈ scope.names, x.2 ≠ .cell := by decide)
    (hco : scope.isCoroutine = false := by rfl) (hgen : scope.isGenerator = false := by rfl) (hk : scope.kind = .function := by rfl) :
    codeAny (model prog w) A (.call (.ref f) ⟨args, []⟩) R ⟨h, g, dr, tk, os⟩ :=
  r_enter (s := ⟨h, g, dr, tk, os⟩) O G.T.nolimit (G.X _ _ ho) rfl (codeRec_of G.X hcd) hroom rfl (BindsTo.of_eq hbind) hcell hloc (fun L h₁ O' => k L h₁ _ O') hco hgen hk
end

section
variable {prog : Program} {w : World} {A : Around} {E : Value → Shared → Prop} {h : Heap} {g : Array GenState} {dr : Drawn} {tk : Nat} {os : OsState} {B : Heap} {l l' : List Ent}
theorem x_setItem {a : Addr} {vs : List Value} {i : Nat} {t : Tok} {v : Value} {Q : Unit → Shared → Prop} (O : Own B h l) (hm : (a, ListP vs) ∈ l) (hp : Put a (ListP (vs.set i v)) l l') (hi : i < vs.length) (hz : vs.length ≤ sizeLine)
    (k : ∀ h' t', Own B h' l' → Q () ⟨h', g, dr, t', os⟩) : wpAny (model prog w) A (setItem (.ref a) (.int (i : Int) t) v) Q E ⟨h, g, dr, tk, os⟩ := by
  obtain ⟨o, ho, n, rfl⟩ := O.get hm
  rw [sizeLine_eq] at hz
  refine ki_setAt (s := ⟨h, g, dr, tk, os⟩) (n := n) ho (by (first | assumption | decide | exact Nat.le_trans (by assumption) (by decide) | exact Nat.sub_succ_lt_self _ _ (by assumption) | exact Nat.succ_le_of_lt (by assumption) | exact Nat.le_of_lt (by assumption) | lia | omega)) (by (first | assumption | decide | exact Nat.le_trans (by assumption) (by decide) | exact Nat.sub_succ_lt_self _ _ (by assumption) | exact Nat.succ_le_of_lt (by assumption) | exact Nat.le_of_lt (by assumption) | lia | omega)) (by simp; (first | assumption | decide | exact Nat.le_trans (by assumption) (by decide) | exact Nat.sub_succ_lt_self _ _ (by assumption) | exact Nat.succ_le_of_lt (by assumption) | exact Nat.le_of_lt (by assumption) | lia | omega)) (k _ _ (O.putSame hp (Heap.SameBut.update ..) ⟨_, Heap.get?_update_self _ ho rfl, n, ?_⟩))
  simp [Obj.mapSeq]
end

/-! ## defs with cells -/
theorem own_many {B h h₁ : Heap} {l : List Ent} (O : Own B h l) (hk : Sub h h₁) (es : List Ent) (he : ∀ e ∈ es, h.get? e.1 = none ∧ ∃ o, h₁.get? e.1 = some o ∧ e.2 o) (hn : (es.map (·.1)).Nodup) : Own B h₁ (es ++ l) := by
  have O' := O.ext hk
  refine ⟨O'.keep, fun p hp => ?_, ?_⟩
  · rcases List.mem_append.mp hp with hp | hp
    · exact ⟨(he p hp).2, O.notIn (he p hp).1⟩
    · exact O'.own p hp
  · rw [List.map_append]
    refine List.nodup_append.mpr ⟨hn, O.nodup, fun a ha b hb e => ?_⟩
    obtain ⟨p, hp, rfl⟩ := List.mem_map.mp ha
    obtain ⟨q, hq, rfl⟩ := List.mem_map.mp hb
    obtain ⟨⟨o, ho, _⟩, _⟩ := O.own q hq
    rw [← e, (he p hp).1] at ho; cases ho
section
variable {prog : Program} {w : World} {A : Around} {E : Value → Shared → Prop} {h : Heap} {g : Array GenState} {dr : Drawn} {tk : Nat} {os : OsState} {B : Heap} {l : List Ent}
  {K : Frag} {p : Program} {loose : List Str} {mg mb : Str → Option Value}
theorem lookup_of_nodup {α β : Type} [BEq α] [LawfulBEq α] : ∀ {l : List (α × β)} {a : α} {b : β}, (l.map (·.1)).Nodup → (a, b) ∈ l → l.lookup a = some b
  | (a', b') :: l, a, b, hn, hm => by
    rw [List.map_cons, List.nodup_cons] at hn
    rcases List.mem_cons.mp hm with e | hm
    · cases e; simp
    · have : a ≠ a' := fun e => hn.1 (e ▸ List.mem_map_of_mem (f := (·.1)) hm)
      rw [List.lookup_cons, beq_eq_false_iff_ne.mpr this]
      exact lookup_of_nodup hn.2 hm
theorem x_enterC {f : Addr} {oc : Value} {od : Option Addr} {osl : Array (Option Value)} {name qual : Str} {params : Arguments} {body : List Stmt} {scope : Scope} {dV kV doc pm cdv ct : Value} {an : Option Addr} {args : List Value} {binds : List (Str × Value)} {R : Result → Shared → Prop}
    (G : Gr K p loose mg mb B) (O : Own B h l) (ho : K.lookup f = some ⟨oc, od, .func (fnOf name qual params body scope dV kV doc pm an cdv ct), osl⟩) (hcd : codeIn K cdv qual = true)
    (hroom : A.depth < recursionLimit) (hbind : bindArgs (fnOf name qual params body scope dV kV doc pm an cdv ct) ⟨args, []⟩ = pure binds)
    (hkind : ∀ n, ∀ x ∈ binds, scope.names.lookup x.1 = some .local ∨ (scope.names.lookup x.1 = some .cell ∧ ((cellsFrom n scope.names []).lookup x.1).isSome = true))
    (hnd : ∀ n, ((cellsFrom n scope.names []).map (·.1)).Nodup)
    (k : ∀ L h₁ t', Own B h₁ ((L, NsP (bindL (envOfC qual scope L f cdv).kindOf binds fun _ => none)) :: ((cellsFrom (L + 1) scope.names []).map fun q => (q.2, CellP (bindC (envOfC qual scope L f cdv).kindOf binds (fun _ => none) q.1))) ++ l) →
      wpAny (model prog w) (A.deeper (envOfC qual scope L f cdv)) (execs body (envOfC qual scope L f cdv)) (fun fl s' => R (.ok (.ret (match fl with | .ret v => v | _ => .none))) s') (fun _ _ => False)
        ⟨h₁, g, dr, t', os⟩)
    (hco : scope.isCoroutine = false := by rfl) (hgen : scope.isGenerator = false := by rfl) (hk : scope.kind = .function := by rfl) :
    codeAny (model prog w) A (.call (.ref f) ⟨args, []⟩) R ⟨h, g, dr, tk, os⟩ := by
  refine codeAny_call_cells (fd := fnOf name qual params body scope dV kV doc pm an cdv ct) (body := body) (binds := binds) hroom (O.keep _ _ (G.X _ _ ho)) rfl (G.T.nolimit.keeps O.keep) ((codeRec_of G.X hcd).keeps O.keep) rfl hbind rfl (hkind _) (fun s₁ X => ?_) hco hgen hk
  obtain ⟨h₁, t1, rfl, _⟩ := X.done
  refine wpAny_mono (k h.objs.size h₁ t1 ?_) (fun _ _ z => z) fun _ _ z => z.elim
  refine own_many O X.toInCall.keep ((h.objs.size, _) :: _) (fun e he => ?_) ?_
  · rcases List.mem_cons.mp he with rfl | he
    · exact ⟨get?_size h, nsP_of X.toInCall.ns⟩
    · obtain ⟨⟨n, c⟩, hm, rfl⟩ := List.mem_map.mp he
      have hlt : h.objs.size < c := X.above n c hm
      refine ⟨Heap.get?_none_of_le (Nat.le_of_lt hlt), ?_⟩
      obtain ⟨o, ho, hd⟩ := X.cell n c (lookup_of_nodup (hnd _) hm)
      exact ⟨o, ho, hd⟩
  · rw [List.map_cons, List.map_map, List.nodup_cons]
    refine ⟨fun hm => ?_, ?_⟩
    · obtain ⟨⟨n, c⟩, hm, e⟩ := List.mem_map.mp hm
      have hlt : h.objs.size < c := X.above n c hm
      exact absurd (show c = h.objs.size from e) (Nat.ne_of_gt hlt)
    · have := X.apart
      refine List.Pairwise.map (fun q : Str × Addr => q.2) (fun a b z => z) this
end

theorem cells_keys : ∀ (names : List (Str × NameKind)) (n m : Nat) (acc acc' : List (Str × Addr)), acc.map (·.1) = acc'.map (·.1) → (cellsFrom n names acc).map (·.1) = (cellsFrom m names acc').map (·.1)
  | [], _, _, _, _, e => e
  | (name, kind) :: r, n, m, acc, acc', e => by
    unfold cellsFrom
    split
    · exact cells_keys r _ _ _ _ (by simp [e])
    · exact cells_keys r _ _ _ _ e
theorem cells_nodup {names : List (Str × NameKind)} (h : ((cellsFrom 0 names []).map (·.1)).Nodup) (n : Nat) : ((cellsFrom n names []).map (·.1)).Nodup := by rw [cells_keys names n 0 [] [] rfl]; exact h
theorem kinds {binds : List (Str × Value)} {names : List (Str × NameKind)} (hb : ∀ n, (binds.all fun x => decide (names.lookup x.1 = some .local) || (decide (names.lookup x.1 = some .cell) && ((cellsFrom n names []).lookup x.1).isSome)) = true) :
    ∀ n, ∀ x ∈ binds, names.lookup x.1 = some .local ∨ (names.lookup x.1 = some .cell ∧ ((cellsFrom n names []).lookup x.1).isSome = true) := fun n x hx => by
  have := List.all_eq_true.mp (hb n) x hx
  simpa using this

/-- a def of the ground, with a closure, is entered; it does not raise -/
theorem x_enterX {prog : Program} {w : World} {A : Around} {h : Heap} {g : Array GenState} {dr : Drawn} {tk : Nat} {os : OsState} {B : Heap} {pre post : List Ent} {f : Addr} {o : Obj} {name qual : Str} {params : Arguments} {body : List Stmt} {scope : Scope} {cl : List (Str × Addr)} {dV kV doc pm cdv ct : Value} {an : Option Addr} {args : List Value} {binds : List (Str × Value)} {R : Result → Shared → Prop}
    (O : Own B h (pre ++ post)) (hlim : B.NoLimit) (ho : B.get? f = some o) (hd : o.data = .func (fnX name qual params body scope cl dV kV doc pm an cdv ct)) (hcd : B.CodeRec cdv qual)
    (hroom : A.depth < recursionLimit) (hbind : bindArgs (fnX name qual params body scope cl dV kV doc pm an cdv ct) ⟨args, []⟩ = pure binds)
    (hloc : ∀ x ∈ binds, scope.names.lookup x.1 = some .local)
    (k : ∀ L h₁ t', Own B h₁ (pre ++ (L, NsP fun x => binds.reverse.lookup x) :: post) →
      wpAny (model prog w) (A.deeper (envX qual scope L f cdv cl)) (execs body (envX qual scope L f cdv cl)) (fun fl s' => R (.ok (.ret (match fl with | .ret v => v | _ => .none))) s') (fun _ _ => False)
        ⟨h₁, g, dr, t', os⟩)
    (hcell : ∀ x ∈ scope.names, x.2 ≠ .cell := by decide)
    (hco : scope.isCoroutine = false := by rfl) (hgen : scope.isGenerator = false := by rfl) (hk : scope.kind = .function := by rfl) :
    codeAny (model prog w) A (.call (.ref f) ⟨args, []⟩) R ⟨h, g, dr, tk, os⟩ :=
  r_enter (s := ⟨h, g, dr, tk, os⟩) O hlim ho hd hcd hroom rfl (BindsTo.of_eq hbind) hcell hloc (fun L h₁ O' => k L h₁ _ O') hco hgen hk
theorem Own.freezeN {B h : Heap} (pre : List Ent) {post : List Ent} (O : Own B h (pre ++ post)) : ∃ B', Sub B B' ∧ Own B' h post ∧ ∀ p ∈ pre, ∃ o, B'.get? p.1 = some o ∧ p.2 o := by
  have nd := O.nodup
  rw [List.map_append, List.nodup_append] at nd
  obtain ⟨B', h1, h2, h3⟩ := O.freeze post (fun p hp => List.mem_append_right _ hp) nd.2.1
  refine ⟨B', h1, h2, fun p hp => ?_⟩
  obtain ⟨⟨o, ho, hP⟩, _⟩ := O.own p (List.mem_append_left _ hp)
  exact ⟨o, h3 _ o ho fun hm => nd.2.2 _ (List.mem_map_of_mem hp) _ hm rfl, hP⟩
theorem Own.open0 {B h : Heap} {a : Addr} {α : Type} {P : α → Obj → Prop} {l : List Ent} (O : Own B h ((a, fun o => ∃ x, P x o) :: l)) : ∃ x, Own B h ((a, P x) :: l) := by
  obtain ⟨o, ho, x, hP⟩ := O.get (.head _)
  refine ⟨x, O.keep, fun q hq => ?_, O.nodup⟩
  rcases List.mem_cons.mp hq with rfl | hq
  · exact ⟨⟨o, ho, hP⟩, (O.own _ (.head _)).2⟩
  · exact O.own q (.tail _ hq)
theorem Own.opens {B h : Heap} {a : Addr} {P : Obj → Prop} {l : List Ent} (O : Own B h ((a, P) :: l)) (P' : Obj → Prop) (hP : ∀ o, h.get? a = some o → P o → P' o) : Own B h ((a, P') :: l) :=
  ⟨O.keep, fun q hq => by
    rcases List.mem_cons.mp hq with rfl | hq
    · obtain ⟨⟨o, ho, hp⟩, hn⟩ := O.own _ (.head _)
      exact ⟨⟨o, ho, hP o ho hp⟩, hn⟩
    · exact O.own q (.tail _ hq), O.nodup⟩

/-! ## small words -/
theorem br {b : Bool} {P Q : Prop} {c : Prop} (hb : b = true ↔ c) (h1 : c → P) (h2 : ¬ c → Q) : if b = true then P else Q := by
  by_cases h : b = true
  · rw [if_pos h]; exact h1 (hb.mp h)
  · rw [if_neg h]; exact h2 fun z => h (hb.mpr z)
theorem brN {b : Bool} {P Q : Prop} {c : Prop} (hb : b = true ↔ c) (h1 : c → Q) (h2 : ¬ c → P) : if (!b) = true then P else Q := by
  cases b with
  | true => exact h1 (hb.mp rfl)
  | false => exact h2 fun z => Bool.false_ne_true (hb.mpr z)
theorem take1_eq (cs : List Nat) (q c : Nat) : ((⟨((cs.drop q).take 1).toArray⟩ : Str) == (⟨#[c]⟩ : Str)) = true ↔ cs[q]? = some c := by
  rw [beq_iff_eq, ← List.head?_drop]
  cases h : cs.drop q with
  | nil => simp
  | cons a r => simp
theorem ws_in (c : Nat) : ((!(Builtin.Str.occurrences (Str.ofString "\n\t\r ") (one c) 0 (Str.ofString "\n\t\r ").length 1).isEmpty) : Bool) = true ↔ (c = 10 ∨ c = 9 ∨ c = 13 ∨ c = 32) := by
  have e := StrLaws.found_one (Str.ofString "\n\t\r ") c
  unfold one
  rw [e, decide_eq_true_iff]
  show c ∈ [10, 9, 13, 32] ↔ _
  simp
theorem one_eq (c c' : Nat) : ((one c) == (⟨#[c']⟩ : Str)) = true ↔ c = c' := by
  unfold one; rw [beq_iff_eq]; simp
theorem app_one (acc : List Nat) (c : Nat) : (⟨acc.toArray⟩ : Str) ++ one c = ⟨(acc ++ [c]).toArray⟩ := by
  apply str_ext; rw [Str.cps_append]; simp [one]
theorem app_empty (acc : List Nat) : (⟨acc.toArray⟩ : Str) ++ Str.ofString "" = ⟨acc.toArray⟩ := by
  apply str_ext; rw [Str.cps_append]; simp [show (Str.ofString "").cps = #[] from rfl]
theorem Own.open1 {B h : Heap} {a : Addr} {α : Type} {P : α → Obj → Prop} {R : α → Prop} {l : List Ent} (O : Own B h ((a, fun o => ∃ x, R x ∧ P x o) :: l)) : ∃ x, R x ∧ Own B h ((a, P x) :: l) := by
  obtain ⟨o, ho, x, hR, hP⟩ := O.get (.head _)
  refine ⟨x, hR, O.keep, fun q hq => ?_, O.nodup⟩
  rcases List.mem_cons.mp hq with rfl | hq
  · exact ⟨⟨o, ho, hP⟩, (O.own _ (.head _)).2⟩
  · exact O.own q (.tail _ hq)
end Mine
end

/- part MineI -/
section
open PySem PySem.W PyProof.Rows PySem.Calls
set_option Elab.async false
namespace Mine

/-! ## defs and lambdas made inside a def: the code's table -/
theorem codeAmong_app {pos : Pos} {a b : Int} {c cv : Value} (l : List Value) (h : TriplesOk l) (e : codeAmong pos (l ++ [rawInt a, rawInt b, c]) = some cv) :
    codeAmong pos l = some cv ∨ (a = pos.line ∧ cv = c) := by
  fun_induction TriplesOk l with
  | case1 =>
    simp only [List.nil_append, codeAmong, rawInt] at e
    split at e
    · rename_i z
      simp only [Bool.and_eq_true, beq_iff_eq] at z
      cases e; exact .inr ⟨z.1, rfl⟩
    · cases e
  | case2 a' t b' u x rest ih =>
    simp only [List.cons_append, codeAmong] at e ⊢
    split at e
    · rename_i hc; rw [if_pos hc]; exact .inl e
    · rename_i hc; rw [if_neg hc]; exact ih h e
  | case3 l h1 h2 => exact h.elim

/-- the table of a code's own defs: what stands at line ln is the code named qn -/
def TabP (B : Heap) (ln : Nat) (qn : Str) : Obj → Prop := fun o => ∃ ps, o = tabObj ps ∧ TriplesOk ps.toList ∧ ∀ pos cv, pos.line = ln → codeAmong pos ps.toList = some cv → B.CodeRec cv qn
theorem TabP.mono {B B' : Heap} {ln : Nat} {qn : Str} {o : Obj} (h : TabP B ln qn o) (k : Sub B B') : TabP B' ln qn o := by obtain ⟨ps, e, ht, hc⟩ := h; exact ⟨ps, e, ht, fun pos cv hp hv => (hc pos cv hp hv).keeps k⟩
theorem TabP.empty (B : Heap) (ln : Nat) (qn : Str) : TabP B ln qn (tabObj #[]) := ⟨#[], rfl, trivial, fun _ _ _ e => nomatch e⟩

section
variable {prog : Program} {w : World} {A : Around} {E : Value → Shared → Prop} {h : Heap} {g : Array GenState} {dr : Drawn} {tk : Nat} {os : OsState} {B : Heap} {l : List Ent}
  {K : Frag} {p : Program} {loose : List Str} {mg mb : Str → Option Value} {env : Env} {c P : Addr} {ln : Nat} {qn name : Str} {params : Arguments} {scope : Scope} {clos : List (Str × Addr)} {pos : Pos} {firstLine : Nat}

theorem Own.tabFacts {ps : Array Value} (G : Gr K p loose mg mb B) (O : Own B h ((P, EqP (tabObj ps)) :: l)) : h.get? P = some (tabObj ps) ∧ mainGlobals ≠ P ∧ h.BuiltinsAt mg P ∧ h.Ns mainGlobals mg := by
  have hP := O.eq (.head _)
  have hn := (O.own _ (.head _)).2
  have hg := G.T.g.keeps O.keep
  obtain ⟨bm, ob, b1, b2, b3, b4, b5, b6⟩ := G.bm
  have hgP : mainGlobals ≠ P := fun q => by
    obtain ⟨o, es, ep, e, hd, _⟩ := hg
    rw [q, hP] at e; cases e; cases hd
  have hbP : bm ≠ P := fun q => by subst q; rw [hn] at b3; cases b3
  have hbG : bm ≠ mainGlobals := fun q => by
    obtain ⟨o, es, ep, e, hd, _⟩ := G.T.g
    rw [q, e] at b3; cases b3; rw [hd] at b6; cases b6
  exact ⟨hP, hgP, ⟨bm, ob, b1, b2, hbG, hbP, O.keep _ _ b3, b4, b5, b6⟩, hg⟩

/-- what stands when a code was made: everything but the ledger becomes ground -/
theorem Own.tabGrown {ps : Array Value} {h' : Heap} {c' : Addr} {qual : Str} (O : Own B h ((P, EqP (tabObj ps)) :: l)) (hx : Heap.ExtBut P h h') (hge : h.objs.size ≤ c') (hrec : h'.CodeRec (.ref c') qual)
    (htb : h'.get? P = some (tabObj (ps ++ #[rawInt pos.line, rawInt pos.col, .ref c']))) :
    ∃ B', Sub B B' ∧ B'.CodeRec (.ref c') qual ∧ Own B' h' ((P, EqP (tabObj (ps ++ #[rawInt pos.line, rawInt pos.col, .ref c']))) :: l) := by
  have O1 := O.putExt (Put.head (P := EqP (tabObj ps)) (P' := EqP (tabObj (ps ++ #[rawInt pos.line, rawInt pos.col, .ref c'])))) hx ⟨_, htb, rfl⟩
  obtain ⟨B', s1, O2, s3⟩ := O1.freeze _ (fun _ hp => hp) O1.nodup
  obtain ⟨c₂, oc, vs, t, e2, hoc, hd, hv⟩ := hrec
  cases e2
  refine ⟨B', s1, ⟨c', oc, vs, t, rfl, s3 c' oc hoc fun hm => ?_, hd, hv⟩, O2⟩
  obtain ⟨q, hq, e⟩ := List.mem_map.mp hm
  have : ∃ o, h.get? c' = some o := by
    rcases List.mem_cons.mp hq with rfl | hq
    · have e : P = c' := e
      exact ⟨_, e ▸ O.eq (.head _)⟩
    · obtain ⟨⟨o, ho, _⟩, _⟩ := O.own q (.tail _ hq)
      exact ⟨o, e ▸ ho⟩
  obtain ⟨o, ho⟩ := this
  exact absurd (Heap.lt_size ho) (Nat.not_lt.mpr hge)

theorem x_def {body : List Stmt} {Q : Value → Shared → Prop} (G : Gr K p loose mg mb B) (C : CodeHd B c P) (O : Own B h ((P, TabP B ln qn) :: l)) (hcl : closureFor scope env = pure clos) (hl : pos.line = ln)
    (k : ∀ B' f c' ctv doc h' t', Sub B B' → B'.CodeRec (.ref c') qn → Own B' h' ((f, EqP (fnMade name qn params body scope clos doc ((mg "__name__").getD .none) c' ctv)) :: (P, TabP B' ln qn) :: l) → Q (.ref f) ⟨h', g, dr, t', os⟩)
    (hge0 : env.globals = mainGlobals := by rfl) (hcode : env.code = .ref c := by rfl) :
    wpAny (model prog w) A (makeFunction name qn params (.stmts body) scope env [] [] [] pos firstLine) Q E ⟨h, g, dr, tk, os⟩ := by
  have hPn := (O.own _ (.head _)).2
  obtain ⟨o, hP, ps, rfl, ht, hc⟩ := O.get (.head _)
  have O1 : Own B h ((P, EqP (tabObj ps)) :: l) := ⟨O.keep, fun q hq => by
    rcases List.mem_cons.mp hq with rfl | hq
    · exact ⟨⟨_, hP, rfl⟩, hPn⟩
    · exact O.own q (.tail _ hq), O.nodup⟩
  obtain ⟨_, hgP, hb, hg⟩ := O1.tabFacts G
  cases hf : codeAmong pos ps.toList with
  | none =>
    refine makeFunction_K (s := ⟨h, g, dr, tk, os⟩) (mg := mg) hcl hge0 hg hcode (C.keeps O.keep) hP ht hf hgP hb fun c' ctv doc h' t' hx hge hlt hrec htb => ?_
    obtain ⟨B', s1, s2, O2⟩ := O1.tabGrown hx hge hrec htb
    refine k B' _ c' ctv doc _ t' s1 s2 ((O2.weak fun o e => ?_).push _ rfl)
    refine ⟨_, e, ?_, fun pos' cv hp hv => ?_⟩
    · rw [Array.toList_append]; exact TriplesOk_snoc _ _ _ _ ht
    · rw [Array.toList_append] at hv
      rcases codeAmong_app _ ht hv with hv | ⟨_, rfl⟩
      · exact (hc pos' cv hp hv).keeps s1
      · exact s2
  | some cv =>
    have hrec := hc pos cv hl hf
    obtain ⟨c', oc, vs, t, rfl, hoc, hd, hv⟩ := id hrec
    refine makeFunction_hit (s := ⟨h, g, dr, tk, os⟩) (mg := mg) hcl hge0 hg hcode (C.keeps O.keep) hP ht hf hb fun ctv doc h' t' hk hsz => ?_
    exact k B _ c' ctv doc _ t' (Sub.refl B) hrec ((O.ext hk).push _ rfl)

theorem x_lam {body : Expr} {qual : Str} {Q : Value → Shared → Prop} (G : Gr K p loose mg mb B) (C : CodeHd B c P) (O : Own B h ((P, TabP B ln qn) :: l)) (hcl : closureFor scope env = pure clos) (hl : pos.line ≠ ln)
    (k : ∀ B' f fd h' t', Sub B B' → Own B' h' ((f, EqP ⟨.type "function", none, .func fd, #[]⟩) :: (P, TabP B' ln qn) :: l) → Q (.ref f) ⟨h', g, dr, t', os⟩)
    (hge0 : env.globals = mainGlobals := by rfl) (hcode : env.code = .ref c := by rfl) :
    wpAny (model prog w) A (makeFunction name qual params (.expr body) scope env [] [] [] pos firstLine) Q E ⟨h, g, dr, tk, os⟩ := by
  have hPn := (O.own _ (.head _)).2
  obtain ⟨o, hP, ps, rfl, ht, hc⟩ := O.get (.head _)
  have O1 : Own B h ((P, EqP (tabObj ps)) :: l) := ⟨O.keep, fun q hq => by
    rcases List.mem_cons.mp hq with rfl | hq
    · exact ⟨⟨_, hP, rfl⟩, hPn⟩
    · exact O.own q (.tail _ hq), O.nodup⟩
  obtain ⟨_, hgP, hb, hg⟩ := O1.tabFacts G
  cases hf : codeAmong pos ps.toList with
  | none =>
    refine kla_makeFunction (s := ⟨h, g, dr, tk, os⟩) (mg := mg) hcl hge0 hg hcode (C.keeps O.keep) hP ht hf hgP hb fun c' ctv h' t' hx hge hlt hrec htb => ?_
    obtain ⟨B', s1, s2, O2⟩ := O1.tabGrown hx hge hrec htb
    refine k B' _ _ _ t' s1 ((O2.weak fun o e => ?_).push _ rfl)
    refine ⟨_, e, ?_, fun pos' cv hp hv => ?_⟩
    · rw [Array.toList_append]; exact TriplesOk_snoc _ _ _ _ ht
    · rw [Array.toList_append] at hv
      rcases codeAmong_app _ ht hv with hv | ⟨e', _⟩
      · exact (hc pos' cv hp hv).keeps s1
      · exact absurd (show pos.line = ln by rw [← hp]; exact Int.ofNat.inj e') hl
  | some cv =>
    refine kla_makeFunctionHit (s := ⟨h, g, dr, tk, os⟩) (mg := mg) hcl hge0 hg hcode (C.keeps O.keep) hP ht hf hb fun ctv h' t' hk hsz => ?_
    exact k B _ _ _ t' (Sub.refl B) ((O.ext hk).push _ rfl)
end
end Mine
end

/- part MineP -/
section
namespace Mine
/-! ## the lexer, in plain words: codes in, a word and what is left out -/
def isWs (c : Nat) : Bool := c == 10 || c == 9 || c == 13 || c == 32

def qLoop : List Nat → List Nat → List Nat × List Nat
  | acc, [] => (acc, [])
  | acc, [c] => if c = 34 then (acc, []) else if c = 92 then (acc, []) else (acc ++ [c], [])
  | acc, c :: c' :: r => if c = 34 then (acc, c' :: r) else if c = 92 then qLoop (acc ++ [c']) r else qLoop (acc ++ [c]) (c' :: r)
def uLoop : List Nat → List Nat → List Nat × List Nat
  | acc, [] => (acc, [])
  | acc, [c] => if isWs c then (acc, []) else if c = 92 then (acc, []) else (acc ++ [c], [])
  | acc, c :: c' :: r => if isWs c then (acc, c' :: r) else if c = 92 then uLoop (acc ++ [c']) r else uLoop (acc ++ [c]) (c' :: r)
def lexT : List Nat → List Nat × List Nat
  | [] => ([], [])
  | c :: r => if isWs c then lexT r else if c = 34 then qLoop [] r else if c = 92 then uLoop (r.take 1) (r.drop 1) else uLoop [c] r

theorem qLoop_nil (acc : List Nat) : qLoop acc [] = (acc, []) := by rw [qLoop]
theorem qLoop_end (acc r : List Nat) : qLoop acc (34 :: r) = (acc, r) := by cases r <;> rw [qLoop] <;> rfl
theorem qLoop_esc (acc r : List Nat) : qLoop acc (92 :: r) = qLoop (acc ++ r.take 1) (r.drop 1) := by
  cases r with
  | nil => simp [qLoop]
  | cons c r => simp [qLoop]
theorem qLoop_on (acc r : List Nat) (c : Nat) (h1 : c ≠ 34) (h2 : c ≠ 92) : qLoop acc (c :: r) = qLoop (acc ++ [c]) r := by
  cases r with
  | nil => simp [qLoop, h1, h2]
  | cons c' r => rw [qLoop, if_neg h1, if_neg h2]
theorem uLoop_nil (acc : List Nat) : uLoop acc [] = (acc, []) := by rw [uLoop]
theorem uLoop_end (acc r : List Nat) (c : Nat) (h : isWs c = true) : uLoop acc (c :: r) = (acc, r) := by cases r <;> simp [uLoop, h]
theorem uLoop_esc (acc r : List Nat) : uLoop acc (92 :: r) = uLoop (acc ++ r.take 1) (r.drop 1) := by
  have h : isWs 92 = false := rfl
  cases r with
  | nil => simp [uLoop, h]
  | cons c r => simp [uLoop, h]
theorem uLoop_on (acc r : List Nat) (c : Nat) (h1 : isWs c = false) (h2 : c ≠ 92) : uLoop acc (c :: r) = uLoop (acc ++ [c]) r := by
  cases r with
  | nil => simp [uLoop, h1, h2]
  | cons c' r => simp [uLoop, h1, h2]
theorem qLoop_len : ∀ (acc r : List Nat), (qLoop acc r).2.length ≤ r.length
  | acc, [] => by rw [qLoop_nil]; exact Nat.le_refl _
  | acc, [c] => by rw [qLoop]; split; · simp
                   split <;> simp
  | acc, c :: c' :: r => by
    rw [qLoop]
    split
    · simp
    · split
      · exact Nat.le_trans (qLoop_len _ r) (by simp; (first | assumption | decide | exact Nat.le_trans (by assumption) (by decide) | exact Nat.sub_succ_lt_self _ _ (by assumption) | exact Nat.succ_le_of_lt (by assumption) | exact Nat.le_of_lt (by assumption) | lia | omega))
      · exact Nat.le_trans (qLoop_len _ (c' :: r)) (by simp)
theorem uLoop_len : ∀ (acc r : List Nat), (uLoop acc r).2.length ≤ r.length
  | acc, [] => by rw [uLoop_nil]; exact Nat.le_refl _
  | acc, [c] => by rw [uLoop]; split; · simp
                   split <;> simp
  | acc, c :: c' :: r => by
    rw [uLoop]
    split
    · simp
    · split
      · exact Nat.le_trans (uLoop_len _ r) (by simp; (first | assumption | decide | exact Nat.le_trans (by assumption) (by decide) | exact Nat.sub_succ_lt_self _ _ (by assumption) | exact Nat.succ_le_of_lt (by assumption) | exact Nat.le_of_lt (by assumption) | lia | omega))
      · exact Nat.le_trans (uLoop_len _ (c' :: r)) (by simp)
theorem lexT_len : ∀ r : List Nat, (lexT r).2.length ≤ r.length
  | [] => by rw [lexT]; exact Nat.le_refl _
  | c :: r => by
    rw [lexT]
    split
    · exact Nat.le_trans (lexT_len r) (by simp)
    · split
      · exact Nat.le_trans (qLoop_len _ r) (by simp)
      · split
        · exact Nat.le_trans (uLoop_len _ _) (by simp; (first | assumption | decide | exact Nat.le_trans (by assumption) (by decide) | exact Nat.sub_succ_lt_self _ _ (by assumption) | exact Nat.succ_le_of_lt (by assumption) | exact Nat.le_of_lt (by assumption) | lia | omega))
        · exact Nat.le_trans (uLoop_len _ r) (by simp)
end Mine
end

/- part MineS -/
section
namespace Mine
/-! ## sections, in plain words -/
theorem qLoop_end_or : ∀ (acc r : List Nat), (qLoop acc r).2.length < r.length ∨ r = []
  | acc, [] => .inr rfl
  | acc, [c] => .inl (by rw [qLoop]; split; · simp
                         split <;> simp)
  | acc, c :: c' :: r => .inl (by
    rw [qLoop]
    split
    · simp
    · split
      · exact Nat.lt_of_le_of_lt (qLoop_len _ r) (by simp; (first | assumption | decide | exact Nat.le_trans (by assumption) (by decide) | exact Nat.sub_succ_lt_self _ _ (by assumption) | exact Nat.succ_le_of_lt (by assumption) | exact Nat.le_of_lt (by assumption) | lia | omega))
      · exact Nat.lt_of_le_of_lt (qLoop_len _ (c' :: r)) (by simp))
theorem uLoop_end_or : ∀ (acc r : List Nat), (uLoop acc r).2.length < r.length ∨ r = []
  | acc, [] => .inr rfl
  | acc, [c] => .inl (by rw [uLoop]; split; · simp
                         split <;> simp)
  | acc, c :: c' :: r => .inl (by
    rw [uLoop]
    split
    · simp
    · split
      · exact Nat.lt_of_le_of_lt (uLoop_len _ r) (by simp; (first | assumption | decide | exact Nat.le_trans (by assumption) (by decide) | exact Nat.sub_succ_lt_self _ _ (by assumption) | exact Nat.succ_le_of_lt (by assumption) | exact Nat.le_of_lt (by assumption) | lia | omega))
      · exact Nat.lt_of_le_of_lt (uLoop_len _ (c' :: r)) (by simp))
/-- a word takes two codes, or it is the last one -/
theorem lexT_two : ∀ r : List Nat, (lexT r).1 ≠ [] → (lexT r).2.length + 2 ≤ r.length ∨ ((lexT r).2 = [] ∧ r ≠ [])
  | [] => by rw [lexT]; intro h; exact absurd rfl h
  | c :: r => by
    rw [lexT]
    split
    · intro h
      rcases lexT_two r h with h | h
      · exact .inl (by simp; (first | assumption | decide | exact Nat.le_trans (by assumption) (by decide) | exact Nat.sub_succ_lt_self _ _ (by assumption) | exact Nat.succ_le_of_lt (by assumption) | exact Nat.le_of_lt (by assumption) | lia | omega))
      · exact .inr ⟨h.1, by simp⟩
    · split
      · intro _
        rcases qLoop_end_or [] r with h | h
        · exact .inl (by simp; (first | assumption | decide | exact Nat.le_trans (by assumption) (by decide) | exact Nat.sub_succ_lt_self _ _ (by assumption) | exact Nat.succ_le_of_lt (by assumption) | exact Nat.le_of_lt (by assumption) | lia | omega))
        · subst h; exact .inr ⟨by rw [qLoop_nil], by simp⟩
      · split
        · intro _
          cases r with
          | nil => exact .inr ⟨by simp [uLoop], by simp⟩
          | cons c' r =>
            rcases uLoop_end_or (List.take 1 (c' :: r)) (List.drop 1 (c' :: r)) with h | h
            · exact .inl (by simp at h ⊢; (first | assumption | decide | exact Nat.le_trans (by assumption) (by decide) | exact Nat.sub_succ_lt_self _ _ (by assumption) | exact Nat.succ_le_of_lt (by assumption) | exact Nat.le_of_lt (by assumption) | lia | omega))
            · refine .inr ⟨?_, by simp⟩
              rw [h, uLoop_nil]
        · intro _
          rcases uLoop_end_or [c] r with h | h
          · exact .inl (by simp; (first | assumption | decide | exact Nat.le_trans (by assumption) (by decide) | exact Nat.sub_succ_lt_self _ _ (by assumption) | exact Nat.succ_le_of_lt (by assumption) | exact Nat.le_of_lt (by assumption) | lia | omega))
          · subst h; exact .inr ⟨by rw [uLoop_nil], by simp⟩
theorem lexT_lt {r : List Nat} (h : (lexT r).1 ≠ []) : (lexT r).2.length < r.length := by
  rcases lexT_two r h with h | ⟨h1, h2⟩
  · (first | assumption | decide | exact Nat.le_trans (by assumption) (by decide) | exact Nat.sub_succ_lt_self _ _ (by assumption) | exact Nat.succ_le_of_lt (by assumption) | exact Nat.le_of_lt (by assumption) | lia | omega)
  · rw [h1]; exact List.length_pos_iff.mpr h2
/-- the words up to the first empty one, and what is left -/
def secT (r : List Nat) : List (List Nat) × List Nat :=
  if h : (lexT r).1 = [] then ([], (lexT r).2) else
    have : (lexT r).2.length < r.length := lexT_lt h
    ((lexT r).1 :: (secT (lexT r).2).1, (secT (lexT r).2).2)
termination_by r.length
theorem secT_nil {r : List Nat} (h : (lexT r).1 = []) : secT r = ([], (lexT r).2) := by rw [secT, dif_pos h]
theorem secT_cons {r : List Nat} (h : (lexT r).1 ≠ []) : secT r = ((lexT r).1 :: (secT (lexT r).2).1, (secT (lexT r).2).2) := by rw [secT, dif_neg h]
theorem secT_len (r : List Nat) : (secT r).2.length ≤ r.length := by
  by_cases h : (lexT r).1 = []
  · rw [secT_nil h]; exact lexT_len r
  · rw [secT_cons h]
    have := lexT_lt h
    exact Nat.le_trans (secT_len _) (lexT_len r)
termination_by r.length
theorem secT_words (r : List Nat) : 2 * (secT r).1.length + (secT r).2.length ≤ r.length + 1 := by
  by_cases h : (lexT r).1 = []
  · rw [secT_nil h]; have := lexT_len r; simp; (first | assumption | decide | exact Nat.le_trans (by assumption) (by decide) | exact Nat.sub_succ_lt_self _ _ (by assumption) | exact Nat.succ_le_of_lt (by assumption) | exact Nat.le_of_lt (by assumption) | lia | omega)
  · rw [secT_cons h]
    have h1 := lexT_lt h
    have ih := secT_words (lexT r).2
    simp only [List.length_cons]
    rcases lexT_two r h with h2 | ⟨h2, h3⟩
    · (first | assumption | decide | exact Nat.le_trans (by assumption) (by decide) | exact Nat.sub_succ_lt_self _ _ (by assumption) | exact Nat.succ_le_of_lt (by assumption) | exact Nat.le_of_lt (by assumption) | lia | omega)
    · have e : lexT [] = ([], []) := by rw [lexT]
      rw [h2] at ih ⊢
      rw [secT_nil (by rw [e])] at ih ⊢
      rw [e]
      have := List.length_pos_iff.mpr h3
      simp; (first | assumption | decide | exact Nat.le_trans (by assumption) (by decide) | exact Nat.sub_succ_lt_self _ _ (by assumption) | exact Nat.succ_le_of_lt (by assumption) | exact Nat.le_of_lt (by assumption) | lia | omega)
termination_by r.length
theorem secT_ne (r : List Nat) : ∀ w ∈ (secT r).1, w ≠ [] := by
  by_cases h : (lexT r).1 = []
  · rw [secT_nil h]; intro w hw; cases hw
  · rw [secT_cons h]
    have h1 := lexT_lt h
    intro w hw
    rcases List.mem_cons.mp hw with rfl | hw
    · exact h
    · exact secT_ne _ w hw
termination_by r.length
/-! ## what is left is an end of the text -/
theorem suf_cons {a b : List Nat} {c : Nat} (h : a <:+ b) : a <:+ c :: b := h.trans (List.suffix_cons c b)
theorem qLoop_suf : ∀ (acc r : List Nat), (qLoop acc r).2 <:+ r
  | acc, [] => by rw [qLoop_nil]; exact List.suffix_refl _
  | acc, [c] => by rw [qLoop]; split; · exact List.nil_suffix
                   split <;> exact List.nil_suffix
  | acc, c :: c' :: r => by
    rw [qLoop]
    split
    · exact List.suffix_cons _ _
    · split
      · exact suf_cons (suf_cons (qLoop_suf _ r))
      · exact suf_cons (qLoop_suf _ (c' :: r))
theorem uLoop_suf : ∀ (acc r : List Nat), (uLoop acc r).2 <:+ r
  | acc, [] => by rw [uLoop_nil]; exact List.suffix_refl _
  | acc, [c] => by rw [uLoop]; split; · exact List.nil_suffix
                   split <;> exact List.nil_suffix
  | acc, c :: c' :: r => by
    rw [uLoop]
    split
    · exact List.suffix_cons _ _
    · split
      · exact suf_cons (suf_cons (uLoop_suf _ r))
      · exact suf_cons (uLoop_suf _ (c' :: r))
theorem lexT_suf : ∀ r : List Nat, (lexT r).2 <:+ r
  | [] => by rw [lexT]; exact List.suffix_refl _
  | c :: r => by
    rw [lexT]
    split
    · exact suf_cons (lexT_suf r)
    · split
      · exact suf_cons (qLoop_suf _ r)
      · split
        · exact suf_cons ((uLoop_suf _ _).trans (List.drop_suffix _ _))
        · exact suf_cons (uLoop_suf _ r)
theorem suf_drop {a cs : List Nat} (h : a <:+ cs) : cs.drop (cs.length - a.length) = a := by
  obtain ⟨t, rfl⟩ := h
  rw [List.length_append, Nat.add_sub_cancel, List.drop_left]
theorem lexT_drop (cs : List Nat) (q : Nat) : cs.drop (cs.length - (lexT (cs.drop q)).2.length) = (lexT (cs.drop q)).2 := suf_drop ((lexT_suf _).trans (List.drop_suffix _ _))
theorem secT_suf (r : List Nat) : (secT r).2 <:+ r := by
  by_cases h : (lexT r).1 = []
  · rw [secT_nil h]; exact lexT_suf r
  · rw [secT_cons h]
    have := lexT_lt h
    exact (secT_suf _).trans (lexT_suf r)
termination_by r.length
theorem secT_drop (cs : List Nat) (q : Nat) : cs.drop (cs.length - (secT (cs.drop q)).2.length) = (secT (cs.drop q)).2 := suf_drop ((secT_suf _).trans (List.drop_suffix _ _))
end Mine
end

/- part MineT -/
section
namespace Mine
/-! ## the law's own cutting, in plain words -/
abbrev Sgn := Bool × List Nat × Nat
/-- signs from a place on -/
def sgn : List Nat → Nat → List Sgn
  | [], _ => []
  | [c], at' => if c = 92 then [(false, [], at' + 2)] else [(true, [c], at' + 1)]
  | c :: c' :: r, at' => if c = 92 then (false, [c'], at' + 2) :: sgn r (at' + 2) else (true, [c], at' + 1) :: sgn (c' :: r) (at' + 1)
theorem sgn_nil (q : Nat) : sgn [] q = [] := by rw [sgn]
theorem sgn_bare {c : Nat} (r : List Nat) (q : Nat) (h : c ≠ 92) : sgn (c :: r) q = (true, [c], q + 1) :: sgn r (q + 1) := by
  cases r with
  | nil => simp [sgn, h]
  | cons c' r => rw [sgn, if_neg h]
theorem sgn_esc (r : List Nat) (q : Nat) : sgn (92 :: r) q = (false, r.take 1, q + 2) :: sgn (r.drop 1) (q + 2) := by
  cases r with
  | nil => simp [sgn]
  | cons c' r => simp [sgn]
theorem sgn_one : ∀ (cs : List Nat) (q : Nat), ∀ s ∈ sgn cs q, s.1 = true → ∃ c, s.2.1 = [c]
  | [], q, s, hs => by rw [sgn_nil] at hs; cases hs
  | [c], q, s, hs => by
    rw [sgn] at hs
    split at hs
    · simp at hs; subst hs; intro h; cases h
    · simp at hs; subst hs; intro _; exact ⟨c, rfl⟩
  | c :: c' :: r, q, s, hs => by
    rw [sgn] at hs
    split at hs
    · rcases List.mem_cons.mp hs with rfl | hs
      · intro h; cases h
      · exact sgn_one r _ s hs
    · rcases List.mem_cons.mp hs with rfl | hs
      · intro _; exact ⟨c, rfl⟩
      · exact sgn_one (c' :: r) _ s hs
/-- what a word goes on over -/
def goes (quoted : Bool) (s : Sgn) : Bool := !(s.1 && (if quoted then s.2.1 == [34] else s.2.1.all isWs))
def joined (ss : List Sgn) : List Nat := (ss.map (·.2.1)).flatten
theorem drop_dropWhile_len {α : Type} (p : α → Bool) (l : List α) : (l.dropWhile p).length ≤ l.length := by
  induction l with
  | nil => simp
  | cons a l ih => rw [List.dropWhile_cons]; split <;> simp <;> (first | assumption | decide | exact Nat.le_trans (by assumption) (by decide) | exact Nat.sub_succ_lt_self _ _ (by assumption) | exact Nat.succ_le_of_lt (by assumption) | exact Nat.le_of_lt (by assumption) | lia | omega)
def rowsT (len : Nat) : List Sgn → List (List Nat × Nat)
  | [] => []
  | (b, s, e) :: r =>
    if b && s.all isWs then rowsT len r else
      let quoted := b && s == [34]
      let body := if quoted then r else (b, s, e) :: r
      let wd := joined (body.takeWhile (goes quoted))
      match hm : (body.dropWhile (goes quoted)) with
      | [] => if wd = [] then [] else [(wd, len)]
      | x :: rest =>
        have : rest.length < ((b, s, e) :: r).length := by
          have h1 := drop_dropWhile_len (goes quoted) body
          rw [hm] at h1
          have h2 : body.length ≤ r.length + 1 := by simp only [body]; split <;> simp
          simp at h1 ⊢; (first | assumption | decide | exact Nat.le_trans (by assumption) (by decide) | exact Nat.sub_succ_lt_self _ _ (by assumption) | exact Nat.succ_le_of_lt (by assumption) | exact Nat.le_of_lt (by assumption) | lia | omega)
        (wd, x.2.2) :: rowsT len rest
termination_by l => l.length

theorem sgn_le : ∀ (cs : List Nat) (q : Nat), ∀ s ∈ sgn cs q, s.2.1.length ≤ 1
  | [], q, s, hs => by rw [sgn_nil] at hs; cases hs
  | [c], q, s, hs => by
    rw [sgn] at hs
    split at hs
    · simp at hs; subst hs; simp
    · simp at hs; subst hs; simp
  | c :: c' :: r, q, s, hs => by
    rw [sgn] at hs
    split at hs
    · rcases List.mem_cons.mp hs with rfl | hs
      · simp
      · exact sgn_le r _ s hs
    · rcases List.mem_cons.mp hs with rfl | hs
      · simp
      · exact sgn_le (c' :: r) _ s hs
theorem drop_at {α : Type} {S : List α} {i : Nat} {x : α} (h : S[i]? = some x) : S.drop i = x :: S.drop (i + 1) := by
  obtain ⟨h1, rfl⟩ := List.getElem?_eq_some_iff.mp h
  exact List.drop_eq_getElem_cons h1
theorem rowsT_skip {len : Nat} {S : List Sgn} {i : Nat} {b : Bool} {sn : List Nat} {en : Nat} (hc : S[i]? = some (b, sn, en)) (hb : b = true ∧ sn.all isWs = true) : rowsT len (S.drop i) = rowsT len (S.drop (i + 1)) := by
  rw [drop_at hc, rowsT, if_pos (by rw [hb.1, hb.2]; rfl)]
theorem rowsT_on {len : Nat} {S : List Sgn} {i f j : Nat} {b qd : Bool} {sn : List Nat} {en : Nat} {x : Sgn} (hc : S[i]? = some (b, sn, en)) (hb : ¬ (b = true ∧ sn.all isWs = true)) (hq : (b && sn == [34]) = qd) (hf : (if qd then i + 1 else i) = f)
    (hd : (S.drop f).dropWhile (goes qd) = S.drop j) (hx : S[j]? = some x) : rowsT len (S.drop i) = (joined ((S.drop f).takeWhile (goes qd)), x.2.2) :: rowsT len (S.drop (j + 1)) := by
  have eb : (if qd = true then S.drop (i + 1) else (b, sn, en) :: S.drop (i + 1)) = S.drop f := by
    rw [← hf]; cases qd with
    | true => rfl
    | false => simp; exact (drop_at hc).symm
  rw [drop_at hc, rowsT, if_neg (by simpa using hb)]
  simp only [hq, eb]
  rw [drop_at hx] at hd
  split
  · rename_i h; rw [hq, eb, hd] at h; cases h
  · rename_i y rest h
    rw [hq, eb, hd] at h
    cases h
    rfl
theorem rowsT_end {len : Nat} {S : List Sgn} {i f j : Nat} {b qd : Bool} {sn : List Nat} {en : Nat} (hc : S[i]? = some (b, sn, en)) (hb : ¬ (b = true ∧ sn.all isWs = true)) (hq : (b && sn == [34]) = qd) (hf : (if qd then i + 1 else i) = f)
    (hd : (S.drop f).dropWhile (goes qd) = S.drop j) (hx : S.length ≤ j) : rowsT len (S.drop i) = if joined ((S.drop f).takeWhile (goes qd)) = [] then [] else [(joined ((S.drop f).takeWhile (goes qd)), len)] := by
  have eb : (if qd = true then S.drop (i + 1) else (b, sn, en) :: S.drop (i + 1)) = S.drop f := by
    rw [← hf]; cases qd with
    | true => rfl
    | false => simp; exact (drop_at hc).symm
  rw [drop_at hc, rowsT, if_neg (by simpa using hb)]
  simp only [hq, eb]
  rw [List.drop_eq_nil_of_le hx] at hd
  split
  · rfl
  · rename_i y rest h
    rw [hq, eb, hd] at h
    cases h
end Mine
end

/- part MineN -/
section
open PySem PySem.W PyProof.Rows PySem.Calls
set_option Elab.async false
set_option maxRecDepth 100000
namespace Mine

/-! ## rows of values -/
def Each {α : Type} (P : Value → α → Prop) (vs : List Value) (xs : List α) : Prop := vs.length = xs.length ∧ ∀ (i : Nat) (v : Value) (x : α), vs[i]? = some v → xs[i]? = some x → P v x
theorem Each.nil {α : Type} {P : Value → α → Prop} : Each P [] [] := ⟨rfl, fun i v x h => by simp at h⟩
theorem Each.mono {α : Type} {P P' : Value → α → Prop} {vs : List Value} {xs : List α} (h : Each P vs xs) (k : ∀ v x, P v x → P' v x) : Each P' vs xs := ⟨h.1, fun i v x a b => k v x (h.2 i v x a b)⟩
theorem Each.snoc {α : Type} {P : Value → α → Prop} {vs : List Value} {xs : List α} {v : Value} {x : α} (h : Each P vs xs) (hv : P v x) : Each P (vs ++ [v]) (xs ++ [x]) := by
  refine ⟨by simp [h.1], fun i a b ha hb => ?_⟩
  by_cases hi : i < vs.length
  · rw [List.getElem?_append_left hi] at ha
    rw [List.getElem?_append_left (h.1 ▸ hi)] at hb
    exact h.2 i a b ha hb
  · have hi' := Nat.not_lt.mp hi
    rw [List.getElem?_append_right hi'] at ha
    rw [List.getElem?_append_right (h.1 ▸ hi')] at hb
    rw [← h.1] at hb
    have e : i - vs.length = 0 := by
      rcases Nat.eq_zero_or_pos (i - vs.length) with e | e
      · exact e
      · rw [List.getElem?_eq_none (by simp; (first | assumption | decide | exact Nat.le_trans (by assumption) (by decide) | exact Nat.sub_succ_lt_self _ _ (by assumption) | exact Nat.succ_le_of_lt (by assumption) | exact Nat.le_of_lt (by assumption) | lia | omega))] at ha; cases ha
    rw [e] at ha hb
    simp at ha hb
    rw [← ha, ← hb]; exact hv
theorem Each.get {α : Type} {P : Value → α → Prop} {vs : List Value} {xs : List α} (h : Each P vs xs) {i : Nat} {x : α} (hx : xs[i]? = some x) : ∃ v, vs[i]? = some v ∧ P v x := by
  have hi : i < vs.length := by rw [h.1]; exact (List.getElem?_eq_some_iff.mp hx).1
  exact ⟨vs[i], List.getElem?_eq_getElem hi, h.2 i _ x (List.getElem?_eq_getElem hi) hx⟩
theorem Each.got {α : Type} {P : Value → α → Prop} {vs : List Value} {xs : List α} (h : Each P vs xs) {i : Nat} {v : Value} (hv : vs[i]? = some v) : ∃ x, xs[i]? = some x ∧ P v x := by
  have hi : i < xs.length := by rw [← h.1]; exact (List.getElem?_eq_some_iff.mp hv).1
  exact ⟨xs[i], List.getElem?_eq_getElem hi, h.2 i v _ hv (List.getElem?_eq_getElem hi)⟩
theorem Each.dropTake {α : Type} {P : Value → α → Prop} {vs : List Value} {xs : List α} (h : Each P vs xs) (a n : Nat) : Each P ((vs.drop a).take n) ((xs.drop a).take n) := by
  refine ⟨by simp [h.1], fun i v x hv hx => ?_⟩
  rw [List.getElem?_take] at hv hx
  by_cases hi : i < n
  · rw [if_pos hi, List.getElem?_drop] at hv hx
    exact h.2 _ v x hv hx
  · rw [if_neg hi] at hv; cases hv
theorem Each.cons {α : Type} {P : Value → α → Prop} {vs : List Value} {xs : List α} {v : Value} {x : α} (hv : P v x) (h : Each P vs xs) : Each P (v :: vs) (x :: xs) := by
  refine ⟨by simp [h.1], fun i a b ha hb => ?_⟩
  cases i with
  | zero => simp at ha hb; rw [← ha, ← hb]; exact hv
  | succ i => simp at ha hb; exact h.2 i a b ha hb
theorem Each.append {α : Type} {P : Value → α → Prop} {vs vs' : List Value} {xs xs' : List α} (h : Each P vs xs) (h' : Each P vs' xs') : Each P (vs ++ vs') (xs ++ xs') := by
  refine ⟨by simp [h.1, h'.1], fun i a b ha hb => ?_⟩
  by_cases hi : i < vs.length
  · rw [List.getElem?_append_left hi] at ha
    rw [List.getElem?_append_left (h.1 ▸ hi)] at hb
    exact h.2 i a b ha hb
  · have hi' := Nat.not_lt.mp hi
    rw [List.getElem?_append_right hi'] at ha
    rw [List.getElem?_append_right (h.1 ▸ hi'), ← h.1] at hb
    exact h'.2 _ a b ha hb
theorem Each.strs {vs : List Value} {ss : List Str} (h : Each (fun v s => ∃ t, v = .str s t) vs ss) : StrsAre vs ss := by
  induction vs generalizing ss with
  | nil => cases ss with
    | nil => exact .nil
    | cons a r => exact absurd h.1 (by simp)
  | cons v vs ih => cases ss with
    | nil => exact absurd h.1 (by simp)
    | cons a r =>
      obtain ⟨t, rfl⟩ := h.2 0 v a rfl rfl
      exact .cons _ _ (ih ⟨by simpa using h.1, fun i v x a b => h.2 (i + 1) v x (by simpa using a) (by simpa using b)⟩)
theorem each_strs : ∀ {vs : List Value} {ss : List Str}, StrsAre vs ss → Each (fun v s => ∃ t, v = .str s t) vs ss
  | _, _, .nil => .nil
  | _, _, .cons y t h => Each.cons ⟨t, rfl⟩ (each_strs h)
theorem each_paired {F : Value → Value → Prop} : ∀ {vs ys : List Value}, Paired F vs ys → Each (fun y v => F v y) ys vs
  | _, _, .nil => .nil
  | _, _, .cons h t => Each.cons h (each_paired t)

def ItP (a : Addr) (i : Nat) : Obj → Prop := fun o => o.cls = .type "list_iterator" ∧ o.data = .fields #[.ref a, .int i 0]

section
variable {prog : Program} {w : World} {A : Around} {E : Value → Shared → Prop} {h : Heap} {g : Array GenState} {dr : Drawn} {tk : Nat} {os : OsState} {env : Env} {B : Heap} {l l' : List Ent} {m : Str → Option Value}
  {value slice : Expr} {a it : Addr} {vs : List Value} {t u : Tok}

theorem r_localB {x : Str} {pos : Pos} {v : Value} {s : Shared} {Q : Value → Shared → Prop} (O : Own B s.heap l) (hn : B.Ns env.locals m) (hv : m x = some v) (h : Q v s)
    (hk : env.scope.kind = .function := by rfl) (hl : env.kindOf x = some .local := by rfl) (hd : (x == ("__debug__" : Str)) = false := by decide) :
    wpAny (model prog w) A (eval (.Name x pos) env) Q E s := wpAny_Name (wpAny_loadName_local hk hl (hn.keeps O.keep) hv h) hd
theorem x_lenL {Q : Value → Shared → Prop} (hl : h.IsList a vs.toArray) (hz : vs.length ≤ 1000000000) (k : ∀ t t', Q (.int (vs.length : Int) t) ⟨h, g, dr, t', os⟩) :
    wpAny (model prog w) A (call (.builtin "len") [.ref a]) Q E ⟨h, g, dr, tk, os⟩ := by
  refine PyProof.Rows.len_list (s := ⟨h, g, dr, tk, os⟩) hl (by simp; (first | assumption | decide | exact Nat.le_trans (by assumption) (by decide) | exact Nat.sub_succ_lt_self _ _ (by assumption) | exact Nat.succ_le_of_lt (by assumption) | exact Nat.le_of_lt (by assumption) | lia | omega)) ?_
  have := k (tk + 1) (tk + 1 + 1)
  simpa using this
theorem x_itemT {Q : Value → Shared → Prop} {i : Nat} {v : Value} (ht : IsTup h a vs.toArray) (hi : i < 1000000) (hx : vs[i]? = some v) (k : Q v ⟨h, g, dr, tk, os⟩)
    (hs : subscripted slice false (.ref a) (.int (i : Int) u) = operate [.ref a, .int (i : Int) u] (getItem (.ref a) (.int (i : Int) u)) := by with_unfolding_all rfl) :
    wpAny (model prog w) A (subscriptTail value slice (.ref a) (.int (i : Int) u)) Q E ⟨h, g, dr, tk, os⟩ := by
  have hlt := (List.getElem?_eq_some_iff.mp hx).1
  exact tail_any (s := ⟨h, g, dr, tk, os⟩) (IsTup.typeIs (s := ⟨h, g, dr, tk, os⟩) ht) slot_tuple_getitem.lookup (PyProof.Rows.getItem_tuple (j := i) (s := ⟨h, g, dr, tk, os⟩) ht (by (first | assumption | decide | exact Nat.le_trans (by assumption) (by decide) | exact Nat.sub_succ_lt_self _ _ (by assumption) | exact Nat.succ_le_of_lt (by assumption) | exact Nat.le_of_lt (by assumption) | lia | omega)) (by (first | assumption | decide | exact Nat.le_trans (by assumption) (by decide) | exact Nat.sub_succ_lt_self _ _ (by assumption) | exact Nat.succ_le_of_lt (by assumption) | exact Nat.le_of_lt (by assumption) | lia | omega)) (by simp [seqIndex?]; (first | assumption | decide | exact Nat.le_trans (by assumption) (by decide) | exact Nat.sub_succ_lt_self _ _ (by assumption) | exact Nat.succ_le_of_lt (by assumption) | exact Nat.le_of_lt (by assumption) | lia | omega)) (by simpa using hx) k) hs
theorem x_itemL {Q : Value → Shared → Prop} {i : Int} {v : Value} (hl : h.IsList a vs.toArray) (h0 : 0 ≤ i) (hi : i < 1000000000) (hx : vs[i.toNat]? = some v) (k : Q v ⟨h, g, dr, tk, os⟩)
    (hs : subscripted slice false (.ref a) (.int i u) = operate [.ref a, .int i u] (getItem (.ref a) (.int i u)) := by with_unfolding_all rfl) :
    wpAny (model prog w) A (subscriptTail value slice (.ref a) (.int i u)) Q E ⟨h, g, dr, tk, os⟩ :=
  r_item (s := ⟨h, g, dr, tk, os⟩) hl h0 (by (first | assumption | decide | exact Nat.le_trans (by assumption) (by decide) | exact Nat.sub_succ_lt_self _ _ (by assumption) | exact Nat.succ_le_of_lt (by assumption) | exact Nat.le_of_lt (by assumption) | lia | omega)) hx k hs
theorem x_charS {x : Str} {Q : Value → Shared → Prop} {i : Nat} {c : Nat} (hi : i < 1000000000) (hx : x.cps.toList[i]? = some c) (k : ∀ t t', Q (.str (one c) t) ⟨h, g, dr, t', os⟩)
    (hs : subscripted slice false (.str x t) (.int (i : Int) u) = operate [.str x t, .int (i : Int) u] (getItem (.str x t) (.int (i : Int) u)) := by with_unfolding_all rfl) :
    wpAny (model prog w) A (subscriptTail value slice (.str x t) (.int (i : Int) u)) Q E ⟨h, g, dr, tk, os⟩ := by
  have hlt := (List.getElem?_eq_some_iff.mp hx).1
  refine tail_any (s := ⟨h, g, dr, tk, os⟩) (typeIs_str _ _ _) PySem.F.slot_str_getitem.lookup (P.getItem_str (s := ⟨h, g, dr, tk, os⟩) (c := c) (by simp; (first | assumption | decide | exact Nat.le_trans (by assumption) (by decide) | exact Nat.sub_succ_lt_self _ _ (by assumption) | exact Nat.succ_le_of_lt (by assumption) | exact Nat.le_of_lt (by assumption) | lia | omega)) ?_ (k _ _)) hs
  have hz : i < x.length := by show i < x.cps.size; rw [← Array.length_toList]; exact hlt
  have e : seqIndex? (i : Int) x.length = some i := by simp [seqIndex?]; (first | assumption | decide | exact Nat.le_trans (by assumption) (by decide) | exact Nat.sub_succ_lt_self _ _ (by assumption) | exact Nat.succ_le_of_lt (by assumption) | exact Nat.le_of_lt (by assumption) | lia | omega)
  rw [e]
  show x.cps[i]? = some c
  rw [← Array.getElem?_toList]; exact hx
theorem x_iterL {Q : Value → Shared → Prop} (O : Own B h l) (hl : h.IsList a vs.toArray) (k : ∀ it h' t', Own B h' ((it, ItP a 0) :: l) → Sub h h' → Q (.ref it) ⟨h', g, dr, t', os⟩) :
    wpAny (model prog w) A (pyIter (.ref a)) Q E ⟨h, g, dr, tk, os⟩ :=
  wpAny_pyIter_list (s := ⟨h, g, dr, tk, os⟩) hl (k _ _ _ (O.push _ ⟨rfl, rfl⟩) (sub_push _ _))
theorem x_nextL {Q : Option Value → Shared → Prop} {i : Nat} (hh : A.handled = none) (O : Own B h l) (hm : (it, ItP a i) ∈ l) (hp : Put it (ItP a (i + 1)) l l') (hl : h.IsList a vs.toArray) (hne : a ≠ it)
    (k1 : ∀ v h' t', vs[i]? = some v → Own B h' l' → Heap.SameBut it h h' → Q (some v) ⟨h', g, dr, t', os⟩)
    (k2 : i = vs.length → ∀ h' t', (∀ b o, b ≠ it → h.get? b = some o → h'.get? b = some o) → Q none ⟨h', g, dr, t', os⟩) (hi : i ≤ vs.length) :
    wpAny (model prog w) A (pyNext (.ref it)) Q E ⟨h, g, dr, tk, os⟩ := by
  obtain ⟨o, ho, hc, hd⟩ := O.get hm
  have hit : h.IsListIter it a i := ⟨o, ho, hc, hd⟩
  by_cases hlt : i < vs.length
  · refine wpAny_pyNext_list_item (s := ⟨h, g, dr, tk, os⟩) (x := vs[i]) hit hl (by simp [hlt]) fun h' hit' hs' => ?_
    obtain ⟨o', ho', hc', hd'⟩ := hit'
    exact k1 _ h' _ (List.getElem?_eq_getElem hlt) (O.putSame hp hs' ⟨o', ho', hc', hd'⟩) hs'
  · have e : i = vs.length := by (first | assumption | decide | exact Nat.le_trans (by assumption) (by decide) | exact Nat.sub_succ_lt_self _ _ (by assumption) | exact Nat.succ_le_of_lt (by assumption) | exact Nat.le_of_lt (by assumption) | lia | omega)
    refine (Walks.list (prog := prog) (w := w) hh it a hne vs.toArray).done ⟨h, g, dr, tk, os⟩ _ _ ⟨by simpa [← e] using hit, hl⟩ fun h' t' hk => k2 e h' t' fun b o hb x => hk b o (by simpa using hb) x
theorem x_joinL {x : Str} {ys : List Str} {Q : Value → Shared → Prop} (hl : h.IsList a vs.toArray) (hi : StrsAre vs ys) (hok : (ys.map (·.length)).sum + ys.length * x.length ≤ 16777216)
    (k : ∀ t t', Q (.str (Txt.join x ys) t) ⟨h, g, dr, t', os⟩) : wpAny (model prog w) A (call (.builtin "str.join") [.str x t, .ref a]) Q E ⟨h, g, dr, tk, os⟩ :=
  join_list (s := ⟨h, g, dr, tk, os⟩) hl (by simpa using hi) hok fun t' k' => k t' k'
theorem x_sliceL {vl vu : Value} {lo hi : Option Int} {Q : Value → Shared → Prop} (O : Own B h l) (hl : h.IsList a vs.toArray) (pl : IsPart vl lo) (pu : IsPart vu hi)
    (k : ∀ D h' t', Own B h' ((D, ListP (slicePick vs.toArray lo hi none).toList) :: l) → Sub h h' → Q (.ref D) ⟨h', g, dr, t', os⟩) (hz : vs.length ≤ 1000000)
    (hs : subscripted slice false (.ref a) (.ref h.objs.size) = operate [.ref h.objs.size, .ref a] (getItem (.ref a) (.ref h.objs.size)) := by with_unfolding_all rfl)
    (ht : ∀ r, letTemporaryGo value (.ref a) r = pure () := by intro _; with_unfolding_all rfl) :
    wpAny (model prog w) A (subscriptTail value slice (.ref a) (.ref h.objs.size)) Q E ⟨h.push { cls := .type "slice", data := .fields #[vl, vu, .none] }, g, dr, tk, os⟩ := by
  refine subscriptTail_ops (Heap.IsList.typeIs (s := ⟨h.push { cls := .type "slice", data := .fields #[vl, vu, .none] }, g, dr, tk, os⟩) (hl.push _)) list_getitem_lookup
    (wpAny_getItem_list_slice (s := ⟨h.push { cls := .type "slice", data := .fields #[vl, vu, .none] }, g, dr, tk, os⟩) (hl.push _) (Heap.IsSliceOf.new ..) pl pu .none (by simp) ?_ (by rw [sizeLine_eq]; simp; (first | assumption | decide | exact Nat.le_trans (by assumption) (by decide) | exact Nat.sub_succ_lt_self _ _ (by assumption) | exact Nat.succ_le_of_lt (by assumption) | exact Nat.le_of_lt (by assumption) | lia | omega))) hs ht
  exact k _ _ _ ((O.junk _).push _ ⟨0, by rw [Array.toArray_toList]⟩) ((sub_push _ _).trans (sub_push _ _))

theorem isList_keeps {h h' : Heap} {a : Addr} {items : Array Value} (x : h.IsList a items) (k : Sub h h') : h'.IsList a items := by obtain ⟨o, ho, r⟩ := x; exact ⟨o, k _ _ ho, r⟩
theorem x_unpack {elts : List Expr} {x1 : Nat} {pos : Pos} {Q : Unit → Shared → Prop} (hh : A.handled = none) (O : Own B h l) (ht : IsTup h a vs.toArray)
    (k : ∀ h' t', Own B h' l → Sub h h' → wpAny (model prog w) A (assignInOrder ((assignEach elts env).map (·.2)) vs) Q E ⟨h', g, dr, t', os⟩)
    (hn : (assignEach elts env).length = vs.length := by rfl) (hstar : (assignEach elts env).findIdx? (·.1) = none := by rfl) :
    wpAny (model prog w) A (assign (.Tuple elts x1 pos) env (.ref a)) Q E ⟨h, g, dr, tk, os⟩ := by
  refine assign_Tuple_tuple (s := ⟨h, g, dr, tk, os⟩) hh ht (by simpa using hn) hstar fun h' he => ?_
  have hs : Sub h h' := fun b o e => he b o (Nat.ne_of_lt (Heap.lt_size e)) e
  exact k h' _ (O.ext hs) hs
/-- a test that changes nothing, told by what it says -/
theorem x_test {T : Sem Bool} {K : Bool → Shared → Prop} (c : Prop) (ht : wpAny (model prog w) A T (fun b s' => ∃ t, s' = ⟨h, g, dr, t, os⟩ ∧ (b = true ↔ c)) E ⟨h, g, dr, tk, os⟩)
    (k1 : ∀ t, c → K true ⟨h, g, dr, t, os⟩) (k2 : ∀ t, ¬ c → K false ⟨h, g, dr, t, os⟩) : wpAny (model prog w) A T K E ⟨h, g, dr, tk, os⟩ :=
  wpAny_mono ht (fun b s' z => by
    obtain ⟨t, rfl, hb⟩ := z
    cases b with
    | true => exact k1 t (hb.mp rfl)
    | false => exact k2 t fun hc => Bool.false_ne_true (hb.mpr hc)) fun _ _ e => e
theorem ifT {b : Bool} {P Q : Prop} (hb : b = true) (h : P) : if b = true then P else Q := by rw [if_pos hb]; exact h
theorem ifF {b : Bool} {P Q : Prop} (hb : b = false) (h : Q) : if b = true then P else Q := by rw [if_neg (by rw [hb]; exact Bool.false_ne_true)]; exact h
theorem r_strMeth {x : Str} {name : Str} {id : String} {pl : Sem Bool} {s : Shared} {Q : Value × List Value → Shared → Prop} (slot : Slot "str" name id) (hty : typeOf (.builtin id) = pure (.type "method_descriptor"))
    (h : Q (.builtin id, [.str x t]) s) : wpAny (model prog w) A (getMethod (.str x t) name pl) Q E s :=
  getMethod_builtin (typeIs_str _ _ _) PySem.F.plainAttrs_str slot hty (fun b e => by cases e) h
/-- the whole heap as the ground -/
theorem own_all (h : Heap) : Own h h [] := ⟨fun _ _ e => e, fun p hp => (nomatch hp), List.nodup_nil⟩

/-- a comprehension over a list whose parts only add to the heap -/
theorem x_comp {elt iter : Expr} {x : Str} {px : Pos} {scope : Scope} {cl : List (Str × Addr)} {pos : Pos} {Q : Value → Shared → Prop} {ifs : List Expr} (pz : Value → Bool) (F : Value → Value → Prop) (hh : A.handled = none)
    (hclos : closureFor scope env = pure cl) (hx : scope.names.lookup x = some .local)
    (k : wpAny (model prog w) A (eval iter env) (fun xv s₁ => ∃ (a : Addr) (vs : List Value) (h : Heap) (t : Nat) (B : Heap) (l : List Ent), xv = .ref a ∧ s₁ = ⟨h, g, dr, t, os⟩ ∧ Own B h l ∧ h.IsList a vs.toArray ∧ vs.length ≤ 1000000 ∧
      (∀ C v H g dr t' os m E', v ∈ vs → Sub h H → H.Ns C m → m x = some v →
        wpAny (model prog w) A (forIn ifs true fun c r => if r = true then do let ok ← isTrue c (compEnvC scope cl C env) (eval c (compEnvC scope cl C env)); pure (ForInStep.yield ok) else pure (ForInStep.yield r))
          (fun ok s₃ => ok = pz v ∧ ∃ h' t'', s₃ = ⟨h', g, dr, t'', os⟩ ∧ Sub H h') E' ⟨H, g, dr, t', os⟩) ∧
      (∀ C v H g dr t' os m E', v ∈ vs → pz v = true → Sub h H → H.Ns C m → m x = some v →
        wpAny (model prog w) A (eval elt (compEnvC scope cl C env)) (fun y s₃ => F v y ∧ ∃ h' t'', s₃ = ⟨h', g, dr, t'', os⟩ ∧ Sub H h') E' ⟨H, g, dr, t', os⟩) ∧
      (∀ D h' t' ys, Own B h' ((D, ListP ys) :: l) → Paired F (vs.filter pz) ys → Sub h h' → Q (.ref D) ⟨h', g, dr, t', os⟩)) E ⟨h, g, dr, tk, os⟩)
    (hcell : ∀ y ∈ scope.names, y.2 ≠ .cell := by decide) (hkind : scope.kind = .function := by rfl)
    (hnames : ∀ y ∈ scope.names, y.2 = .local → scope.names.lookup y.1 = some .local := by decide)
    (hs : ∀ x, foldedSetIterable iter env x = pure x := by intro _; rfl) :
    wpAny (model prog w) A (eval (.ListComp elt [⟨.Name x px, iter, ifs, 0⟩] scope pos) env) Q E ⟨h, g, dr, tk, os⟩ := by
  refine wpAny_ListComp_free pz F hclos hcell hkind hnames hx (wpAny_mono k (fun xv s₁ z => ?_) fun _ _ e => e) hs
  obtain ⟨a, vs, h1, t1, B, l, rfl, rfl, O, hl, hz, hte, hel, hQ⟩ := z
  have hsub := sub_push h1 { cls := .type "list_iterator", data := .fields #[.ref a, .int 0 0] }
  have hax : a < h1.objs.size := by obtain ⟨o, ho, _⟩ := hl; exact Heap.lt_size ho
  have conv : ∀ {H : Heap}, (∀ b o, b ∉ [h1.objs.size] → (h1.push { cls := .type "list_iterator", data := .fields #[.ref a, .int 0 0] }).get? b = some o → H.get? b = some o) → Sub h1 H := fun hk b o e =>
    hk b o (by simp; exact Nat.ne_of_lt (Heap.lt_size e)) (hsub b o e)
  refine wpAny_pyIter_list (s := ⟨h1, g, dr, t1, os⟩) hl ⟨h1.objs.size, _, _, _, _, _, rfl, Walks.list hh h1.objs.size a (Nat.ne_of_lt hax) vs.toArray, by rw [sizeLine_eq]; simp; (first | assumption | decide | exact Nat.le_trans (by assumption) (by decide) | exact Nat.sub_succ_lt_self _ _ (by assumption) | exact Nat.succ_le_of_lt (by assumption) | exact Nat.le_of_lt (by assumption) | lia | omega), ⟨⟨_, Heap.get?_push_size _ rfl, rfl, rfl⟩, hl.push _⟩, ?_, ⟨?_, ?_⟩, ?_⟩
  · intro b hb
    show b < (h1.push _).objs.size
    rw [Heap.size_push]
    simp at hb
    rcases hb with rfl | rfl
    · exact Nat.lt_succ_self _
    · exact Nat.lt_succ_of_lt hax
  · intro C i v s₃ m₃ E' hC hP hn hm hk ht
    obtain ⟨H, g', dr', t', os'⟩ := s₃
    have hv : v ∈ vs := by have := Array.mem_of_getElem? hP; simpa using this
    refine wpAny_mono (hte C v H g' dr' t' os' m₃ E' hv (conv hk) hn hm) (fun ok s₄ z => ?_) fun _ _ e => e
    obtain ⟨e1, h', t'', rfl, hs⟩ := z
    exact ⟨e1, h', t'', rfl, hs⟩
  · intro C i v s₃ m₃ E' hC hP hp hn hm hk ht
    obtain ⟨H, g', dr', t', os'⟩ := s₃
    have hv : v ∈ vs := by have := Array.mem_of_getElem? hP; simpa using this
    refine wpAny_mono (hel C v H g' dr' t' os' m₃ E' hv hp (conv hk) hn hm) (fun ok s₄ z => ?_) fun _ _ e => e
    obtain ⟨e1, h', t'', rfl, hs⟩ := z
    exact ⟨e1, h', t'', rfl, hs⟩
  · intro D h' t' ys vs' hD _ hpl hlen hP hF hk
    have e : vs' = vs := by
      apply List.ext_getElem?
      intro j
      rcases Nat.lt_or_ge j vs'.length with hj | hj
      · have e1 : vs'[j]? = some vs'[j] := List.getElem?_eq_getElem hj
        have := hP j _ e1
        rw [e1]
        simpa using this.symm
      · rw [List.getElem?_eq_none hj, List.getElem?_eq_none (by simp at hlen; (first | assumption | decide | exact Nat.le_trans (by assumption) (by decide) | exact Nat.sub_succ_lt_self _ _ (by assumption) | exact Nat.succ_le_of_lt (by assumption) | exact Nat.le_of_lt (by assumption) | lia | omega))]
    subst e
    obtain ⟨n, hn⟩ := hpl
    have hD' : h1.get? D = none := by
      cases e : h1.get? D with
      | none => rfl
      | some o => rw [hsub _ _ e] at hD; cases hD
    exact hQ D h' t' ys.toList (O.fresh (conv hk) hD' ⟨_, hn, n, by rw [Array.toArray_toList]⟩) hF (conv hk)
end
end Mine
end

/- part MineU -/
section
open PySem PySem.W PyProof.Rows PySem.Calls
set_option Elab.async false
set_option maxRecDepth 100000
namespace Mine

/-! ## exceptions -/
theorem nodup_fun {α β : Type} : ∀ {l : List (α × β)} {a : α} {b b' : β}, (l.map (·.1)).Nodup → (a, b) ∈ l → (a, b') ∈ l → b = b'
  | x :: l, a, b, b', nd, h1, h2 => by
    rw [List.map_cons, List.nodup_cons] at nd
    rcases List.mem_cons.mp h1 with e1 | h1
    · rcases List.mem_cons.mp h2 with e2 | h2
      · rw [← e1] at e2; exact (Prod.mk.inj e2).2.symm
      · exact absurd (e1 ▸ List.mem_map_of_mem (f := (·.1)) h2 : x.1 ∈ l.map (·.1)) nd.1
    · rcases List.mem_cons.mp h2 with e2 | h2
      · exact absurd (e2 ▸ List.mem_map_of_mem (f := (·.1)) h1 : x.1 ∈ l.map (·.1)) nd.1
      · exact nodup_fun nd.2 h1 h2

/-- what stays when frames may be looked at: everything in base, and the frames' names -/
structure Stay (B : Heap) (l : List Ent) (base : Heap) : Prop where
  sub : Sub B base
  ent : ∀ p ∈ l, (∃ m, p.2 = NsP m) ∨ (∃ o, base.get? p.1 = some o ∧ p.2 o)
theorem Stay.step {B : Heap} {l : List Ent} {base h h' : Heap} (S : Stay B l base) (O : Own B h l) (st : base.StaysIn h') (u : h.UpToSlots h') : Own B h' l := by
  refine ⟨fun b o e => st _ _ (S.sub _ _ e), fun p hp => ⟨?_, (O.own p hp).2⟩, O.nodup⟩
  rcases S.ent p hp with ⟨m, hm⟩ | ⟨o, ho, hP⟩
  · obtain ⟨a, P⟩ := p
    dsimp only at hm
    subst hm
    exact nsP_of (u.ns (O.ns hp))
  · exact ⟨o, st _ _ ho, hP⟩
theorem Stay.of_hide {B h : Heap} {l : List Ent} {F : List Addr} (O : Own B h l) (hF : ∀ a ∈ F, B.get? a = none) (hN : ∀ p ∈ l, p.1 ∈ F → ∃ m, p.2 = NsP m) : Stay B l (hideAll h F) := by
  refine ⟨fun b o e => hideAll_get _ (O.keep b o e) fun hm => (by rw [hF _ hm] at e; cases e), fun p hp => ?_⟩
  by_cases hm : p.1 ∈ F
  · exact .inl (hN p hp hm)
  · obtain ⟨⟨o, ho, hP⟩, _⟩ := O.own p hp
    exact .inr ⟨o, hideAll_get _ ho hm, hP⟩

def FrameOk (l : List Ent) (env : Env) : Prop := env.scope.kind ≠ .module ∧ ∃ L m, env.frame = some L ∧ (L, NsP m) ∈ l
theorem funFrames_of {B h base : Heap} {l : List Ent} (O : Own B h l) : ∀ {envs : List Env}, (∀ env ∈ envs, FrameOk l env) → (∀ env ∈ envs, ∀ a, env.frame = some a → base.get? a = none) → h.FunFrames base envs
  | [], _, _ => trivial
  | env :: envs, hf, hb => by
    obtain ⟨hk, L, m, e, hm⟩ := hf env (.head _)
    obtain ⟨o, ho, es, ep, hd, _⟩ := O.get hm
    exact ⟨hk, ⟨L, o, e, hb env (.head _) L e, ho, fun vs q => by rw [hd] at q; cases q⟩, funFrames_of O (fun env he => hf env (.tail _ he)) fun env he => hb env (.tail _ he)⟩

/-- an exception on its way: e, its arguments, what stays -/
structure Thrown (B : Heap) (l : List Ent) (outer : List Env) (e C t : Addr) (vs : List Value) (base h : Heap) : Prop where
  fly : Heap.FlyingW base outer e (.ref C) (.ref t) h
  tup : h.TupAt t vs
  tnew : base.get? t = none
  own : Own B h l
  stay : Stay B l base

def ExcP (C t : Addr) : Obj → Prop := fun o => o.cls = .ref C ∧ ∃ vs, o.data = .fields vs ∧ vs[0]? = some (.ref t)
def ArgP (vs : List Value) : Obj → Prop := fun o => ∃ n, o.cls = .type "tuple" ∧ o.data = .seq vs.toArray n

theorem Thrown.own2 {B base h : Heap} {l : List Ent} {outer : List Env} {e C t : Addr} {vs : List Value} (T : Thrown B l outer e C t vs base h) : Own B h ((e, ExcP C t) :: (t, ArgP vs) :: l) := by
  obtain ⟨oe, ws, he, hc, hd, h0⟩ := T.fly.first
  obtain ⟨ot, n, ht, htc, htd⟩ := T.tup
  have key : ∀ a o, h.get? a = some o → base.get? a = none → (∀ es ep, o.data ≠ .dict es ep) → a ∉ l.map (·.1) := by
    intro a o ho hb hn hm
    obtain ⟨p, hp, rfl⟩ := List.mem_map.mp hm
    rcases T.stay.ent p hp with ⟨m, hm⟩ | ⟨o', ho', _⟩
    · obtain ⟨⟨o', ho', hP⟩, _⟩ := T.own.own p hp
      rw [hm] at hP
      obtain ⟨es, ep, hd', _⟩ := hP
      rw [ho] at ho'; cases ho'
      exact hn _ _ hd'
    · rw [hb] at ho'; cases ho'
  have e1 : e ∉ l.map (·.1) := key e oe he T.fly.2.1 fun es ep q => by rw [hd] at q; cases q
  have t1 : t ∉ l.map (·.1) := key t ot ht T.tnew fun es ep q => by rw [htd] at q; cases q
  have hne : e ≠ t := fun q => by rw [q, ht] at he; cases he; rw [htd] at hd; cases hd
  have hB : ∀ a, base.get? a = none → B.get? a = none := fun a hb => by
    cases q : B.get? a with
    | none => rfl
    | some o => have := T.stay.sub a o q; rw [hb] at this; cases this
  refine ⟨T.own.keep, fun p hp => ?_, ?_⟩
  · rcases List.mem_cons.mp hp with rfl | hp
    · exact ⟨⟨oe, he, hc, ws, hd, h0⟩, hB _ T.fly.2.1⟩
    · rcases List.mem_cons.mp hp with rfl | hp
      · exact ⟨⟨ot, ht, n, htc, htd⟩, hB _ T.tnew⟩
      · exact T.own.own p hp
  · rw [List.map_cons, List.map_cons, List.nodup_cons, List.nodup_cons]
    exact ⟨fun hm => by rcases List.mem_cons.mp hm with q | hm; exact hne q; exact e1 hm, t1, T.own.nodup⟩

section
variable {prog : Program} {w : World} {A : Around} {E : Value → Shared → Prop} {h : Heap} {g : Array GenState} {dr : Drawn} {tk : Nat} {os : OsState} {env : Env} {B : Heap} {l l' : List Ent} {m : Str → Option Value}
  {K : Frag} {p : Program} {loose : List Str} {mg mb : Str → Option Value}

/-- a def of the ground is entered; it may raise -/
theorem x_enterR {f : Addr} {oc : Value} {od : Option Addr} {osl : Array (Option Value)} {name qual : Str} {params : Arguments} {body : List Stmt} {scope : Scope} {dV kV doc pm cdv ct : Value} {an : Option Addr} {args : List Value} {binds : List (Str × Value)} {pre post : List Ent} {R : Result → Shared → Prop}
    (G : Gr K p loose mg mb B) (O : Own B h (pre ++ post)) (ho : K.lookup f = some ⟨oc, od, .func (fnOf name qual params body scope dV kV doc pm an cdv ct), osl⟩) (hcd : codeIn K cdv qual = true)
    (hroom : A.depth < recursionLimit) (hbind : bindArgs (fnOf name qual params body scope dV kV doc pm an cdv ct) ⟨args, []⟩ = pure binds)
    (hloc : ∀ x ∈ binds, scope.names.lookup x.1 = some .local)
    (k : ∀ L h₁ t', Own B h₁ (pre ++ (L, NsP fun x => binds.reverse.lookup x) :: post) →
      wpAny (model prog w) (A.deeper (envOf qual scope L f cdv)) (execs body (envOf qual scope L f cdv)) (fun fl s' => R (.ok (.ret (match fl with | .ret v => v | _ => .none))) s')
        (fun e s' => wpAny (model prog w) (A.deeper (envOf qual scope L f cdv)) (leaving (envOf qual scope L f cdv) e) (fun _ s'' => R (.error e) s'') (fun e' s'' => R (.error e') s'') s')
        ⟨h₁, g, dr, t', os⟩)
    (hcell : ∀ x ∈ scope.names, x.2 ≠ .cell := by decide)
    (hco : scope.isCoroutine = false := by rfl) (hgen : scope.isGenerator = false := by rfl) (hk : scope.kind = .function := by rfl) :
    codeAny (model prog w) A (.call (.ref f) ⟨args, []⟩) R ⟨h, g, dr, tk, os⟩ :=
  codeAny_call_def (s := ⟨h, g, dr, tk, os⟩) (fd := fnOf name qual params body scope dV kV doc pm an cdv ct) hroom (O.keep _ _ (G.X _ _ ho)) rfl (G.T.nolimit.keeps O.keep) ((codeRec_of G.X hcd).keeps O.keep) rfl (BindsTo.of_eq hbind) hcell hloc (fun h₀ hns hk₀ =>
    k _ h₀ _ ((O.fresh hk₀ (get?_size _) (nsP_of hns)).behind pre)) hco hgen hk

/-- an exception just made leaves the def it was raised in -/
theorem x_leave {L C e : Addr} {outer : List Env} {vs : List Value} {Q : Unit → Shared → Prop} {h' : Heap} (O : Own B h l) (hfr : A.frames = some (env :: outer)) (hf : env.frame = some L) (hok : ∀ env' ∈ env :: outer, FrameOk l env') (hx : Heap.MadeExcOf h h' e (.ref C) vs)
    (k : ∀ t base h'', Thrown B l outer e C t vs base h'' → Q () ⟨h'', g, dr, tk, os⟩) :
    wpAny (model prog w) A (leaving env (.ref e)) Q E ⟨h', g, dr, tk, os⟩ := by
  have hin : ∀ env' ∈ env :: outer, ∀ a, env'.frame = some a → (hideAll h ((env :: outer).filterMap (·.frame))).get? a = none := fun env' he a ha => hideAll_none _ (List.mem_filterMap.mpr ⟨env', he, ha⟩)
  have hS : Stay B l (hideAll h ((env :: outer).filterMap (·.frame))) := by
    refine Stay.of_hide O (fun a ha => ?_) fun q hq ha => ?_
    · obtain ⟨env', he, hf'⟩ := List.mem_filterMap.mp ha
      obtain ⟨_, L', m, e1, hm⟩ := hok env' he
      rw [e1] at hf'; cases hf'
      exact (O.own _ hm).2
    · obtain ⟨env', he, hf'⟩ := List.mem_filterMap.mp ha
      obtain ⟨_, L', m, e1, hm⟩ := hok env' he
      rw [e1] at hf'; cases hf'
      exact ⟨m, nodup_fun O.nodup (a := q.1) hq hm⟩
  refine wpAny_leaves_madeW (s := ⟨h', g, dr, tk, os⟩) hfr hf (fun b o q => of_hideAll _ q) (funFrames_of O hok hin) hx fun h'' t x1 x2 x3 x4 => ?_
  refine k t _ h'' ⟨x1, x2, x3, hS.step O x1.1 ?_, hS⟩
  exact (Heap.UpToSlots.of_keeps hx.keeps).trans x4

theorem Thrown.step {base h' : Heap} {outer : List Env} {e C t : Addr} {vs : List Value} (T : Thrown B l outer e C t vs base h) (f : Heap.FlyingW base outer e (.ref C) (.ref t) h') (u : h.UpToSlots h') : Thrown B l outer e C t vs base h' :=
  ⟨f, T.tup.of_slots u, T.tnew, T.stay.step T.own f.1 u, T.stay⟩
theorem Thrown.lay {l' : List Ent} {base : Heap} {outer : List Env} {e C t : Addr} {vs : List Value} (T : Thrown B l outer e C t vs base h) (O : Own B h l') (hl : ∀ p ∈ l', p ∈ l) : Thrown B l' outer e C t vs base h :=
  ⟨T.fly, T.tup, T.tnew, O, T.stay.sub, fun p hp => T.stay.ent p (hl p hp)⟩

/-- except C as n: -/
theorem x_caught {C e t : Addr} {outer : List Env} {vs : List Value} {base : Heap} {x n : Str} {np pos : Pos} {b₀ : Stmt} {suite : List Stmt} {rest : List ExceptHandler} {Q : Flow → Shared → Prop} {bmB : List Value} {newId : String} {l' : Addr → List Ent}
    (T : Thrown B l (env :: outer) e C t vs base h) (G : Gr K p loose mg mb B) (hfr : A.frames = some (env :: outer)) (hf : env.frame = some env.locals)
    (ex : nsIn K mainGlobals x = some (some (.ref C))) (hq : excIn K C bmB newId = true) (hbase : bmB.contains (.type "BaseException") = true)
    (hm : (env.locals, NsP m) ∈ l) (hp : Put env.locals (NsP fun y => if y = n then some (.ref e) else m y) l (l' e))
    (k : ∀ h' t', Own B h' ((e, ExcP C t) :: (t, ArgP vs) :: l' e) →
      wpAny (model prog w) (A.mark (some (.ref e))) (execs (b₀ :: suite) env)
        (fun f s₄ => wpAny (model prog w) A (do bindName env n .none; unbindBehindTheSuite env n pos) (fun _ s₅ => Q f s₅) E s₄)
        (AsSuiteRaised (model prog w) (A.mark (some (.ref e))) env n pos (notedBy (model prog w) (A.mark (some (.ref e))) env (cameBackBy (model prog w) A env E)))
        ⟨h', g, dr, t', os⟩)
    (hg : env.globals = mainGlobals := by rfl)
    (hk : env.scope.kind = .function := by rfl) (hl : env.kindOf n = some .local := by rfl) (hxk : env.kindOf x = some .globalImplicit := by rfl) (hd : (x == ("__debug__" : Str)) = false := by decide)
    (hc : (env.scope.kind == .class || (env.scope.kind == .module && env.locals != env.globals)) = false := by rfl) :
    wpAny (model prog w) A (noteFrame (.ref e) env) (fun _ s₂ => wpAny (model prog w) A (setFlight (.ref e) none) (fun _ s₃ =>
        wpAny (model prog w) A (handleBy (.ref e) env (.ExceptHandler (some (.Name x np)) (some n) (b₀ :: suite) pos :: rest)) Q E s₃) E s₂) E ⟨h, g, dr, tk, os⟩ := by
  refine wpAny_looks_onW (s := ⟨h, g, dr, tk, os⟩) hfr hf T.fly fun h₁ x1 u1 => ?_
  refine wpAny_landsW (s := ⟨h₁, g, dr, tk, os⟩) x1 fun h₂ x2 u2 => ?_
  have T2 := T.step x2 (u1.trans u2)
  obtain ⟨ob, hob, hobc⟩ := x2.there
  refine wpAny_handleBy_cons (codeAny_handlers_test (r_global (s := ⟨h₂, g, dr, tk, os⟩) T2.own G ex ?_ hg hk hxk hd)) (by intro q; cases q)
  obtain ⟨bm, N, nm, qn, bs, hdct, sn, sub, ab, col, dd, k0, k1, k2, k3, k5, mN, hC, hN, hni, TL⟩ := ((own_of_in G.X G.T ex hq).keeps T2.own.keep).obj
  refine wpAny_excMatches_sub_self hC hob hobc (TL.hasType hbase) (codeAny_handlers_suite_as ?_)
  refine lands_againW (s := ⟨h₂, g, dr, tk, os⟩) x2 fun h₃ x3 u3 => ?_
  have O3 := (T2.step x3 u3).own2
  exact x_store O3 (.tail _ (.tail _ hm)) (.tail (.tail hp)) (fun h₄ t₄ O4 => k h₄ t₄ O4) hl hc

/-- the name behind the suite goes -/
theorem x_nameGoes {n : Str} {pos : Pos} {Q : Unit → Shared → Prop} (O : Own B h ((env.locals, NsP m) :: l))
    (k : ∀ h' t' v, Own B h' ((env.locals, NsP fun y => if y = n then v else m y) :: l) → Q () ⟨h', g, dr, t', os⟩)
    (hl : env.kindOf n = some .local := by rfl) (hc : (env.scope.kind == .class || (env.scope.kind == .module && env.locals != env.globals)) = false := by rfl) :
    wpAny (model prog w) A (do bindName env n .none; unbindBehindTheSuite env n pos) Q E ⟨h, g, dr, tk, os⟩ :=
  wpAny_nameGoes_keeps (s := ⟨h, g, dr, tk, os⟩) hl (O.ns (.head _)) hc fun h' v hn hs => k h' _ v (O.putSame Put.head hs (nsP_of hn))

/-- raise C(text) -/
theorem x_raise {C : Addr} {x y : Str} {np cpos pos ap : Pos} {an : Nat} {Q : Flow → Shared → Prop} {bmB : List Value} {newId initId Bn : String} (FB : ExcBaseFacts Bn newId initId bmB)
    (O : Own B h l) (G : Gr K p loose mg mb B) (ex : nsIn K mainGlobals x = some (some (.ref C))) (hq : excIn K C bmB newId = true) (hh : A.handled = none)
    (k : ∀ h' e u t', Heap.MadeExcOf h h' e (.ref C) [.str y u] → E (.ref e) ⟨h', g, dr, t', os⟩)
    (hg : env.globals = mainGlobals := by rfl)
    (hk : env.scope.kind = .function := by rfl) (hxk : env.kindOf x = some .globalImplicit := by rfl) (hd : (x == ("__debug__" : Str)) = false := by decide) :
    wpAny (model prog w) A (exec (.Raise (some (.Call (.Name x np) [.Constant (.str y) an ap] [] cpos)) none pos) env) Q E ⟨h, g, dr, tk, os⟩ := by
  obtain ⟨tl, N, nm, q, bs, hdct, sn, sub, ab, col, dd, k0, k1, k2, k3, k5, mN, hC, hN, hni, T⟩ := (own_of_in G.X G.T ex hq).obj
  have he : starEach [.Constant (.str y) an ap] env = (false, eval (.Constant (.str y) an ap) env) :: starEach [] env := by rfl
  refine wpAny_Raise_call_subT (C := C) (nm := nm) (q := q) (N := N) (bs := bs) (bm := tl) (hdct := hdct) (sn := sn) (sub := sub) (ab := ab) (col := col) (dd := dd) (k0 := k0) (k1 := k1) (k2 := k2) (k3 := k3) (k5 := k5)
    FB (mN := mN) (T.hasType FB.hasBase) hh (by rfl) hni (r_global (s := ⟨h, g, dr, tk, os⟩) O G ex ⟨rfl, ?_⟩ hg hk hxk hd)
  rw [he]
  refine Calls.evalArgs_plain ?_
  show wpAny _ _ (spliced (backTo cpos (starEach [.Constant (.str y) an ap] env))) _ _ _
  refine spliced_more (x_cstr fun t t' => spliced_none ?_)
  exact ⟨rfl, by rw [sizeLine_eq]; simp, O.keep _ _ hC, hN.keeps O.keep, T.keeps O.keep, fun h' e hm => k h' e _ _ hm⟩
end

/-! ## str of an exception of the program's own class -/
section
variable {prog : Program} {w : World} {A : Around} {E : Value → Shared → Prop} {h : Heap} {g : Array GenState} {dr : Drawn} {tk : Nat} {os : OsState} {B : Heap} {l : List Ent}
  {K : Frag} {p : Program} {loose : List Str} {mg mb : Str → Option Value}
theorem x_strOfExc {C e t : Addr} {y : Str} {u : Tok} {Q : Value → Shared → Prop} (G : Gr K p loose mg mb B) (O : Own B h l) (he : (e, ExcP C t) ∈ l) (ht : (t, ArgP [.str y u]) ∈ l) (hu : A.units + 2 < cLine)
    (h1 : ∀ prog P, peek K ⟨prog, P⟩ (typeLookup (.ref C) "__str__") = some (some (.builtin "BaseException.__str__")))
    (h2 : ∀ prog P, peek K ⟨prog, P⟩ (isSubtype (.ref C) (.type "BaseException")) = some true)
    (k : Q (.str y u) ⟨h, g, dr, tk, os⟩) : wpAny (model prog w) A (call (.type "str") [.ref e]) Q E ⟨h, g, dr, tk, os⟩ := by
  obtain ⟨oe, hoe, hc, ws, hd, h0⟩ := O.get he
  obtain ⟨ot, hot, n, htc, htd⟩ := O.get ht
  have X : K.In h := fun a o q => O.keep a o (G.X a o q)
  have L1 : ∀ prog w, Looks (model prog w) h (typeLookup (.ref C) "__str__") _ := fun prog w => Looks.of_peek X (h1 prog w.params)
  have L2 : ∀ prog w, Looks (model prog w) h (isSubtype (.ref C) (.type "BaseException")) _ := fun prog w => Looks.of_peek X (h2 prog w.params)
  have Ty : ∀ {M : Model} {A : Around} {E : Value → Shared → Prop} {Q : Value → Shared → Prop}, Q (.ref C) ⟨h, g, dr, tk, os⟩ → wpAny M A (typeOf (.ref e)) Q E ⟨h, g, dr, tk, os⟩ :=
    fun q => wpAny_bind (wpAny_loadPart hoe (by rw [hc]; exact wpAny_pure q))
  refine callType_new F.called_str (by decide) (F.typeCall_str_1 _) (F.newCall_str_1 _) (fun obj => F.args_object_init_2 obj _) F.entry_str_new
    (meets_str_new (S := fun A' R s' => s' = ⟨h, g, dr, tk, os⟩ ∧ A'.units + 1 < cLine ∧ R (.ok (.ret (.str y u))) s') fun prog' w' A' R s' hq => ?_) ⟨rfl, (show A.units + 1 + 1 < cLine from hu), typeIs_str _ _ _, k⟩
  obtain ⟨rfl, hu', hR⟩ := hq
  have hcR : A'.in1.units < cLine := hu'
  show wpAny (model prog' w') A'.in1 (Builtin.Str.strOf (.ref e)) _ _ _
  unfold Builtin.Str.strOf
  refine wpAny_bind (wpAny_cRoomFor hcR ?_)
  unfold callSpecial? specialOf
  refine wpAny_bind (wpAny_bind (wpAny_bind (Ty (L1 _ _ _ _ _ _ (fun _ _ z => z) ?_))))
  refine wpAny_holding (wpAny_bind (wpAny_of_eq (a := (Value.builtin "BaseException.__str__", [Value.ref e])) (by kernel_rfl) ?_))
  refine wpAny_bind (wpAny_call (codeAny_call_builtin (by decide +kernel) PySem.F.entry_bexc_str ?_))
  have hA : ∀ {M : Model} {A : Around} {E : Value → Shared → Prop} {Q : Value × List Value → Shared → Prop}, Q (.ref t, [.str y u]) ⟨h, g, dr, tk, os⟩ → wpAny M A (Builtin.BaseException.bexcArgs (.ref e)) Q E ⟨h, g, dr, tk, os⟩ := by
    intro M A E Q hq
    unfold Builtin.BaseException.bexcArgs
    refine wpAny_bind (wpAny_field hoe hd h0 (wpAny_bind (wpAny_seqItems hot htd ?_)))
    exact wpAny_pure hq
  have e1 : builtinKind "BaseException.__str__" = some .slot := by decide +kernel
  have e2 : splitId "BaseException.__str__" = some ("BaseException", "__str__") := by decide +kernel
  have e3 := PySem.F.args_bexc_str (.ref e)
  simp only [checkBuiltinCall, e1, e2]
  refine wpAny_bind ?_
  unfold isInstance
  refine wpAny_bind (Ty (L2 _ _ _ _ _ _ (fun _ _ z => z) ?_))
  show wpAny _ _ (if (!true) = true then _ else _) _ _ _
  rw [if_neg (by decide)]
  refine wpAny_of_eq e3 ?_
  unfold Builtin.«BaseException.__str__»
  refine wpAny_bind (wpAny_of_eq (a := (Value.ref e, [])) (by first | rfl | kernel_rfl) ?_)
  refine wpAny_bind (hA ?_)
  refine wpAny_bind (wpAny_rule (wpAny_bind ?_))
  repeat (first | wp_step)
  exact hR
end
end Mine
end

/- part MineW -/
section
open PySem PySem.Spec PyProof.Rows
namespace Mine
/-! ## medians of words, in plain words -/
abbrev W := List Nat
theorem lt_of_nlt {a b c : W} (h : ¬ b < a) (h2 : b < c) : a < c := List.lt_of_le_of_lt h h2
theorem nlt_irr (a : W) : ¬ a < a := List.lt_irrefl a
theorem nlt_trans {a b c : W} (h : ¬ b < a) (h2 : ¬ c < b) : ¬ c < a := fun z => h (List.lt_of_le_of_lt h2 z)
theorem eq_of_nlt {a b : W} (h : ¬ b < a) (h2 : ¬ a < b) : a = b := List.le_antisymm h h2
def below (t : W) (M : List W) : Nat := M.countP fun w => decide (w < t)
/-- c is the lower (higher) median of M -/
def Med (low : Bool) (M : List W) (c : W) : Prop := c ∈ M ∧ ∀ t, ¬ c < t ↔ (if low then 2 * below t M < M.length else 2 * below t M ≤ M.length)
theorem below_le (t : W) (M : List W) : below t M ≤ M.length := List.countP_le_length
theorem below_perm {t : W} {M M' : List W} (h : M.Perm M') : below t M = below t M' := h.countP_eq _
theorem below_cons (t w : W) (M : List W) : below t (w :: M) = (if w < t then 1 else 0) + below t M := by
  unfold below
  by_cases h : w < t
  · rw [List.countP_cons_of_pos (by simpa using h), if_pos h]; (first | assumption | decide | exact Nat.le_trans (by assumption) (by decide) | exact Nat.sub_succ_lt_self _ _ (by assumption) | exact Nat.succ_le_of_lt (by assumption) | exact Nat.le_of_lt (by assumption) | lia | omega)
  · rw [List.countP_cons_of_neg (by simpa using h), if_neg h]; (first | assumption | decide | exact Nat.le_trans (by assumption) (by decide) | exact Nat.sub_succ_lt_self _ _ (by assumption) | exact Nat.succ_le_of_lt (by assumption) | exact Nat.le_of_lt (by assumption) | lia | omega)
theorem below_zero {t : W} {M : List W} (h : ∀ w ∈ M, ¬ w < t) : below t M = 0 := by
  unfold below
  rw [List.countP_eq_zero]
  intro w hw
  simpa using h w hw
theorem at_sorted : ∀ {l : List W} {i : Nat} {c : W}, l.Pairwise (fun a b => ¬ b < a) → l[i]? = some c → ∀ t, ¬ c < t ↔ below t l ≤ i
  | [], i, c, _, h, t => by simp at h
  | a :: l, i, c, hp, h, t => by
    rw [List.pairwise_cons] at hp
    rw [below_cons]
    by_cases ha : a < t
    · rw [if_pos ha]
      cases i with
      | zero =>
        simp at h; subst h
        exact ⟨fun z => absurd ha z, fun z => by (first | assumption | decide | exact Nat.le_trans (by assumption) (by decide) | exact Nat.sub_succ_lt_self _ _ (by assumption) | exact Nat.succ_le_of_lt (by assumption) | exact Nat.le_of_lt (by assumption) | lia | omega)⟩
      | succ i =>
        simp at h
        rw [at_sorted hp.2 h t]; (first | assumption | decide | exact Nat.le_trans (by assumption) (by decide) | exact Nat.sub_succ_lt_self _ _ (by assumption) | exact Nat.succ_le_of_lt (by assumption) | exact Nat.le_of_lt (by assumption) | lia | omega)
    · rw [if_neg ha, below_zero (fun w hw z => ha (lt_of_nlt (hp.1 w hw) z))]
      refine ⟨fun _ => by (first | assumption | decide | exact Nat.le_trans (by assumption) (by decide) | exact Nat.sub_succ_lt_self _ _ (by assumption) | exact Nat.succ_le_of_lt (by assumption) | exact Nat.le_of_lt (by assumption) | lia | omega), fun _ z => ?_⟩
      have : c ∈ a :: l := List.mem_of_getElem? h
      rcases List.mem_cons.mp this with rfl | hm
      · exact ha z
      · exact ha (lt_of_nlt (hp.1 c hm) z)
theorem rising_pair : ∀ {ss : List Str} {p : Str}, risingS p ss = true → (∀ x ∈ ss, ¬ x.cps.toList < p.cps.toList) ∧ (ss.map (·.cps.toList)).Pairwise (fun a b => ¬ b < a)
  | [], _, _ => ⟨(fun _ h => nomatch h), List.Pairwise.nil⟩
  | x :: r, p, h => by
    have h' : (!ltCps x.cps.toList p.cps.toList && risingS x r) = true := h
    rw [Bool.and_eq_true, Bool.not_eq_true', ltCps_eq, decide_eq_false_iff_not] at h'
    obtain ⟨h1, h2⟩ := rising_pair h'.2
    refine ⟨fun y hy => ?_, ?_⟩
    · rcases List.mem_cons.mp hy with rfl | hy
      · exact h'.1
      · exact nlt_trans h'.1 (h1 y hy)
    · rw [List.map_cons, List.pairwise_cons]
      refine ⟨fun a ha => ?_, h2⟩
      obtain ⟨y, hy, rfl⟩ := List.mem_map.mp ha
      exact h1 y hy
theorem sorted_pair : ∀ {ss : List Str}, sortedS ss = true → (ss.map (·.cps.toList)).Pairwise (fun a b => ¬ b < a)
  | [], _ => .nil
  | x :: r, h => by
    have h : risingS x r = true := h
    obtain ⟨h1, h2⟩ := rising_pair h
    rw [List.map_cons, List.pairwise_cons]
    refine ⟨fun a ha => ?_, h2⟩
    obtain ⟨y, hy, rfl⟩ := List.mem_map.mp ha
    exact h1 y hy
theorem med_sorted {low : Bool} {M l : List W} {c : W} {i : Nat} (hs : l.Pairwise (fun a b => ¬ b < a)) (hp : l.Perm M) (h : l[i]? = some c) (hi : i = if low then (l.length - 1) / 2 else l.length / 2) : Med low M c := by
  have hl := (List.getElem?_eq_some_iff.mp h).1
  refine ⟨hp.mem_iff.mp (List.mem_of_getElem? h), fun t => ?_⟩
  rw [at_sorted hs h t, below_perm hp, hi, hp.length_eq]
  rw [hp.length_eq] at hl
  cases low with
  | true => simp only [if_true]; (first | assumption | decide | exact Nat.le_trans (by assumption) (by decide) | exact Nat.sub_succ_lt_self _ _ (by assumption) | exact Nat.succ_le_of_lt (by assumption) | exact Nat.le_of_lt (by assumption) | lia | omega)
  | false => simp only [Bool.false_eq_true, if_false]; (first | assumption | decide | exact Nat.le_trans (by assumption) (by decide) | exact Nat.sub_succ_lt_self _ _ (by assumption) | exact Nat.succ_le_of_lt (by assumption) | exact Nat.le_of_lt (by assumption) | lia | omega)
end Mine
end

/- part MineX -/
section
open PySem PySem.W PyProof.Rows PySem.Calls
set_option Elab.async false
set_option maxRecDepth 100000
namespace Mine
section
variable {prog : Program} {w : World} {A : Around} {E : Value → Shared → Prop} {h : Heap} {g : Array GenState} {dr : Drawn} {tk : Nat} {os : OsState} {B : Heap}
theorem x_subI {a b : Int} {t u : Tok} {Q : Value → Shared → Prop} (k : ∀ t t', Q (.int (a - b) t) ⟨h, g, dr, t', os⟩) : wpAny (model prog w) A (binaryOp .Sub (.int a t) (.int b u)) Q E ⟨h, g, dr, tk, os⟩ := P.sub_int (k _ _)
theorem x_modI {a b : Int} {t u : Tok} {Q : Value → Shared → Prop} (hb : b ≠ 0) (k : ∀ t t', Q (.int (a.fmod b) t) ⟨h, g, dr, t', os⟩) : wpAny (model prog w) A (binaryOp .Mod (.int a t) (.int b u)) Q E ⟨h, g, dr, tk, os⟩ := PyProof.Rows.mod_int' hb (k _ _)
theorem x_fdivI {a b : Int} {t u : Tok} {Q : Value → Shared → Prop} (hb : b ≠ 0) (hs : b.natAbs < 1073741824) (k : ∀ t t', Q (.int (a.fdiv b) t) ⟨h, g, dr, t', os⟩) : wpAny (model prog w) A (binaryOp .FloorDiv (.int a t) (.int b u)) Q E ⟨h, g, dr, tk, os⟩ := PyProof.Rows.floordiv_int hb (k _ _) (hp := .inl (PyProof.noPylong_small hs))
end
/-! ## range -/
def RiP (i n : Nat) : Obj → Prop := EqP { cls := .type "range_iterator", dict := none, data := .fields #[rawInt (i : Int), rawInt ((n : Int) - (i : Int)), rawInt 1], slots := #[] }
def RgP (n : Int) : Obj → Prop := fun o => ∃ t u v, o = { cls := .type "range", dict := none, data := .fields #[.int 0 t, .int n u, .int 1 v], slots := #[] }
section
variable {prog : Program} {w : World} {A : Around} {E : Value → Shared → Prop} {h : Heap} {g : Array GenState} {dr : Drawn} {tk : Nat} {os : OsState} {B : Heap} {l l' : List Ent}
theorem x_range {n : Int} {t : Tok} {Q : Value → Shared → Prop} (O : Own B h l) (k : ∀ r h' t', Own B h' ((r, RgP n) :: l) → Q (.ref r) ⟨h', g, dr, t', os⟩) :
    wpAny (model prog w) A (call (.type "range") [.int n t]) Q E ⟨h, g, dr, tk, os⟩ := call_range_1 (s := ⟨h, g, dr, tk, os⟩) (k _ _ _ (O.push _ ⟨_, _, _, rfl⟩))
theorem x_iterR {r : Addr} {n : Nat} {Q : Value → Shared → Prop} (O : Own B h l) (hm : (r, RgP (n : Int)) ∈ l) (hn : n ≤ 1000000) (k : ∀ it h' t', Own B h' ((it, RiP 0 n) :: l) → Q (.ref it) ⟨h', g, dr, t', os⟩) :
    wpAny (model prog w) A (pyIter (.ref r)) Q E ⟨h, g, dr, tk, os⟩ := by
  obtain ⟨o, ho, t, u, v, rfl⟩ := O.get hm
  refine wpAny_pyIter_range (s := ⟨h, g, dr, tk, os⟩) ho (small_one (by decide) (by decide) (by (first | assumption | decide | exact Nat.le_trans (by assumption) (by decide) | exact Nat.sub_succ_lt_self _ _ (by assumption) | exact Nat.succ_le_of_lt (by assumption) | exact Nat.le_of_lt (by assumption) | lia | omega)) (by (first | assumption | decide | exact Nat.le_trans (by assumption) (by decide) | exact Nat.sub_succ_lt_self _ _ (by assumption) | exact Nat.succ_le_of_lt (by assumption) | exact Nat.le_of_lt (by assumption) | lia | omega))) (k _ _ _ (O.push _ ?_))
  have e : Builtin.Range.rangeSize 0 (n : Int) 1 = (n : Int) := by rw [rangeSize_one]; split <;> (first | assumption | decide | exact Nat.le_trans (by assumption) (by decide) | exact Nat.sub_succ_lt_self _ _ (by assumption) | exact Nat.succ_le_of_lt (by assumption) | exact Nat.le_of_lt (by assumption) | lia | omega)
  show _ = _
  rw [e]
  simp
theorem x_nextR {it : Addr} {i n : Nat} {Q : Option Value → Shared → Prop} (hh : A.handled = none) (O : Own B h l) (hm : (it, RiP i n) ∈ l) (hp : Put it (RiP (i + 1) n) l l') (hi : i ≤ n)
    (k1 : i < n → ∀ h' t t', Own B h' l' → Q (some (.int (i : Int) t)) ⟨h', g, dr, t', os⟩)
    (k2 : i = n → ∀ h' t', (∀ b o, b ≠ it → h.get? b = some o → h'.get? b = some o) → Q none ⟨h', g, dr, t', os⟩) :
    wpAny (model prog w) A (pyNext (.ref it)) Q E ⟨h, g, dr, tk, os⟩ := by
  have ho : IsRangeIter h it (i : Int) ((n : Int) - (i : Int)) 1 := O.eq (o := _) hm
  by_cases hlt : i < n
  · refine wpAny_pyNext_range_item (s := ⟨h, g, dr, tk, os⟩) ho (by (first | assumption | decide | exact Nat.le_trans (by assumption) (by decide) | exact Nat.sub_succ_lt_self _ _ (by assumption) | exact Nat.succ_le_of_lt (by assumption) | exact Nat.le_of_lt (by assumption) | lia | omega)) fun h' ho' hs => k1 hlt h' _ _ (O.putSame hp hs ⟨_, ho', ?_⟩)
    show _ = _
    have e1 : ((i + 1 : Nat) : Int) = (i : Int) + 1 := by (first | assumption | decide | exact Nat.le_trans (by assumption) (by decide) | exact Nat.sub_succ_lt_self _ _ (by assumption) | exact Nat.succ_le_of_lt (by assumption) | exact Nat.le_of_lt (by assumption) | lia | omega)
    have e2 : (n : Int) - ((i + 1 : Nat) : Int) = (n : Int) - (i : Int) - 1 := by (first | assumption | decide | exact Nat.le_trans (by assumption) (by decide) | exact Nat.sub_succ_lt_self _ _ (by assumption) | exact Nat.succ_le_of_lt (by assumption) | exact Nat.le_of_lt (by assumption) | lia | omega)
    rw [e2, e1]
  · exact wpAny_pyNext_range_end (s := ⟨h, g, dr, tk, os⟩) hh ho (by (first | assumption | decide | exact Nat.le_trans (by assumption) (by decide) | exact Nat.sub_succ_lt_self _ _ (by assumption) | exact Nat.succ_le_of_lt (by assumption) | exact Nat.le_of_lt (by assumption) | lia | omega)) fun h' he => k2 (by (first | assumption | decide | exact Nat.le_trans (by assumption) (by decide) | exact Nat.sub_succ_lt_self _ _ (by assumption) | exact Nat.succ_le_of_lt (by assumption) | exact Nat.le_of_lt (by assumption) | lia | omega)) h' _ fun b o hb e => he b o hb e
end
/-- what follows, told by a name -/
theorem wpAny_let {α : Type} {M : Model} {A : Around} {t : Sem α} {E : Value → Shared → Prop} {s : Shared} {Q : α → Shared → Prop} (h : let Q' := Q; let E' := E; wpAny M A t Q' E' s) : wpAny M A t Q E s := h
theorem execs_consL {M : Model} {A : Around} {E : Value → Shared → Prop} {s : Shared} {env : Env} {st : Stmt} {rest : List Stmt} {Q : Flow → Shared → Prop}
    (h : let Q' := Q; let E' := E; wpAny M A (exec st env) (fun f s' => match f with | .next => wpAny M A (execs rest env) Q' E' s' | f => Q' f s') E' s) : wpAny M A (execs (st :: rest) env) Q E s := wpAny_execs_cons h
end Mine
end

/- part MinePK -/
section
namespace Mine
/-! ## packs: several witnesses, several facts, one constructor each -/
inductive E3 {α0 α1 α2 : Sort _} (P : α0 → α1 → α2 → Prop) : Prop | mk (x0 : α0) (x1 : α1) (x2 : α2) (h : P x0 x1 x2) : E3 P
inductive E4 {α0 α1 α2 α3 : Sort _} (P : α0 → α1 → α2 → α3 → Prop) : Prop | mk (x0 : α0) (x1 : α1) (x2 : α2) (x3 : α3) (h : P x0 x1 x2 x3) : E4 P
inductive E5 {α0 α1 α2 α3 α4 : Sort _} (P : α0 → α1 → α2 → α3 → α4 → Prop) : Prop | mk (x0 : α0) (x1 : α1) (x2 : α2) (x3 : α3) (x4 : α4) (h : P x0 x1 x2 x3 x4) : E5 P
inductive E6 {α0 α1 α2 α3 α4 α5 : Sort _} (P : α0 → α1 → α2 → α3 → α4 → α5 → Prop) : Prop | mk (x0 : α0) (x1 : α1) (x2 : α2) (x3 : α3) (x4 : α4) (x5 : α5) (h : P x0 x1 x2 x3 x4 x5) : E6 P
inductive E7 {α0 α1 α2 α3 α4 α5 α6 : Sort _} (P : α0 → α1 → α2 → α3 → α4 → α5 → α6 → Prop) : Prop | mk (x0 : α0) (x1 : α1) (x2 : α2) (x3 : α3) (x4 : α4) (x5 : α5) (x6 : α6) (h : P x0 x1 x2 x3 x4 x5 x6) : E7 P
inductive E8 {α0 α1 α2 α3 α4 α5 α6 α7 : Sort _} (P : α0 → α1 → α2 → α3 → α4 → α5 → α6 → α7 → Prop) : Prop | mk (x0 : α0) (x1 : α1) (x2 : α2) (x3 : α3) (x4 : α4) (x5 : α5) (x6 : α6) (x7 : α7) (h : P x0 x1 x2 x3 x4 x5 x6 x7) : E8 P
inductive E9 {α0 α1 α2 α3 α4 α5 α6 α7 α8 : Sort _} (P : α0 → α1 → α2 → α3 → α4 → α5 → α6 → α7 → α8 → Prop) : Prop | mk (x0 : α0) (x1 : α1) (x2 : α2) (x3 : α3) (x4 : α4) (x5 : α5) (x6 : α6) (x7 : α7) (x8 : α8) (h : P x0 x1 x2 x3 x4 x5 x6 x7 x8) : E9 P
inductive E10 {α0 α1 α2 α3 α4 α5 α6 α7 α8 α9 : Sort _} (P : α0 → α1 → α2 → α3 → α4 → α5 → α6 → α7 → α8 → α9 → Prop) : Prop | mk (x0 : α0) (x1 : α1) (x2 : α2) (x3 : α3) (x4 : α4) (x5 : α5) (x6 : α6) (x7 : α7) (x8 : α8) (x9 : α9) (h : P x0 x1 x2 x3 x4 x5 x6 x7 x8 x9) : E10 P
inductive C4 (p0 p1 p2 p3 : Prop) : Prop | mk (h0 : p0) (h1 : p1) (h2 : p2) (h3 : p3) : C4 p0 p1 p2 p3
inductive C5 (p0 p1 p2 p3 p4 : Prop) : Prop | mk (h0 : p0) (h1 : p1) (h2 : p2) (h3 : p3) (h4 : p4) : C5 p0 p1 p2 p3 p4
inductive C6 (p0 p1 p2 p3 p4 p5 : Prop) : Prop | mk (h0 : p0) (h1 : p1) (h2 : p2) (h3 : p3) (h4 : p4) (h5 : p5) : C6 p0 p1 p2 p3 p4 p5
inductive C7 (p0 p1 p2 p3 p4 p5 p6 : Prop) : Prop | mk (h0 : p0) (h1 : p1) (h2 : p2) (h3 : p3) (h4 : p4) (h5 : p5) (h6 : p6) : C7 p0 p1 p2 p3 p4 p5 p6
inductive C8 (p0 p1 p2 p3 p4 p5 p6 p7 : Prop) : Prop | mk (h0 : p0) (h1 : p1) (h2 : p2) (h3 : p3) (h4 : p4) (h5 : p5) (h6 : p6) (h7 : p7) : C8 p0 p1 p2 p3 p4 p5 p6 p7
inductive C9 (p0 p1 p2 p3 p4 p5 p6 p7 p8 : Prop) : Prop | mk (h0 : p0) (h1 : p1) (h2 : p2) (h3 : p3) (h4 : p4) (h5 : p5) (h6 : p6) (h7 : p7) (h8 : p8) : C9 p0 p1 p2 p3 p4 p5 p6 p7 p8
inductive C10 (p0 p1 p2 p3 p4 p5 p6 p7 p8 p9 : Prop) : Prop | mk (h0 : p0) (h1 : p1) (h2 : p2) (h3 : p3) (h4 : p4) (h5 : p5) (h6 : p6) (h7 : p7) (h8 : p8) (h9 : p9) : C10 p0 p1 p2 p3 p4 p5 p6 p7 p8 p9
inductive C12 (p0 p1 p2 p3 p4 p5 p6 p7 p8 p9 p10 p11 : Prop) : Prop | mk (h0 : p0) (h1 : p1) (h2 : p2) (h3 : p3) (h4 : p4) (h5 : p5) (h6 : p6) (h7 : p7) (h8 : p8) (h9 : p9) (h10 : p10) (h11 : p11) : C12 p0 p1 p2 p3 p4 p5 p6 p7 p8 p9 p10 p11
inductive C13 (p0 p1 p2 p3 p4 p5 p6 p7 p8 p9 p10 p11 p12 : Prop) : Prop | mk (h0 : p0) (h1 : p1) (h2 : p2) (h3 : p3) (h4 : p4) (h5 : p5) (h6 : p6) (h7 : p7) (h8 : p8) (h9 : p9) (h10 : p10) (h11 : p11) (h12 : p12) : C13 p0 p1 p2 p3 p4 p5 p6 p7 p8 p9 p10 p11 p12
end Mine
end

/- part MineBA -/
section
open PySem PySem.W PyProof.Rows PySem.Calls
set_option Elab.async false
set_option maxRecDepth 100000
namespace Mine

/-! ## comprehensions: any target, two clauses -/
theorem Own.drop2 {B h h' : Heap} {a : Addr} {P : Obj → Prop} {l : List Ent} (O : Own B h ((a, P) :: l)) (hk : ∀ b o, b ≠ a → h.get? b = some o → h'.get? b = some o) : Own B h' l := by
  have hB := (O.own _ (.head _)).2
  have nd := List.nodup_cons.mp O.nodup
  refine ⟨fun b o e => hk b o (fun z => by rw [z] at e; rw [show B.get? a = none from hB] at e; cases e) (O.keep b o e), fun q hq => ?_, nd.2⟩
  obtain ⟨⟨o, ho, hP⟩, hn⟩ := O.own q (.tail _ hq)
  exact ⟨⟨o, hk _ _ (fun z => nd.1 (z ▸ List.mem_map_of_mem (f := (·.1)) hq)) ho, hP⟩, hn⟩
section
variable {prog : Program} {w : World} {A : Around} {E : Value → Shared → Prop} {R : Result → Shared → Prop} {s : Shared}

theorem loop_comp {elt target iter : Expr} {scope : Scope} {pos : Pos} {it acc : Value} {env : Env} (I : Nat → Shared → Prop)
    (turn : ∀ n s, I n s → wpAny (model prog w) A (pyNext it) (fun r s₁ => match r with
      | none => R (.ok .next) s₁
      | some v => wpAny (model prog w) A (letOwnedTupleGo target it v) (fun _ s₁' => wpAny (model prog w) A (assign target env v) (fun _ s₂ =>
          wpAny (model prog w) A (eval elt env) (fun x s₄ =>
              wpAny (model prog w) A (call (.builtin "list.append") [acc, x]) (fun _ s₅ => ∃ m, m < n ∧ I m s₅) (notedBy (model prog w) A env fun e s' => R (.error e) s') s₄) (notedBy (model prog w) A env fun e s' => R (.error e) s') s₂)
          (notedBy (model prog w) A env fun e s' => R (.error e) s') s₁') (notedBy (model prog w) A env fun e s' => R (.error e) s') s₁) (notedBy (model prog w) A env fun e s' => R (.error e) s') s)
    (n : Nat) (h : I n s) : codeAny (model prog w) A (.compLoop (.ListComp elt [⟨target, iter, [], 0⟩] scope pos) 0 it acc env) R s := by
  refine codeAny_loop rfl I (fun n s hI => ?_) n h
  show wpAny _ A ((compTurn (.ListComp elt [⟨target, iter, [], 0⟩] scope pos) 0 it acc env).onRaise (fun x => do noteFrame x env; theTreesLotGoes x)) _ _ s
  refine wpAny_noted ?_
  rw [compTurn_list]
  refine wpAny_bind (wpAny_standAt (wpAny_bind (wpAny_mono (turn n s hI) (fun r s₁ h₁ => ?_) fun _ _ h' => h')))
  cases r with
  | none => exact wpAny_pure h₁
  | some v =>
    refine wpAny_bind (wpAny_mono h₁ (fun _ s₁' h₁' => ?_) fun _ _ h' => h')
    refine wpAny_bind (wpAny_mono h₁' (fun _ s₂ h₂ => wpAny_bind (wpAny_mono (wpAny_tests_nil (Q := fun ok s₃ => ok = true ∧ s₃ = s₂) ⟨rfl, rfl⟩) (fun ok s₃ h₃ => ?_) fun _ _ h' => h')) fun _ _ h' => h')
    obtain ⟨rfl, rfl⟩ := h₃
    exact wpAny_bind (wpAny_bind (wpAny_mono h₂ (fun x s₄ h₄ => wpAny_bind (wpAny_mono h₄ (fun _ s₅ h₅ => wpAny_pure (wpAny_pure ⟨rfl, h₅⟩)) fun _ _ h' => h')) fun _ _ h' => h'))

theorem compTurn_in (elt t0 i0 t1 i1 : Expr) (scope : Scope) (pos : Pos) (it acc : Value) (env : Env) :
    compTurn (.ListComp elt [⟨t0, i0, [], 0⟩, ⟨t1, i1, [], 0⟩] scope pos) 1 it acc env = (standAt i1.pos >>= fun _ => pyNext it >>= fun r => match r with
      | none => pure (.done .next)
      | some v => letOwnedTupleGo t1 it v >>= fun _ => assign t1 env v >>= fun _ =>
        (eval elt env >>= fun x => call (.builtin "list.append") [acc, x] >>= fun _ => pure ()) >>= fun _ =>
          again (.compLoop (.ListComp elt [⟨t0, i0, [], 0⟩, ⟨t1, i1, [], 0⟩] scope pos) 1 it acc env)) := by rfl
theorem compTurn_out (elt t0 i0 t1 i1 : Expr) (scope : Scope) (pos : Pos) (it acc : Value) (env : Env) :
    compTurn (.ListComp elt [⟨t0, i0, [], 0⟩, ⟨t1, i1, [], 0⟩] scope pos) 0 it acc env = (standAt i0.pos >>= fun _ => pyNext it >>= fun r => match r with
      | none => pure (.done .next)
      | some v => letOwnedTupleGo t0 it v >>= fun _ => assign t0 env v >>= fun _ =>
        eval i1 env >>= fun x => standAt i1.pos >>= fun _ => foldedSetIterable i1 env x >>= fun x => holding [x] (pyIter x) >>= fun it2 =>
          runOwn (.compStart (.ListComp elt [⟨t0, i0, [], 0⟩, ⟨t1, i1, [], 0⟩] scope pos) 1 it2 acc env) env >>= fun _ =>
          again (.compLoop (.ListComp elt [⟨t0, i0, [], 0⟩, ⟨t1, i1, [], 0⟩] scope pos) 0 it acc env)) := by rfl

theorem loop_in {elt t0 i0 t1 i1 : Expr} {scope : Scope} {pos : Pos} {it acc : Value} {env : Env} (I : Nat → Shared → Prop)
    (turn : ∀ n s, I n s → wpAny (model prog w) A (pyNext it) (fun r s₁ => match r with
      | none => R (.ok .next) s₁
      | some v => wpAny (model prog w) A (letOwnedTupleGo t1 it v) (fun _ s₁' => wpAny (model prog w) A (assign t1 env v) (fun _ s₂ =>
          wpAny (model prog w) A (eval elt env) (fun x s₄ =>
              wpAny (model prog w) A (call (.builtin "list.append") [acc, x]) (fun _ s₅ => ∃ m, m < n ∧ I m s₅) (notedBy (model prog w) A env fun e s' => R (.error e) s') s₄) (notedBy (model prog w) A env fun e s' => R (.error e) s') s₂)
          (notedBy (model prog w) A env fun e s' => R (.error e) s') s₁') (notedBy (model prog w) A env fun e s' => R (.error e) s') s₁) (notedBy (model prog w) A env fun e s' => R (.error e) s') s)
    (n : Nat) (h : I n s) : codeAny (model prog w) A (.compLoop (.ListComp elt [⟨t0, i0, [], 0⟩, ⟨t1, i1, [], 0⟩] scope pos) 1 it acc env) R s := by
  refine codeAny_loop rfl I (fun n s hI => ?_) n h
  show wpAny _ A ((compTurn (.ListComp elt [⟨t0, i0, [], 0⟩, ⟨t1, i1, [], 0⟩] scope pos) 1 it acc env).onRaise (fun x => do noteFrame x env; theTreesLotGoes x)) _ _ s
  refine wpAny_noted ?_
  rw [compTurn_in]
  refine wpAny_bind (wpAny_standAt (wpAny_bind (wpAny_mono (turn n s hI) (fun r s₁ h₁ => ?_) fun _ _ h' => h')))
  cases r with
  | none => exact wpAny_pure h₁
  | some v =>
    refine wpAny_bind (wpAny_mono h₁ (fun _ s₁' h₁' => ?_) fun _ _ h' => h')
    exact wpAny_bind (wpAny_mono h₁' (fun _ s₂ h₂ => wpAny_bind (wpAny_bind (wpAny_mono h₂ (fun x s₄ h₄ => wpAny_bind (wpAny_mono h₄ (fun _ s₅ h₅ => wpAny_pure (wpAny_pure ⟨rfl, h₅⟩)) fun _ _ h' => h')) fun _ _ h' => h'))) fun _ _ h' => h')

theorem start_in {elt t0 i0 t1 i1 : Expr} {scope : Scope} {pos : Pos} {it acc : Value} {env : Env}
    (h0 : codeAny (model prog w) A (.compLoop (.ListComp elt [⟨t0, i0, [], 0⟩, ⟨t1, i1, [], 0⟩] scope pos) 1 it acc env) R s)
    (h : wpAny (model prog w) A (pyIter it) (fun it' s' => codeAny (model prog w) A (.compLoop (.ListComp elt [⟨t0, i0, [], 0⟩, ⟨t1, i1, [], 0⟩] scope pos) 1 it' acc env) R s')
      (notedBy (model prog w) A env fun x s' => R (.error x) s') s) :
    codeAny (model prog w) A (.compStart (.ListComp elt [⟨t0, i0, [], 0⟩, ⟨t1, i1, [], 0⟩] scope pos) 1 it acc env) R s := by
  refine codeAny_of_tree ?_
  show wpAny _ _ ((compStart (.ListComp elt [⟨t0, i0, [], 0⟩, ⟨t1, i1, [], 0⟩] scope pos) 1 it acc env).onRaise (fun x => do noteFrame x env; standAt theWindowsPlace)) _ _ s
  refine wpAny_notedAt ?_
  unfold compStart
  show wpAny _ _ (ask >>= _) _ _ s
  refine wpAny_bind (wpAny_askSetting (wpAny_ite ?_))
  split
  · first
      | exact wpAny_bind (wpAny_pure (wpAny_pure (And.intro rfl h0)))
      | exact wpAny_pure (And.intro rfl h0)
  · first
      | exact wpAny_bind (wpAny_rule (wpAny_bind (wpAny_standAt (wpAny_bind (wpAny_mono h (fun it' s' h' => wpAny_pure (And.intro rfl h')) fun _ _ x => x)))))
      | (refine wpAny_bind (wpAny_rule ?_); show wpAny _ _ (standAt i1.pos >>= _) _ _ s; exact wpAny_bind (wpAny_standAt (wpAny_bind (wpAny_mono h (fun it' s' h' => wpAny_pure (And.intro rfl h')) fun _ _ x => x))))

theorem start_in' {elt t0 i0 t1 i1 : Expr} {scope : Scope} {pos : Pos} {it acc : Value} {env : Env} (self : ∀ (E' : Value → Shared → Prop) (Q' : Value → Shared → Prop), Q' it s → wpAny (model prog w) A (pyIter it) Q' E' s)
    (h0 : codeAny (model prog w) A (.compLoop (.ListComp elt [⟨t0, i0, [], 0⟩, ⟨t1, i1, [], 0⟩] scope pos) 1 it acc env) R s) :
    codeAny (model prog w) A (.compStart (.ListComp elt [⟨t0, i0, [], 0⟩, ⟨t1, i1, [], 0⟩] scope pos) 1 it acc env) R s := start_in h0 (self _ _ h0)
theorem loop_out {elt t0 i0 t1 i1 : Expr} {scope : Scope} {pos : Pos} {it acc : Value} {env : Env} (I : Nat → Shared → Prop)
    (turn : ∀ n s, I n s → wpAny (model prog w) A (pyNext it) (fun r s₁ => match r with
      | none => R (.ok .next) s₁
      | some v => wpAny (model prog w) A (letOwnedTupleGo t0 it v) (fun _ s₁' => wpAny (model prog w) A (assign t0 env v) (fun _ s₂ =>
          wpAny (model prog w) A (eval i1 env) (fun x s₄ => wpAny (model prog w) A (pyIter x) (fun it2 s₅ =>
              codeAny (model prog w) (A.mark none) (.compStart (.ListComp elt [⟨t0, i0, [], 0⟩, ⟨t1, i1, [], 0⟩] scope pos) 1 it2 acc env) (fun r s₆ => match r with | .ok _ => ∃ m, m < n ∧ I m s₆ | .error e => cameBackBy (model prog w) A env (notedBy (model prog w) A env fun e s' => R (.error e) s') e s₆) s₅)
              (notedBy (model prog w) A env fun e s' => R (.error e) s') s₄) (notedBy (model prog w) A env fun e s' => R (.error e) s') s₂)
          (notedBy (model prog w) A env fun e s' => R (.error e) s') s₁') (notedBy (model prog w) A env fun e s' => R (.error e) s') s₁) (notedBy (model prog w) A env fun e s' => R (.error e) s') s)
    (n : Nat) (h : I n s) (hs : ∀ x, foldedSetIterable i1 env x = pure x := by intro _; rfl) : codeAny (model prog w) A (.compLoop (.ListComp elt [⟨t0, i0, [], 0⟩, ⟨t1, i1, [], 0⟩] scope pos) 0 it acc env) R s := by
  refine codeAny_loop rfl I (fun n s hI => ?_) n h
  show wpAny _ A ((compTurn (.ListComp elt [⟨t0, i0, [], 0⟩, ⟨t1, i1, [], 0⟩] scope pos) 0 it acc env).onRaise (fun x => do noteFrame x env; theTreesLotGoes x)) _ _ s
  refine wpAny_noted ?_
  rw [compTurn_out]
  refine wpAny_bind (wpAny_standAt (wpAny_bind (wpAny_mono (turn n s hI) (fun r s₁ h₁ => ?_) fun _ _ h' => h')))
  cases r with
  | none => exact wpAny_pure h₁
  | some v =>
    refine wpAny_bind (wpAny_mono h₁ (fun _ s₁' h₁' => ?_) fun _ _ h' => h')
    refine wpAny_bind (wpAny_mono h₁' (fun _ s₂ h₂ => wpAny_bind (wpAny_mono h₂ (fun x s₄ h₄ => wpAny_bind (wpAny_standAt (wpAny_bind (wpAny_of_eq (hs x) (wpAny_bind (wpAny_holding (wpAny_mono h₄ (fun it2 s₅ h₅ => ?_) fun _ _ h' => h'))))))) fun _ _ h' => h')) fun _ _ h' => h')
    refine wpAny_bind (wpAny_runOwn (codeAny_mono h₅ fun r s₆ h₆ => ?_))
    cases r with
    | ok f => exact wpAny_pure ⟨rfl, h₆⟩
    | error e => exact h₆
end

section
variable {prog : Program} {w : World} {A : Around} {E : Value → Shared → Prop} {h : Heap} {g : Array GenState} {dr : Drawn} {tk : Nat} {os : OsState} {env : Env}

/-- a comprehension is begun: its frame, its list -/
theorem x_compG {elt target iter : Expr} {ifs : List Expr} {rest : List Comprehension} {scope : Scope} {cl : List (Str × Addr)} {pos : Pos} {Q : Value → Shared → Prop}
    (hclos : closureFor scope env = pure cl)
    (k : wpAny (model prog w) A (eval iter env) (fun xv s₁ => wpAny (model prog w) A (pyIter xv) (fun it s₂ => ∃ (h : Heap) (t : Nat) (B : Heap) (l : List Ent), s₂ = ⟨h, g, dr, t, os⟩ ∧ Own B h l ∧
      ∀ C D h' t', Sub h h' → Own B h' ((C, NsP fun _ => none) :: (D, ListP []) :: l) →
        (∀ (E' : Value → Shared → Prop) (Q' : Value → Shared → Prop), Q' it ⟨h', g, dr, t', os⟩ → wpAny (model prog w) A (pyIter it) Q' E' ⟨h', g, dr, t', os⟩) ∧
        codeAny (model prog w) A (.compLoop (.ListComp elt (⟨target, iter, ifs, 0⟩ :: rest) scope pos) 0 it (.ref D) (compEnvC scope cl C env)) (fun r s' => r = .ok .next ∧ ∃ h'' t'' m ys B' l', s' = ⟨h'', g, dr, t'', os⟩ ∧ Own B' h'' ((C, NsP m) :: (D, ListP ys) :: l') ∧
          ∀ h3, Own B' h3 ((D, ListP ys) :: l') → Q (.ref D) ⟨h3, g, dr, t'', os⟩) ⟨h', g, dr, t', os⟩) E s₁) E ⟨h, g, dr, tk, os⟩)
    (hcell : ∀ y ∈ scope.names, y.2 ≠ .cell := by decide) (hkind : scope.kind = .function := by rfl)
    (hnames : ∀ y ∈ scope.names, y.2 = .local → scope.names.lookup y.1 = some .local := by decide)
    (hs : ∀ x, foldedSetIterable iter env x = pure x := by intro _; rfl) :
    wpAny (model prog w) A (eval (.ListComp elt (⟨target, iter, ifs, 0⟩ :: rest) scope pos) env) Q E ⟨h, g, dr, tk, os⟩ := by
  rw [eval_ListComp]
  refine wpAny_comprehension_free (use := none) rfl hs hclos hkind hnames (wpAny_mono k (fun xv s₁ h₁ => wpAny_mono h₁ (fun it s₂ h₂ => ?_) fun _ _ e => e) fun _ _ e => e)
  obtain ⟨h, t, B, l, rfl, O, h₃⟩ := h₂
  refine wpAny_newObj_type (wpAny_newFunctionEnv hcell (by intro y hy; simp at hy) (fun h₁ hns₁ hsb₁ => ?_) hkind)
  dsimp only at hns₁ hsb₁ ⊢
  have O1 := O.push (P := ListP []) { cls := .type "list", dict := none, data := .seq ([] : List Value).toArray } ⟨_, rfl⟩
  have hsub : Sub (h.push { cls := .type "list", dict := none, data := .seq ([] : List Value).toArray }) h₁ := fun b o e => hsb₁.extBut b o (Nat.ne_of_lt (Heap.lt_size e)) (Heap.get?_push_of_some _ e)
  have O2 := O1.fresh hsub (get?_size _) (nsP_of hns₁)
  obtain ⟨hself, hloop⟩ := h₃ _ _ h₁ _ ((sub_push _ _).trans hsub) O2
  have key : codeAny (model prog w) A (.compLoop (.ListComp elt (⟨target, iter, ifs, 0⟩ :: rest) scope pos) 0 it (.ref h.objs.size) (compEnvC scope cl (h.push { cls := .type "list", dict := none, data := .seq ([] : List Value).toArray }).objs.size env))
      (compPost (model prog w) A E none Q (.ref h.objs.size) (h.push { cls := .type "list", dict := none, data := .seq ([] : List Value).toArray }).objs.size) ⟨h₁, g, dr, t + ([] : List (Str × Value)).length, os⟩ := by
    refine codeAny_mono hloop fun r s' z => ?_
    obtain ⟨rfl, h'', t'', m, ys, B', l', rfl, O3, hQ⟩ := z
    exact ⟨m, O3.ns (.head _), fun h3 hs3 => hQ h3 (O3.drop2 fun b o hb e => hs3.extBut b o hb e)⟩
  exact codeAny_compStart_list key (hself _ _ key)
end
end Mine
end

/- part MineBB -/
section
open PySem PySem.W PyProof.Rows PySem.Calls
set_option Elab.async false
set_option maxRecDepth 100000
set_option maxHeartbeats 4000000
namespace Mine

/-! ## sets of texts -/
theorem Own.drop3 {B h h' : Heap} {a : Addr} {P : Obj → Prop} {l : List Ent} (O : Own B h ((a, P) :: l)) (hk : ∀ b o, b ≠ a → h.get? b = some o → h'.get? b = some o) : Own B h' l := by
  have hB := (O.own _ (.head _)).2
  have nd := List.nodup_cons.mp O.nodup
  refine ⟨fun b o e => hk b o (fun z => by rw [z] at e; rw [show B.get? a = none from hB] at e; cases e) (O.keep b o e), fun q hq => ?_, nd.2⟩
  obtain ⟨⟨o, ho, hP⟩, hn⟩ := O.own q (.tail _ hq)
  exact ⟨⟨o, hk _ _ (fun z => nd.1 (z ▸ List.mem_map_of_mem (f := (·.1)) hq)) ho, hP⟩, hn⟩
theorem layNew_led (t : SetTable) (es : Array (Int × Value)) (h : Int) (x : Value) : (layNew t es h x).2.1.led = t.led := by
  unfold layNew
  split
  · rename_i slot wd he
    show (SetTable.orStandIn (t.put slot).1 _).led = t.led
    unfold SetTable.orStandIn
    split <;> rfl
  · rfl
theorem relayAll_led (t : SetTable) (es : Array (Int × Value)) (n : Nat) : (relayAll t es n).2.1.led = t.led ∧ ((relayAll t es n).2.1.plain = true → t.plain = true) := by
  unfold relayAll
  split
  · rename_i t' order e
    dsimp only
    split
    · unfold SetTable.relaid SetTable.laid at e
      simp only [Option.bind_eq_bind, Option.pure_def, Option.bind_eq_some_iff] at e
      obtain ⟨a, _, e⟩ := e
      cases e
      exact ⟨rfl, id⟩
    · exact ⟨rfl, fun e => nomatch e⟩
  · exact ⟨rfl, fun e => nomatch e⟩

abbrev byTextOf (w : World) : Bool := w.params.followText "set-order"
/-- a set of the texts of M -/
def SetP (prog : Program) (w : World) (M : List Str) : Obj → Prop := fun o => ∃ es ep t, o = { cls := .type "set", dict := none, data := .set es ep t, slots := #[] } ∧ ElemsOf (strKind prog w) es.toList ∧
  (∀ y, y ∈ M ↔ ∃ e ∈ es.toList, (strKind prog w).is y e.2 = true) ∧ es.size ≤ M.length ∧ t.fits es.size = true ∧ t.led = (!byTextOf w) ∧ (t.plain = true → es.size = 0)

section
variable {prog : Program} {w : World} {A : Around} {E : Value → Shared → Prop} {h : Heap} {g : Array GenState} {dr : Drawn} {tk : Nat} {os : OsState} {B : Heap} {l l' : List Ent} {D a it : Addr}

theorem x_setAdd {M : List Str} {y : Str} {u : Tok} {Q : Bool → Shared → Prop} (O : Own B h l) (hm : (D, SetP prog w M) ∈ l) (hp : Put D (SetP prog w (M ++ [y])) l l') (hz : M.length + 1 < scanBound)
    (k : ∀ b h' t', Own B h' l' → Q b ⟨h', g, dr, t', os⟩) : wpAny (model prog w) A (setAdd D (.str y u)) Q E ⟨h, g, dr, tk, os⟩ := by
  obtain ⟨o, ho, es, ep, t, rfl, hel, hmem, hle, hf, hled, hpl⟩ := O.get hm
  have hkey : (strKind prog w).is y (.str y u) = true := strKind_is _ _ _ _
  have hsc : (Value.str y u).scannable = true := rfl
  have hb : es.size < scanBound := by (first | assumption | decide | exact Nat.le_trans (by assumption) (by decide) | exact Nat.sub_succ_lt_self _ _ (by assumption) | exact Nat.succ_le_of_lt (by assumption) | exact Nat.le_of_lt (by assumption) | lia | omega)
  unfold setAdd
  refine wpAny_holding (wpAny_bind ((strKind prog w).pyHash hkey ?_))
  unfold setAddHashed setAddHashedIn
  refine wpAny_holding (wpAny_bind (wpAny_setState_of (s := ⟨h, g, dr, tk + 1, os⟩) ho rfl hf ?_))
  dsimp only
  rw [byScan_of hsc hb hel]
  simp only [↓reduceIte]
  unfold setAddByScan
  refine wpAny_bind ?_
  refine wpAny_bind (wpAny_rule ?_)
  refine wpAny_bind (wpAny_setScan_of hkey ho rfl hf hel ?_)
  cases hr : List.findIdx? (fun e => (strKind prog w).is y e.2) es.toList with
  | some j =>
    dsimp only
    obtain ⟨hj, hpj, _⟩ := List.findIdx?_eq_some_iff_getElem.mp hr
    refine wpAny_pure (wpAny_pure (k _ _ _ (O.put hp (fun b o _ e => e) ⟨_, ho, es, ep, t, rfl, hel, fun z => ?_, ?_, hf, hled, hpl⟩)))
    · rw [List.mem_append, List.mem_singleton, hmem z]
      exact ⟨fun q => q.elim id fun e => ⟨es.toList[j], List.getElem_mem hj, by rw [e]; exact hpj⟩, .inl⟩
    · simp; (first | assumption | decide | exact Nat.le_trans (by assumption) (by decide) | exact Nat.sub_succ_lt_self _ _ (by assumption) | exact Nat.succ_le_of_lt (by assumption) | exact Nat.le_of_lt (by assumption) | lia | omega)
  | none =>
    dsimp only
    have hgw : ∀ (b : Bool) {s₁ : Shared} {Q' : Unit → Shared → Prop}, Q' () s₁ → wpAny (model prog w) A (match b with | true => rule "set.scan.the-table-gave-way" | false => pure ()) Q' E s₁ :=
      fun b s₁ Q' hq => by cases b <;> first | exact wpAny_pure hq | exact wpAny_rule hq
    have hperm := layNew_perm t es ((strKind prog w).hash y) (.str y u)
    have hfits := layNew_fits t es ((strKind prog w).hash y) (.str y u)
    have hl1 := layNew_led t es ((strKind prog w).hash y) (.str y u)
    generalize hL : layNew t es ((strKind prog w).hash y) (.str y u) = L at hperm hfits hl1 ⊢
    obtain ⟨es1, t1, wasDummy, gave⟩ := L
    dsimp only at hperm hfits hl1 ⊢
    rw [Array.toList_push] at hperm
    have hel1 : ElemsOf (strKind prog w) es1.toList := (hel.push hkey hsc).perm hperm
    have hsz1 : es1.size = es.size + 1 := by rw [← Array.length_toList, hperm.length_eq, List.length_append, Array.length_toList]; rfl
    have hmem1 : ∀ z, z ∈ M ++ [y] ↔ ∃ e ∈ es1.toList, (strKind prog w).is z e.2 = true := fun z => by
      rw [List.mem_append, List.mem_singleton, hmem z]
      constructor
      · rintro (⟨e, he, q⟩ | rfl)
        · exact ⟨e, hperm.mem_iff.mpr (List.mem_append_left _ he), q⟩
        · exact ⟨_, hperm.mem_iff.mpr (List.mem_append_right _ (List.mem_singleton.mpr rfl)), hkey⟩
      · rintro ⟨e, he, q⟩
        rcases List.mem_append.mp (hperm.mem_iff.mp he) with he | he
        · exact .inl ⟨e, he, q⟩
        · rw [List.mem_singleton] at he; subst he
          exact .inr ((strKind prog w).inj _ z y q hkey)
    refine wpAny_bind (hgw _ ?_)
    -- the rest: the table is stored, perhaps anew
    have rest : ∀ (t2 : SetTable), t2.fits es1.size = true → t2.led = (!byTextOf w) → t2.plain = false →
        ∀ (gw : Bool → Sem Unit), (∀ (b : Bool) (s₁ : Shared) (Q' : Unit → Shared → Prop), Q' () s₁ → wpAny (model prog w) A (gw b) Q' E s₁) →
        wpAny (model prog w) A (do
          storeSet D es1 t2
          if (!wasDummy && t2.tooFull) = true then do
              gw (relayAll t2 es1 (SetTable.grown es1.size)).2.2
              storeSet D (relayAll t2 es1 (SetTable.grown es1.size)).1 (relayAll t2 es1 (SetTable.grown es1.size)).2.1
              pure (some true)
            else pure (some true)) (fun r s' => match r with | some b => Q b s' | none => False) E ⟨h, g, dr, tk + 1, os⟩ := by
      intro t2 hf2 hled2 hpl2 gw hgw2
      refine wpAny_bind (wpAny_storeSet_of (s := ⟨h, g, dr, tk + 1, os⟩) ho rfl ?_ (fits_of_scanBound (by (first | assumption | decide | exact Nat.le_trans (by assumption) (by decide) | exact Nat.sub_succ_lt_self _ _ (by assumption) | exact Nat.succ_le_of_lt (by assumption) | exact Nat.le_of_lt (by assumption) | lia | omega))))
      have ho1 : (h.update D (Obj.putSet es1 t2)).get? D = some { cls := .type "set", dict := none, data := .set es1 (ep + 1) t2, slots := #[] } := by
        have := Heap.get?_update_self (Obj.putSet es1 t2) ho (by rw [putSet_of es1 t2 rfl]; rfl)
        rw [putSet_of es1 t2 rfl] at this; exact this
      split
      · have hp2 := relayAll_perm t2 es1 (SetTable.grown es1.size)
        have hfr := relayAll_fits t2 es1 (SetTable.grown es1.size)
        have hl2 := relayAll_led t2 es1 (SetTable.grown es1.size)
        generalize hRl : relayAll t2 es1 (SetTable.grown es1.size) = Rl at hp2 hfr hl2 ⊢
        obtain ⟨es2, t3, gave2⟩ := Rl
        dsimp only at hp2 hfr hl2 ⊢
        have hsz2 : es2.size = es1.size := by rw [← Array.length_toList, hp2.length_eq, Array.length_toList]
        refine wpAny_bind (hgw2 _ _ _ ?_)
        refine wpAny_bind (wpAny_storeSet_of (s := ⟨h.update D (Obj.putSet es1 t2), g, dr, tk + 1, os⟩) ho1 rfl ?_ (fits_of_scanBound (by (first | assumption | decide | exact Nat.le_trans (by assumption) (by decide) | exact Nat.sub_succ_lt_self _ _ (by assumption) | exact Nat.succ_le_of_lt (by assumption) | exact Nat.le_of_lt (by assumption) | lia | omega))))
        have ho2 : ((h.update D (Obj.putSet es1 t2)).update D (Obj.putSet es2 t3)).get? D = some { cls := .type "set", dict := none, data := .set es2 (ep + 1 + 1) t3, slots := #[] } := by
          have := Heap.get?_update_self (Obj.putSet es2 t3) ho1 (by rw [putSet_of es2 t3 rfl]; rfl)
          rw [putSet_of es2 t3 rfl] at this; exact this
        refine wpAny_pure (k _ _ _ (O.putSame hp ((Heap.SameBut.update ..).trans (Heap.SameBut.update ..)) ⟨_, ho2, es2, _, t3, rfl, hel1.perm hp2, fun z => (hmem1 z).trans ⟨fun ⟨e, he, q⟩ => ⟨e, hp2.mem_iff.mpr he, q⟩, fun ⟨e, he, q⟩ => ⟨e, hp2.mem_iff.mp he, q⟩⟩, ?_, hfr, hl2.1.trans hled2, fun e => ?_⟩))
        · simp; (first | assumption | decide | exact Nat.le_trans (by assumption) (by decide) | exact Nat.sub_succ_lt_self _ _ (by assumption) | exact Nat.succ_le_of_lt (by assumption) | exact Nat.le_of_lt (by assumption) | lia | omega)
        · have := hl2.2 e; rw [hpl2] at this; cases this
      · refine wpAny_pure (k _ _ _ (O.putSame hp (Heap.SameBut.update ..) ⟨_, ho1, es1, _, t2, rfl, hel1, hmem1, ?_, hf2, hled2, fun e => ?_⟩))
        · simp; (first | assumption | decide | exact Nat.le_trans (by assumption) (by decide) | exact Nat.sub_succ_lt_self _ _ (by assumption) | exact Nat.succ_le_of_lt (by assumption) | exact Nat.le_of_lt (by assumption) | lia | omega)
        · rw [hpl2] at e; cases e
    have fin : ∀ {T : Sem (Option Bool)}, wpAny (model prog w) A T (fun r s' => match r with | some b => Q b s' | none => False) E ⟨h, g, dr, tk + 1, os⟩ →
        wpAny (model prog w) A T (fun r s' => wpAny (model prog w) A (match r with | some added => pure added | none => setAddHashedIn D (.str y u) ((strKind prog w).hash y) 99999) Q E s') E ⟨h, g, dr, tk + 1, os⟩ :=
      fun hT => wpAny_mono hT (fun r s' z => by cases r with | some b => exact wpAny_pure z | none => exact z.elim) fun _ _ z => z
    split
    · refine wpAny_bind ?_
      rw [hashByValue_scannable 8 hsc]
      refine wpAny_pure ?_
      refine fin (rest _ (SetTable.fits_plain_off hfits) (hl1.trans hled) rfl _ ?_)
      intro b s₁ Q' hq; cases b <;> first | exact wpAny_pure hq | exact wpAny_rule hq
    · rename_i hnp
      refine wpAny_bind (wpAny_pure ?_)
      simp only [↓reduceIte]
      refine fin (rest _ hfits (hl1.trans hled) (by cases q : t1.plain; rfl; exact absurd q hnp) _ ?_)
      intro b s₁ Q' hq; cases b <;> first | exact wpAny_pure hq | exact wpAny_rule hq
theorem set_loop {vs : List Value} {ss : List Str} {R : Result → Shared → Prop} (hh : A.handled = none) (hl : B.IsList a vs.toArray) (hs : StrsAre vs ss) (hz : ss.length < 4000) :
    ∀ (n i : Nat) (h : Heap) (tk : Nat), ss.length - i = n → i ≤ ss.length → Own B h ((it, ItP a i) :: (D, SetP prog w (ss.take i)) :: l) →
    (∀ h' t', Own B h' ((D, SetP prog w ss) :: l) → R (.ok (.ret .none)) ⟨h', g, dr, t', os⟩) →
    codeAny (model prog w) A (.builtin "set.update.loop" ⟨[.ref D, .ref it], []⟩) R ⟨h, g, dr, tk, os⟩ := by
  intro n
  induction n with
  | zero =>
    intro i h tk hn hi O k
    have hin : i = ss.length := by (first | assumption | decide | exact Nat.le_trans (by assumption) (by decide) | exact Nat.sub_succ_lt_self _ _ (by assumption) | exact Nat.succ_le_of_lt (by assumption) | exact Nat.le_of_lt (by assumption) | lia | omega)
    subst hin
    have hne : a ≠ it := fun e => by
      obtain ⟨o, ho, _⟩ := hl
      have := (O.own _ (.head _)).2
      rw [← e] at this
      rw [ho] at this; cases this
    refine codeAny_builtin F.entry_set_update_loop ?_
    rw [Around.under_plainId F.plain_set_update_loop _]
    show wpAny _ A.in1 (pyNext (.ref it) >>= _) _ _ _
    refine wpAny_bind (x_nextL (by show A.handled = none; exact hh) O (.head _) Put.head (isList_keeps hl O.keep) hne (fun v h' t' hv _ _ => ?_) (fun _ h' t' hk => ?_) (by rw [hs.length]; exact Nat.le_refl _))
    · have := (List.getElem?_eq_some_iff.mp hv).1
      rw [hs.length] at this; (first | assumption | decide | exact Nat.le_trans (by assumption) (by decide) | exact Nat.sub_succ_lt_self _ _ (by assumption) | exact Nat.succ_le_of_lt (by assumption) | exact Nat.le_of_lt (by assumption) | lia | omega)
    · show wpAny _ A.in1 (ret Value.none) _ _ _
      have O := O.drop3 hk
      rw [List.take_length] at O
      exact wpAny_pure (k _ _ O)
  | succ n ih =>
    intro i h tk hn hi O k
    have hlt : i < ss.length := by (first | assumption | decide | exact Nat.le_trans (by assumption) (by decide) | exact Nat.sub_succ_lt_self _ _ (by assumption) | exact Nat.succ_le_of_lt (by assumption) | exact Nat.le_of_lt (by assumption) | lia | omega)
    have hne : a ≠ it := fun e => by
      obtain ⟨o, ho, _⟩ := hl
      have := (O.own _ (.head _)).2
      rw [← e] at this
      rw [ho] at this; cases this
    refine codeAny_builtin F.entry_set_update_loop ?_
    rw [Around.under_plainId F.plain_set_update_loop _]
    show wpAny _ A.in1 (pyNext (.ref it) >>= _) _ _ _
    refine wpAny_bind (x_nextL (by show A.handled = none; exact hh) O (.head _) Put.head (isList_keeps hl O.keep) hne (fun v h' t' hv O _ => ?_) (fun e _ _ _ => ?_) (by rw [hs.length]; exact hi))
    · obtain ⟨y, hy, u, rfl⟩ := (each_strs hs).got hv
      show wpAny _ A.in1 (holding [Value.str y u] (setAdd D (.str y u)) >>= _) _ _ _
      refine wpAny_bind (wpAny_holding ?_)
      refine x_setAdd O (.tail _ (.head _)) (.tail .head) (by unfold scanBound; simp; (first | assumption | decide | exact Nat.le_trans (by assumption) (by decide) | exact Nat.sub_succ_lt_self _ _ (by assumption) | exact Nat.succ_le_of_lt (by assumption) | exact Nat.le_of_lt (by assumption) | lia | omega)) ?_
      intro b h2 t2 O
      refine wpAny_pure ⟨plainId_quiet F.plain_set_update_loop _, ih (i + 1) h2 t2 (by (first | assumption | decide | exact Nat.le_trans (by assumption) (by decide) | exact Nat.sub_succ_lt_self _ _ (by assumption) | exact Nat.succ_le_of_lt (by assumption) | exact Nat.le_of_lt (by assumption) | lia | omega)) hlt ?_ k⟩
      rw [List.take_add_one, hy]; exact O
    · rw [hs.length] at e; (first | assumption | decide | exact Nat.le_trans (by assumption) (by decide) | exact Nat.sub_succ_lt_self _ _ (by assumption) | exact Nat.succ_le_of_lt (by assumption) | exact Nat.le_of_lt (by assumption) | lia | omega)

abbrev emptySet (w : World) : Obj := { cls := .type "set", dict := none, data := .set #[] 0 (.fresh 0 0 (!byTextOf w)), slots := #[] }
theorem set_new (x : Value) {Q : Value → Shared → Prop} (k : Q (.ref h.objs.size) ⟨h.push (emptySet w), g, dr, tk, os⟩) :
    codeAny (model prog w) A (.call (.builtin "set.__new__") ⟨[.type "set", x], []⟩) (wants Q E) ⟨h, g, dr, tk, os⟩ := by
  refine codeAny_of_tree ?_
  show wpAny _ A.in1 (do checkBuiltinCall "set.__new__" ⟨[.type "set", x], []⟩; again (.builtin "set.__new__" ⟨[.type "set", x], []⟩)) _ _ _
  refine wpAny_bind (wpAny_of_eq (F.newCall_set_1 x) (wpAny_pure ⟨plainId_quiet F.plain_set_new _, codeAny_builtin F.entry_set_new ?_⟩))
  rw [Around.under_plainId F.plain_set_new _]
  unfold Builtin.«set.__new__» Builtin.Frozenset.newClass
  have hsub := sub_set_self
  wp_walk
  refine wpAny_askSetting (wpAny_pure ?_)
  simp only [newObj]
  refine wpAny_bind (wpAny_alloc (wpAny_pure ?_))
  exact wpAny_pure k

/-- set(a list of texts) -/
theorem x_setOf {vs : List Value} {ss : List Str} {Q : Value → Shared → Prop} (hh : A.handled = none) (O : Own B h l) (hl : B.IsList a vs.toArray) (hs : StrsAre vs ss) (hz : ss.length < 4000)
    (k : ∀ D h' t', Own B h' ((D, SetP prog w ss) :: l) → Q (.ref D) ⟨h', g, dr, t', os⟩) : wpAny (model prog w) A (call (.type "set") [.ref a]) Q E ⟨h, g, dr, tk, os⟩ := by
  obtain ⟨c, tl, hmro⟩ := F.called_set.mro
  have hmade := F.called_set.made
  have hsub := F.called_set.sub
  refine wpAny_call (codeAny_of_tree ?_)
  show wpAny _ _ (callAny (.type "set") _) _ _ _
  refine wpAny_pure ⟨Code.quiet_builtin _ (by decide +kernel), codeAny_builtin F.entry_type_call ?_⟩
  rw [Around.under_plain (weight_type_call_type "set" [.ref a] []) rfl]
  have h1 := F.called_set.notType
  have h2 := F.called_set.canCreate
  have hct := F.typeCall_set_1 (.ref a)
  repeat (any_goals (first | assumption | wp_step))
  refine codeAny_mono (set_new (dr := dr) (g := g) (os := os) (h := h) (tk := tk) (.ref a) (E := E) (Q := fun obj s₁ => obj = .ref h.objs.size ∧ s₁ = ⟨h.push (emptySet w), g, dr, tk, os⟩) ⟨rfl, rfl⟩) fun r s₁ hr => ?_
  cases r with
  | error e => exact hr
  | ok fl =>
    cases fl with
    | ret obj =>
      obtain ⟨rfl, rfl⟩ := hr
      have O1 := O.push (P := SetP prog w []) (emptySet w) ⟨_, _, _, rfl, (fun e he => by simp at he), (fun y => by simp), by simp, by rfl, rfl, fun _ => rfl⟩
      have hT : Shared.TypeIs ⟨h.push (emptySet w), g, dr, tk, os⟩ (.ref h.objs.size) "set" := ⟨_, Heap.get?_push_size _ rfl, rfl⟩
      have hli := F.called_set.init.lookup
      have hbi := F.called_set.init.bind (.ref h.objs.size)
      repeat (any_goals (first | assumption | wp_step))
      refine codeAny_mono (codeAny_call_builtin (R := wants (fun r s₂ => r = .none ∧ ∃ h' tk, s₂ = ⟨h', g, dr, tk, os⟩ ∧ Own B h' ((h.objs.size, SetP prog w ss) :: l)) E) F.called_set.init.plain F.entry_set_init (check_set_init_1 hT ?_)) fun r₂ s₂ hr₂ => ?_
      · obtain ⟨ol, hol, hcl, nl, hdl⟩ := isList_keeps hl O1.keep
        obtain ⟨ocls, odict, odata, oslots⟩ := ol
        simp only at hcl hdl
        subst hcl; subst hdl
        have hS : (h.push (emptySet w)).get? h.objs.size = some (emptySet w) := Heap.get?_push_size _ rfl
        have hsls := F.sub_list_set
        have hslf := F.sub_list_frozenset
        have hne : (Value.type "list" == Value.type "dict") = false := by decide
        unfold Builtin.«set.__init__» noKeywords Builtin.Frozenset.updateFrom
        generalize hPI : pyIter = PI
        wp_walk
        subst hPI
        have hh3 : A.in1.in1.handled = none := hh
        refine x_iterL O1 (isList_keeps hl O1.keep) ?_
        intro it h2 t2 O2 _
        refine wpAny_bind (wpAny_runValue ?_)
        refine set_loop hh3 hl hs hz (ss.length - 0) 0 h2 t2 rfl (Nat.zero_le _) (by rw [List.take_zero]; exact O2) fun h3 t3 O3 => ?_
        refine wpAny_pure ?_
        show wpAny _ _ (ret Value.none) _ _ _
        exact wpAny_pure ⟨rfl, h3, t3, rfl, O3⟩
      · cases r₂ with
        | error e => exact hr₂
        | ok fl₂ =>
          cases fl₂ with
          | ret r =>
            obtain ⟨rfl, h', t', rfl, O'⟩ := hr₂
            repeat (any_goals (first | assumption | wp_step))
            exact k _ h' t' O'
          | _ => exact hr₂.elim
    | _ => exact hr.elim
end
end Mine
end

/- part MineBC -/
section
open PySem PySem.W PyProof.Rows PySem.Calls
set_option Elab.async false
set_option maxRecDepth 100000
set_option maxHeartbeats 4000000
namespace Mine

/-! ## a set's items, in whatever order -/
theorem slot_si_next : Slot "set_iterator" "__next__" "set_iterator.__next__" :=
  .of (owner := "set_iterator") (n := "__next__") (by rw [typeLookup_type, builtinLookup_eq_fast]; kernel_rfl) (by decide +kernel) (by decide +kernel) (by decide +kernel)
    (by first | exact .inl (by decide +kernel) | exact .inr (by decide +kernel)) (by rw [isSubtype_type]; kernel_rfl)
theorem entry_si_next : entryFor table "set_iterator.__next__" = some Builtin.«set_iterator.__next__» := entryFor_of_tree (by kernel_rfl)
theorem args_si_next (a : Value) : argsOk "set_iterator.__next__" ⟨[a], []⟩ := by unfold argsOk; kernel_rfl
theorem entry_set_iter : entryFor table "set.__iter__" = some Builtin.«frozenset.__iter__» :=
  entryFor_alias (id' := "frozenset.__iter__") (by kernel_rfl) rfl (by decide +kernel) (by kernel_rfl)

abbrev siObj (first : Value) (i : Nat) (D : Addr) (n ep : Nat) : Obj := { cls := .type "set_iterator", data := .fields #[first, rawInt (i : Int), .ref D, rawInt (n : Int), rawInt (ep : Int)] }

section
variable {prog : Program} {w : World} {A : Around} {E : Value → Shared → Prop} {h : Heap} {g : Array GenState} {dr : Drawn} {tk : Nat} {os : OsState} {B : Heap} {l l' : List Ent} {D it : Addr}
  {es : Array (Int × Value)} {ep : Nat} {t : SetTable} {i n slot : Nat}

theorem nextS_int {Q : Option Value → Shared → Prop} {r : Option (Value × Nat)} (hh : A.handled = none) (hi : h.get? it = some (siObj (rawInt (slot : Int)) i D n ep))
    (ho : h.get? D = some { cls := .type "set", dict := none, data := .set es ep t, slots := #[] }) (hf : t.fits es.size = true) (hn : es.size = n)
    (hN : ∀ (A : Around) (E : Value → Shared → Prop) (Q : Option (Value × Nat) → Shared → Prop), Q r ⟨h, g, dr, tk, os⟩ → wpAny (model prog w) A (setNext D slot i ep) Q E ⟨h, g, dr, tk, os⟩)
    (k1 : ∀ v nx, r = some (v, nx) → ∀ h', Heap.SameBut it h h' → h'.get? it = some (siObj (rawInt (nx : Int)) (i + 1) D n ep) → Q (some v) ⟨h', g, dr, tk, os⟩)
    (k2 : r = none → ∀ h', Heap.ExtBut it h h' → Q none ⟨h', g, dr, tk, os⟩) : wpAny (model prog w) A (pyNext (.ref it)) Q E ⟨h, g, dr, tk, os⟩ := by
  have T : (⟨h, g, dr, tk, os⟩ : Shared).TypeIs (.ref it) "set_iterator" := ⟨_, hi, rfl⟩
  unfold pyNext
  refine wpAny_bind (wpAny_attempt (wpAny_callSpecial?_slot (name := Str.ofString "__next__") T slot_si_next (wpAny_call_entry slot_si_next T entry_si_next ?_ (args_si_next _))))
  unfold Builtin.«set_iterator.__next__»
  refine wpAny_bind (wpAny_of_eq (a := (Value.ref it, [])) (by first | rfl | kernel_rfl) ?_)
  unfold fieldsOf
  refine wpAny_bind (wpAny_bind (wpAny_load hi (wpAny_pure ?_)))
  show wpAny _ _ (setEntries D >>= _) _ _ _
  unfold setEntries
  refine wpAny_bind (wpAny_bind (wpAny_setState_of (s := ⟨h, g, dr, tk, os⟩) ho rfl hf (wpAny_pure ?_)))
  rw [hn]
  show wpAny _ _ (if ((n : Int) != (n : Int)) = true then _ else _) _ _ _
  rw [if_neg (by simp)]
  show wpAny _ _ (setNext D slot i ep >>= _) _ _ _
  refine wpAny_bind (hN _ _ _ ?_)
  cases r with
  | some p =>
    obtain ⟨v, nx⟩ := p
    show wpAny _ _ (setField (.ref it) 0 (rawInt (nx : Int)) >>= _) _ _ _
    refine wpAny_bind (wpAny_setField hi rfl (by simp) ?_)
    have hi2 := Heap.get?_update_self (Obj.mapFields (·.setIfInBounds 0 (rawInt (nx : Int)))) hi rfl
    refine wpAny_bind (wpAny_setField hi2 rfl (by simp [siObj, Obj.mapFields]) ?_)
    have hi3 := Heap.get?_update_self (Obj.mapFields (·.setIfInBounds 1 (rawInt ((i : Int) + 1)))) hi2 rfl
    refine wpAny_pure ⟨_, rfl, wpAny_pure (k1 v nx rfl _ ((Heap.SameBut.update ..).trans (Heap.SameBut.update ..)) ?_)⟩
    rw [hi3]; rfl
  | none =>
    show wpAny _ _ (setField (.ref it) 2 .none >>= _) _ _ _
    refine wpAny_bind (wpAny_setField hi rfl (by simp) ?_)
    show wpAny _ _ (newExc (.type "StopIteration") [] >>= _) _ _ _
    refine wpAny_bind ?_
    simp only [newExc, newTuple]
    refine wpAny_bind (wpAny_newObj_type ?_ (by size_fits))
    refine wpAny_bind (m := firstArgMember _ _) (wpAny_of_eq (a := Value.none) (by first | rfl | (simp only [firstArgMember]; rfl)) ?_)
    refine wpAny_newObj_type ?_ (by size_fits)
    simp only [raiseNew]
    refine wpAny_bind (wpAny_handled ?_)
    rw [show A.in1.handled = none from hh]
    refine wpAny_bind (wpAny_pure (wpAny_throw ?_))
    refine wpAny_bind (wpAny_isInstance (T := "StopIteration") (b := true) ⟨_, Heap.get?_push_size _ rfl, rfl⟩ isSubtype_stop ?_)
    exact wpAny_pure (k2 rfl _ (((Heap.SameBut.update ..).extBut.push _).push _))
theorem nextS_ref {Q : Option Value → Shared → Prop} {P : Addr} {ps : List Nat} (hh : A.handled = none) (hi : h.get? it = some (siObj (.ref P) i D n ep))
    (ho : h.get? D = some { cls := .type "set", dict := none, data := .set es ep t, slots := #[] }) (hf : t.fits es.size = true) (hn : es.size = n)
    (hP : IsTup h P (ps.map fun j : Nat => rawInt (j : Int)).toArray)
    (k1 : ∀ j hs v, ps[i]? = some j → es[j]? = some (hs, v) → ∀ h', Heap.SameBut it h h' → h'.get? it = some (siObj (.ref P) (i + 1) D n ep) → Q (some v) ⟨h', g, dr, tk, os⟩)
    (hall : ∀ j ∈ ps, j < es.size)
    (k2 : ps[i]? = none → ∀ h', Heap.ExtBut it h h' → Q none ⟨h', g, dr, tk, os⟩) : wpAny (model prog w) A (pyNext (.ref it)) Q E ⟨h, g, dr, tk, os⟩ := by
  have T : (⟨h, g, dr, tk, os⟩ : Shared).TypeIs (.ref it) "set_iterator" := ⟨_, hi, rfl⟩
  obtain ⟨oP, hoP, hcP, nP, hdP⟩ := hP
  unfold pyNext
  refine wpAny_bind (wpAny_attempt (wpAny_callSpecial?_slot (name := Str.ofString "__next__") T slot_si_next (wpAny_call_entry slot_si_next T entry_si_next ?_ (args_si_next _))))
  unfold Builtin.«set_iterator.__next__»
  refine wpAny_bind (wpAny_of_eq (a := (Value.ref it, [])) (by first | rfl | kernel_rfl) ?_)
  unfold fieldsOf
  refine wpAny_bind (wpAny_bind (wpAny_load hi (wpAny_pure ?_)))
  show wpAny _ _ (setEntries D >>= _) _ _ _
  unfold setEntries
  refine wpAny_bind (wpAny_bind (wpAny_setState_of (s := ⟨h, g, dr, tk, os⟩) ho rfl hf (wpAny_pure ?_)))
  rw [hn]
  show wpAny _ _ (if ((n : Int) != (n : Int)) = true then _ else _) _ _ _
  rw [if_neg (by simp)]
  show wpAny _ _ (seqItems? (.ref P) >>= _) _ _ _
  unfold seqItems?
  refine wpAny_bind (wpAny_bind (wpAny_load hoP ?_))
  rw [hdP]
  refine wpAny_pure ?_
  have eg : (ps.map fun j : Nat => rawInt (j : Int)).toArray[(i : Int).toNat]? = (ps[i]?).map fun j : Nat => rawInt (j : Int) := by simp
  cases hj : ps[i]? with
  | some j =>
    have hjl := hall j (List.mem_of_getElem? hj)
    have he : es[j]? = some (es[j].1, es[j].2) := by simp [hjl]
    rw [hj] at eg
    show wpAny _ _ (match (ps.map fun j : Nat => rawInt (j : Int)).toArray[(i : Int).toNat]? with | some (.int place _) => _ | some _ => _ | none => _) _ _ _
    rw [eg]
    show wpAny _ _ (setNextDrawn D j ep >>= _) _ _ _
    unfold setNextDrawn
    refine wpAny_bind (wpAny_bind (wpAny_setState_of (s := ⟨h, g, dr, tk, os⟩) ho rfl hf ?_))
    show wpAny _ _ (if (ep != ep) = true then _ else _) _ _ _
    rw [if_neg (by simp)]
    show wpAny _ _ (match es[j]? with | some (_, x) => pure x | _ => _) _ _ _
    rw [he]
    refine wpAny_pure ?_
    refine wpAny_bind (wpAny_setField hi rfl (by simp) ?_)
    have hi3 := Heap.get?_update_self (Obj.mapFields (·.setIfInBounds 1 (rawInt ((i : Int) + 1)))) hi rfl
    refine wpAny_pure ⟨_, rfl, wpAny_pure (k1 j _ _ hj he _ (Heap.SameBut.update ..) ?_)⟩
    rw [hi3]; rfl
  | none =>
    rw [hj] at eg
    show wpAny _ _ (match (ps.map fun j : Nat => rawInt (j : Int)).toArray[(i : Int).toNat]? with | some (.int place _) => _ | some _ => _ | none => _) _ _ _
    rw [eg]
    show wpAny _ _ (setField (.ref it) 0 (rawInt 0) >>= _) _ _ _
    refine wpAny_bind (wpAny_setField hi rfl (by simp) ?_)
    have hi2 := Heap.get?_update_self (Obj.mapFields (·.setIfInBounds 0 (rawInt 0))) hi rfl
    refine wpAny_bind (wpAny_setField hi2 rfl (by simp [siObj, Obj.mapFields]) ?_)
    show wpAny _ _ (newExc (.type "StopIteration") [] >>= _) _ _ _
    refine wpAny_bind ?_
    simp only [newExc, newTuple]
    refine wpAny_bind (wpAny_newObj_type ?_ (by size_fits))
    refine wpAny_bind (m := firstArgMember _ _) (wpAny_of_eq (a := Value.none) (by first | rfl | (simp only [firstArgMember]; rfl)) ?_)
    refine wpAny_newObj_type ?_ (by size_fits)
    simp only [raiseNew]
    refine wpAny_bind (wpAny_handled ?_)
    rw [show A.in1.handled = none from hh]
    refine wpAny_bind (wpAny_pure (wpAny_throw ?_))
    refine wpAny_bind (wpAny_isInstance (T := "StopIteration") (b := true) ⟨_, Heap.get?_push_size _ rfl, rfl⟩ isSubtype_stop ?_)
    exact wpAny_pure (k2 hj _ ((((Heap.SameBut.update ..).trans (Heap.SameBut.update ..)).extBut.push _).push _))
end
end Mine
end

/- part MineBD -/
section
open PySem PySem.W PyProof.Rows PySem.Calls
set_option Elab.async false
set_option maxRecDepth 100000
set_option maxHeartbeats 4000000
namespace Mine
theorem wpAny_choose {M : Model} {A : Around} {E : Value → Shared → Prop} {s : Shared} {src : Source} {n : Nat} {Q : Nat → Shared → Prop} (hn : n ≠ 0) (k : ∀ i d, i < n → Q i { s with drawn := d }) : wpAny M A (choose src n) Q E s := by
  intro Γ p hΓ
  unfold choose
  rw [Sem.wp_choose]
  exact ⟨hn, k _ _ (Nat.mod_lt _ (Nat.pos_of_ne_zero hn))⟩
theorem erase_perm {α : Type} {l : List α} {i : Nat} (h : i < l.length) : (l[i] :: l.eraseIdx i).Perm l := by
  rw [List.eraseIdx_eq_take_drop_succ]
  have e : l = l.take i ++ l[i] :: l.drop (i + 1) := by rw [← List.drop_eq_getElem_cons h, List.take_append_drop]
  exact List.perm_middle.symm.trans (by rw [← e])
theorem pick_go {α : Type} (f : Nat → Nat) : ∀ (n k : Nat) (left : List α) (out : Array α), left.length = n → (pickOrder.go f n k left out).toList.Perm (out.toList ++ left)
  | 0, k, left, out, h => by
    rw [List.length_eq_zero_iff.mp h, List.append_nil]
    unfold pickOrder.go; exact .rfl
  | n + 1, k, left, out, h => by
    unfold pickOrder.go
    have hlt : f k % left.length < left.length := Nat.mod_lt _ (by (first | assumption | decide | exact Nat.le_trans (by assumption) (by decide) | exact Nat.sub_succ_lt_self _ _ (by assumption) | exact Nat.succ_le_of_lt (by assumption) | exact Nat.le_of_lt (by assumption) | lia | omega))
    rw [List.getElem?_eq_getElem hlt]
    refine (pick_go f n (k + 1) (left.eraseIdx (f k % left.length)) (out.push _) (by rw [List.length_eraseIdx_of_lt hlt]; (first | assumption | decide | exact Nat.le_trans (by assumption) (by decide) | exact Nat.sub_succ_lt_self _ _ (by assumption) | exact Nat.succ_le_of_lt (by assumption) | exact Nat.le_of_lt (by assumption) | lia | omega))).trans ?_
    rw [Array.toList_push, List.append_assoc]
    exact List.Perm.append_left _ (erase_perm hlt)
theorem pick_perm {α : Type} (f : Nat → Nat) (es : Array α) : (pickOrder f es).toList.Perm es.toList := by
  have := pick_go f es.size 0 es.toList #[] (by simp)
  simpa [pickOrder] using this
theorem draw_perm {α : Type} {M : Model} {A : Around} {E : Value → Shared → Prop} : ∀ (n : Nat) (xs : List α) (s : Shared) {Q : List α → Shared → Prop}, xs.length = n → (∀ ys d, ys.Perm xs → Q ys { s with drawn := d }) → wpAny M A (drawOrder n xs) Q E s
  | 0, xs, s, Q, h, k => by
    unfold drawOrder
    exact wpAny_pure (k [] s.drawn (by rw [List.length_eq_zero_iff.mp h]))
  | n + 1, [], s, Q, h, k => by simp at h
  | n + 1, x :: xs, s, Q, h, k => by
    unfold drawOrder
    refine wpAny_bind (wpAny_choose (by simp) fun i d hi => ?_)
    rw [List.getElem?_eq_getElem hi]
    refine wpAny_bind (draw_perm n ((x :: xs).eraseIdx i) _ (by rw [List.length_eraseIdx_of_lt hi]; simp at h ⊢; (first | assumption | decide | exact Nat.le_trans (by assumption) (by decide) | exact Nat.sub_succ_lt_self _ _ (by assumption) | exact Nat.succ_le_of_lt (by assumption) | exact Nat.le_of_lt (by assumption) | lia | omega)) fun ys d' hp => ?_)
    exact wpAny_pure (k _ _ ((hp.cons _).trans (erase_perm hi)))

def StepSet (prog : Program) (w : World) (B : Heap) (it : Addr) (Nx : Nat → Obj → Prop) (vs : List Value) : Prop :=
  ∀ (A : Around) (E : Value → Shared → Prop) (B' h : Heap) (g : Array GenState) (dr : Drawn) (tk : Nat) (os : OsState) (l : List Ent) (i : Nat) (Q : Option Value → Shared → Prop), A.handled = none → Sub B B' → Own B' h ((it, Nx i) :: l) → i ≤ vs.length →
    (∀ v, vs[i]? = some v → ∀ h', Own B' h' ((it, Nx (i + 1)) :: l) → Q (some v) ⟨h', g, dr, tk, os⟩) →
    (vs[i]? = none → ∀ h', (∀ b o, b ≠ it → h.get? b = some o → h'.get? b = some o) → Q none ⟨h', g, dr, tk, os⟩) → wpAny (model prog w) A (pyNext (.ref it)) Q E ⟨h, g, dr, tk, os⟩

theorem fm_get {α : Type} (es : Array α) : ∀ (ps : List Nat) (i : Nat), (∀ j ∈ ps, j < es.size) → (ps.filterMap fun j => es[j]?)[i]? = (ps[i]?).bind fun j => es[j]?
  | [], i, _ => by simp
  | j :: ps, i, h => by
    have hj := h j (.head _)
    rw [List.filterMap_cons_some (b := es[j]) (by simp [hj])]
    cases i with
    | zero => simp [hj]
    | succ i => simp only [List.getElem?_cons_succ]; exact fm_get es ps i fun q hq => h q (.tail _ hq)
theorem led_next (es : Array (Int × Value)) (pl : Array Nat) (i : Nat) (hp : pl.size = es.size) (hs : es.size ≤ 1) (hi : i ≤ es.size) :
    (match es[SetTable.below pl (if i = 0 then 0 else pl.getD 0 0 + 1)]?, pl[SetTable.below pl (if i = 0 then 0 else pl.getD 0 0 + 1)]? with
      | some (_, x), some j => some (x, j + 1)
      | _, _ => none) = (es[i]?).map fun e => (e.2, pl.getD 0 0 + 1) := by
  obtain ⟨pl⟩ := pl
  obtain ⟨es⟩ := es
  match pl, es, hp, hs with
  | [], [], _, _ =>
    have : i = 0 := by simpa using hi
    subst this; rfl
  | [p], [e], _, _ =>
    obtain ⟨e1, e2⟩ := e
    have : i = 0 ∨ i = 1 := by simp at hi; (first | assumption | decide | exact Nat.le_trans (by assumption) (by decide) | exact Nat.sub_succ_lt_self _ _ (by assumption) | exact Nat.succ_le_of_lt (by assumption) | exact Nat.le_of_lt (by assumption) | lia | omega)
    rcases this with rfl | rfl
    · simp [SetTable.below, SetTable.below.go]
    · simp [SetTable.below, SetTable.below.go]
  | [], _ :: _, h, _ => simp at h
  | _ :: _, [], h, _ => simp at h
  | _ :: _ :: _, [_], h, _ => simp at h
  | [_], _ :: _ :: _, h, _ => simp at h
  | _ :: _ :: _, _ :: _ :: _, _, h => simp at h
theorem elems_strs {prog : Program} {w : World} {M : List Str} {es : List (Int × Value)} {L : List (Int × Value)} (hel : ElemsOf (strKind prog w) es) (hmem : ∀ y, y ∈ M ↔ ∃ e ∈ es, (strKind prog w).is y e.2 = true) (hL : L.Perm es) :
    StrsAre (L.map (·.2)) ((L.map (·.2)).map PyProof.Rows.strOf) ∧ ∀ y, y ∈ (L.map (·.2)).map PyProof.Rows.strOf ↔ y ∈ M := by
  have hsh : ∀ e ∈ L, ∃ x u, e.2 = .str x u := fun e he => by
    obtain ⟨⟨k, hk, _⟩, _⟩ := hel e (hL.mem_iff.mp he)
    obtain ⟨u, hu⟩ := Value.isStrOf_shape hk
    exact ⟨k, u, hu⟩
  refine ⟨strsAre_map _ fun v hv => ?_, fun y => ?_⟩
  · obtain ⟨e, he, rfl⟩ := List.mem_map.mp hv
    exact hsh e he
  · rw [hmem y]
    constructor
    · intro hy
      obtain ⟨v, hv, rfl⟩ := List.mem_map.mp hy
      obtain ⟨e, he, rfl⟩ := List.mem_map.mp hv
      obtain ⟨x, u, hx⟩ := hsh e he
      exact ⟨e, hL.mem_iff.mp he, by rw [hx]; exact strKind_is _ _ _ _⟩
    · rintro ⟨e, he, hk⟩
      obtain ⟨u, hu⟩ := Value.isStrOf_shape hk
      exact List.mem_map.mpr ⟨e.2, List.mem_map_of_mem (hL.mem_iff.mpr he), by rw [hu]; rfl⟩

section
variable {prog : Program} {w : World} {A : Around} {E : Value → Shared → Prop} {h : Heap} {g : Array GenState} {dr : Drawn} {tk : Nat} {os : OsState} {B : Heap} {l l' : List Ent} {D it : Addr}

theorem iter_set {M : List Str} {o : Obj} {Q : Value → Shared → Prop} (O : Own B h l) (hD : B.get? D = some o) (hS : SetP prog w M o) (hz : M.length < 4000)
    (k : ∀ it B' h' dr' t' Nx vs ss, Sub B B' → Own B' h' ((it, Nx 0) :: l) → StrsAre vs ss → (∀ y, y ∈ ss ↔ y ∈ M) → ss.length ≤ M.length → StepSet prog w B' it Nx vs → Q (.ref it) ⟨h', g, dr', t', os⟩) :
    wpAny (model prog w) A (pyIter (.ref D)) Q E ⟨h, g, dr, tk, os⟩ := by
  obtain ⟨es, ep, t, rfl, hel, hmem, hle, hf, hled, hpl⟩ := hS
  have ho := O.keep _ _ hD
  have T : (⟨h, g, dr, tk, os⟩ : Shared).TypeIs (.ref D) "set" := ⟨_, ho, rfl⟩
  refine wpAny_pyIter_slot T F.slot_set_iter (wpAny_call_entry F.slot_set_iter T entry_set_iter ?_ (F.args_set_iter_1 _))
  unfold Builtin.«frozenset.__iter__» Builtin.Frozenset.slot0
  refine wpAny_bind (wpAny_bind (wpAny_of_eq (a := (Value.ref D, [])) (by first | rfl | kernel_rfl) (wpAny_pure ?_)))
  unfold Builtin.Frozenset.sizeOf setEntries
  refine wpAny_bind (wpAny_bind (wpAny_bind (wpAny_setState_of (s := ⟨h, g, dr, tk, os⟩) ho rfl hf (wpAny_pure (wpAny_pure ?_)))))
  dsimp only
  unfold setDrawn
  refine wpAny_bind (wpAny_bind (wpAny_setState_of (s := ⟨h, g, dr, tk, os⟩) ho rfl hf ?_))
  dsimp only
  unfold setsByText
  refine wpAny_bind (wpAny_bind (wpAny_askSetting (wpAny_pure ?_)))
  refine wpAny_pure ?_
  show wpAny _ _ (if (!byTextOf w && (!t.plain && decide (es.size > 1))) = true then _ else _) _ _ _
  have hw := elems_strs hel hmem (List.Perm.refl es.toList)
  have tail : ∀ (first : Value) (h : Heap) (dr : Drawn) (tk : Nat) (B : Heap) (l : List Ent), Own B h l → B.get? D = some { cls := .type "set", dict := none, data := .set es ep t, slots := #[] } →
      (∀ it h', Own B h' ((it, EqP (siObj first 0 D es.size ep)) :: l) → Q (.ref it) ⟨h', g, dr, tk, os⟩) →
      wpAny (model prog w) A.in1 (setEpoch D >>= fun e => newFields "set_iterator" [first, rawInt 0, .ref D, rawInt (es.size : Int), rawInt (e : Int)] >>= fun r => ret r) (fun fin s' => ∃ v, fin = .done (.ret v) ∧ ∃ T' r, s'.TypeIs v T' ∧ typeLookup (.type T') "__next__" = pure (some r) ∧ Q v s') E ⟨h, g, dr, tk, os⟩ := by
    intro first h dr tk B l O hD kk
    refine wpAny_bind (wpAny_setEpoch_of (s := ⟨h, g, dr, tk, os⟩) (O.keep _ _ hD) rfl hf ?_)
    unfold newFields
    refine wpAny_bind (wpAny_newObj_type ?_)
    exact wpAny_pure ⟨_, rfl, "set_iterator", _, ⟨_, Heap.get?_push_size _ rfl, rfl⟩, slot_si_next.lookup, kk _ _ (O.push _ rfl)⟩
  cases hb : byTextOf w with
  | true =>
    rw [if_neg (by simp)]
    refine wpAny_bind (wpAny_pure ?_)
    have hp := pick_perm (w.params.setOrder D ep) es
    have hw := elems_strs hel hmem hp
    refine tail _ h dr tk B l O hD fun it h' O' => k it B h' dr tk (fun i => EqP (siObj (rawInt ((0 : Nat) : Int)) i D es.size ep)) _ _ (Sub.refl _) O' hw.1 hw.2 ?_ ?_
    · rw [List.length_map, List.length_map, hp.length_eq, Array.length_toList]; exact hle
    · intro A E B' h g dr tk os l i Q hh hB O hi k1 k2
      have ho := O.keep _ _ (hB _ _ hD)
      refine nextS_int (r := ((pickOrder (w.params.setOrder D ep) es)[i]?).map fun e => (e.2, 0)) hh (O.eq (.head _)) ho hf rfl ?_ ?_ ?_
      · intro A E Q hq
        unfold setNext
        refine wpAny_bind (wpAny_setState_of (s := ⟨h, g, dr, tk, os⟩) ho rfl hf ?_)
        dsimp only
        unfold setsByText
        refine wpAny_bind (wpAny_bind (wpAny_askSetting (wpAny_pure ?_)))
        show wpAny _ _ (if byTextOf w = true then _ else _) _ _ _
        rw [if_pos hb]
        show wpAny _ _ (if (ep != ep) = true then _ else _) _ _ _
        rw [if_neg (by simp)]
        refine wpAny_bind ?_
        unfold setWalk
        refine wpAny_bind (wpAny_setState_of (s := ⟨h, g, dr, tk, os⟩) ho rfl hf ?_)
        dsimp only
        unfold setsByText
        refine wpAny_bind (wpAny_bind (wpAny_askSetting (wpAny_pure ?_)))
        show wpAny _ _ (if byTextOf w = true then _ else _) _ _ _
        rw [if_pos hb]
        refine wpAny_bind (wpAny_askSetting (wpAny_pure (wpAny_pure ?_)))
        exact hq
      · intro v nx hr h' hs hi'
        refine k1 v ?_ h' (O.putSame Put.head hs ⟨_, hi', ?_⟩)
        · rw [Option.map_eq_some_iff] at hr
          obtain ⟨e, he, hr⟩ := hr
          cases hr
          rw [List.getElem?_map, Array.getElem?_toList, he]; rfl
        · rw [Option.map_eq_some_iff] at hr
          obtain ⟨e, he, hr⟩ := hr
          cases hr; rfl
      · intro hr h' he
        refine k2 ?_ h' fun b o hb e => he b o hb e
        rw [Option.map_eq_none_iff] at hr
        rw [List.getElem?_map, Array.getElem?_toList, hr]; rfl
  | false =>
    by_cases hd : (!t.plain && decide (es.size > 1)) = true
    · rw [if_pos (by rw [hd]; rfl)]
      refine wpAny_bind (draw_perm es.size (List.range es.size) _ (by simp) fun ps d hp => ?_)
      have hz2 : ps.length ≤ 4000 := by rw [hp.length_eq, List.length_range]; (first | assumption | decide | exact Nat.le_trans (by assumption) (by decide) | exact Nat.sub_succ_lt_self _ _ (by assumption) | exact Nat.succ_le_of_lt (by assumption) | exact Nat.le_of_lt (by assumption) | lia | omega)
      refine wpAny_bind (x_tuple O ?_ (by rw [List.length_map, sizeLine_eq]; (first | assumption | decide | exact Nat.le_trans (by assumption) (by decide) | exact Nat.sub_succ_lt_self _ _ (by assumption) | exact Nat.succ_le_of_lt (by assumption) | exact Nat.le_of_lt (by assumption) | lia | omega)))
      intro P h1 t1 O1
      obtain ⟨B1, s1, O2, oP, hoP, nP, rfl⟩ := O1.freeze1
      have hall : ∀ j ∈ ps, j < es.size := fun j hj => List.mem_range.mp (hp.mem_iff.mp hj)
      have hL : (ps.filterMap fun j => es[j]?).Perm es.toList := (hp.filterMap _).trans (by rw [filterMap_getElem?_range])
      have hw := elems_strs hel hmem hL
      refine tail _ h1 d t1 B1 l O2 (s1 _ _ hD) fun it h' O' => k it B1 h' d t1 (fun i => EqP (siObj (.ref P) i D es.size ep)) _ _ s1 O' hw.1 hw.2 ?_ ?_
      · rw [List.length_map, List.length_map, hL.length_eq, Array.length_toList]; exact hle
      · intro A E B' h g dr tk os l i Q hh hB O hi k1 k2
        have ho := O.keep _ _ (hB _ _ (s1 _ _ hD))
        refine nextS_ref (ps := ps) hh (O.eq (.head _)) ho hf rfl ⟨_, O.keep _ _ (hB _ _ hoP), rfl, nP, rfl⟩ ?_ hall ?_
        · intro j hs v hj he h' hs' hi'
          refine k1 v ?_ h' (O.putSame Put.head hs' ⟨_, hi', rfl⟩)
          rw [List.getElem?_map, fm_get es ps i hall, hj]
          simp [he]
        · intro hj h' he
          refine k2 ?_ h' fun b o hb e => he b o hb e
          rw [List.getElem?_map, fm_get es ps i hall, hj]; rfl
    · rw [if_neg (by simpa using hd)]
      have hsz : es.size ≤ 1 := by
        rcases Nat.lt_or_ge 1 es.size with q | q
        · exfalso
          apply hd
          have : t.plain = false := by
            cases hpl' : t.plain with
            | false => rfl
            | true => have := hpl hpl'; (first | assumption | decide | exact Nat.le_trans (by assumption) (by decide) | exact Nat.sub_succ_lt_self _ _ (by assumption) | exact Nat.succ_le_of_lt (by assumption) | exact Nat.le_of_lt (by assumption) | lia | omega)
          rw [this]; simp; (first | assumption | decide | exact Nat.le_trans (by assumption) (by decide) | exact Nat.sub_succ_lt_self _ _ (by assumption) | exact Nat.succ_le_of_lt (by assumption) | exact Nat.le_of_lt (by assumption) | lia | omega)
        · exact q
      have hplace : t.place.size = es.size := by
        have := hf
        simp only [SetTable.fits, Bool.and_eq_true, beq_iff_eq] at this
        exact this.1
      have hled' : t.led = true := by rw [hled, hb]; rfl
      refine wpAny_bind (wpAny_pure ?_)
      refine tail _ h dr tk B l O hD fun it h' O' => k it B h' dr tk (fun i => EqP (siObj (rawInt ((if i = 0 then 0 else t.place.getD 0 0 + 1 : Nat) : Int)) i D es.size ep)) _ _ (Sub.refl _) O' hw.1 hw.2 ?_ ?_
      · rw [List.length_map, List.length_map, Array.length_toList]; exact hle
      · intro A E B' h g dr tk os l i Q hh hB O hi k1 k2
        rw [List.length_map, Array.length_toList] at hi
        have ho := O.keep _ _ (hB _ _ hD)
        refine nextS_int (r := (es[i]?).map fun e => (e.2, t.place.getD 0 0 + 1)) hh (O.eq (.head _)) ho hf rfl ?_ ?_ ?_
        · intro A E Q hq
          unfold setNext
          refine wpAny_bind (wpAny_setState_of (s := ⟨h, g, dr, tk, os⟩) ho rfl hf ?_)
          dsimp only
          unfold setsByText
          refine wpAny_bind (wpAny_bind (wpAny_askSetting (wpAny_pure ?_)))
          show wpAny _ _ (if byTextOf w = true then _ else _) _ _ _
          rw [if_neg (by rw [hb]; exact Bool.false_ne_true)]
          show wpAny _ _ (if (!t.plain && decide (es.size > 1)) = true then _ else _) _ _ _
          rw [if_neg hd]
          show wpAny _ _ ((if (!t.led && !es.isEmpty) = true then unsupported "set:maker-not-led" else pure ()) >>= _) _ _ _
          rw [if_neg (by rw [hled']; simp)]
          refine wpAny_bind (wpAny_pure ?_)
          refine wpAny_pure ?_
          have e : (match es[SetTable.below t.place (if i = 0 then 0 else t.place.getD 0 0 + 1)]?, t.place[SetTable.below t.place (if i = 0 then 0 else t.place.getD 0 0 + 1)]? with
            | some (_, x), some j => some (x, j + 1)
            | _, _ => none) = (es[i]?).map fun e => (e.2, t.place.getD 0 0 + 1) := led_next es t.place i hplace hsz hi
          exact Eq.mpr (congrArg (fun r => Q r ⟨h, g, dr, tk, os⟩) e) hq
        · intro v nx hr h' hs hi'
          rw [Option.map_eq_some_iff] at hr
          obtain ⟨e, he, hr⟩ := hr
          cases hr
          refine k1 e.2 ?_ h' (O.putSame Put.head hs ⟨_, hi', ?_⟩)
          · rw [List.getElem?_map, Array.getElem?_toList, he]; rfl
          · show _ = _
            rw [if_neg (Nat.succ_ne_zero i)]
        · intro hr h' he
          refine k2 ?_ h' fun b o hb e => he b o hb e
          rw [Option.map_eq_none_iff] at hr
          rw [List.getElem?_map, Array.getElem?_toList, hr]; rfl
end
end Mine
end

/- part MineBF -/
section
open PySem PySem.W PyProof.Rows PySem.Calls
set_option Elab.async false
set_option maxRecDepth 100000
set_option maxHeartbeats 4000000
namespace Mine
section
variable {prog : Program} {w : World} {A : Around} {E : Value → Shared → Prop} {h : Heap} {g : Array GenState} {dr : Drawn} {tk : Nat} {os : OsState} {env : Env} {B : Heap} {l l' : List Ent} {m : Str → Option Value} {a b : Addr} {vs : List Value}

theorem x_sumL {ns : List Int} {Q : Value → Shared → Prop} (hh : A.handled = none) (O : Own B h l) (hl : h.IsList a vs.toArray) (hi : IntsAre vs ns) (k : ∀ h' t t', Own B h' l → Sub h h' → Q (.int ns.sum t) ⟨h', g, dr, t', os⟩) :
    wpAny (model prog w) A (call (.builtin "sum") [.ref a]) Q E ⟨h, g, dr, tk, os⟩ := by
  obtain ⟨xs, hx⟩ := hi.allInts.items
  have hn := hi.numsOf
  rw [hx] at hl
  refine sum_intListG (s := ⟨h, g, dr, tk, os⟩) hh hl fun h' tk' t' hk => ?_
  have e : preSum (numAt xs) xs.size = ns.sum := by
    rw [preSum_eq, List.take_of_length_le (by simp), ← nums_intItems, ← hx, ← hn]
  rw [e]
  exact k h' _ _ (O.ext hk) hk
theorem x_negI {i : Int} {t : Tok} {Q : Value → Shared → Prop} (k : ∀ t t', Q (.int (-i) t) ⟨h, g, dr, t', os⟩) : wpAny (model prog w) A (unaryOp .USub (.int i t)) Q E ⟨h, g, dr, tk, os⟩ := P.neg_int (k _ _)
theorem x_absI {i : Int} {t : Tok} {Q : Value → Shared → Prop} (k : ∀ t t', Q (.int (if i < 0 then -i else i) t) ⟨h, g, dr, t', os⟩) : wpAny (model prog w) A (call (.builtin "abs") [.int i t]) Q E ⟨h, g, dr, tk, os⟩ := PyProof.Rows.call_abs_int fun t t' => k t t'
theorem fold_rep (v : Value) : ∀ (n : Nat) (acc : Array Value), (List.foldl (fun x1 x2 : Array Value => x1 ++ x2) acc (List.replicate n #[v])) = acc ++ (List.replicate n v).toArray
  | 0, acc => by simp
  | n + 1, acc => by
    rw [List.replicate_succ, List.foldl_cons, fold_rep v n]
    apply Array.toList_inj.mp
    simp [List.replicate_succ]
theorem mulAux {items : Array Value} {kk : Nat} {x : Int} {u : Tok} {Q : Value → Shared → Prop} (hl : h.get? a = some { cls := .type "list", dict := none, data := .seq items kk, slots := #[] })
    (q1 : ¬ (!Builtin.List.listFitsIndex x) = true) (q2 : ¬ (items.size * x.toNat > (2 ^ 63 - 1) / 8)) (q3 : ¬ Builtin.List.listTooLong (items.size * x.toNat) = true)
    (k : Q (.ref h.objs.size) ⟨h.push { cls := .type "list", data := .seq (List.foldl (fun x1 x2 => x1 ++ x2) #[] (List.replicate (if items.isEmpty = true then 0 else x.toNat) items)) }, g, dr, tk, os⟩) :
    wpAny (model prog w) A (binaryOp .Mult (.ref a) (.int x u)) Q E ⟨h, g, dr, tk, os⟩ :=
  wpAny_binaryOp_repeat_ref (s := ⟨h, g, dr, tk, os⟩) (T := "list") (U := "int") (by decide) ⟨_, hl, rfl⟩ (fun s' => typeIs_int s' x u) noFill_list_mul F.fills_int_mul F.slot_int_rmul repeat_list F.slot_int_index.lookup
    (call_meets F.slot_int_rmul (typeIs_int _ x u) F.entry_int_rmul (F.args_int_rmul_2 _ _) (int___rmul___int_list x u a items kk)
      ⟨hl, rfl, ⟨_, hl, rfl⟩, call_meets F.slot_list_mul ⟨_, hl, rfl⟩ F.entry_list_mul (F.args_list_mul_2 _ _)
        (AutoListH.list___mul___list_int_3 a items kk x u q1 q2 q3) ⟨hl, k⟩⟩)
theorem x_mulL1 {v : Value} {n : Nat} {u : Tok} {Q : Value → Shared → Prop} (O : Own B h l) (hm : (a, ListP [v]) ∈ l) (hz : n ≤ 1000000) (k : ∀ D h' t', Own B h' ((D, ListP (List.replicate n v)) :: l) → Q (.ref D) ⟨h', g, dr, t', os⟩) :
    wpAny (model prog w) A (binaryOp .Mult (.ref a) (.int (n : Int) u)) Q E ⟨h, g, dr, tk, os⟩ := by
  obtain ⟨o, hl, kk, rfl⟩ := O.get hm
  refine mulAux hl (by simp [Builtin.List.listFitsIndex]; (first | assumption | decide | exact Nat.le_trans (by assumption) (by decide) | exact Nat.sub_succ_lt_self _ _ (by assumption) | exact Nat.succ_le_of_lt (by assumption) | exact Nat.le_of_lt (by assumption) | lia | omega)) (by simp; (first | assumption | decide | exact Nat.le_trans (by assumption) (by decide) | exact Nat.sub_succ_lt_self _ _ (by assumption) | exact Nat.succ_le_of_lt (by assumption) | exact Nat.le_of_lt (by assumption) | lia | omega)) (by simp [Builtin.List.listTooLong, sizeLine_eq]; (first | assumption | decide | exact Nat.le_trans (by assumption) (by decide) | exact Nat.sub_succ_lt_self _ _ (by assumption) | exact Nat.succ_le_of_lt (by assumption) | exact Nat.le_of_lt (by assumption) | lia | omega)) ?_
  refine k _ _ _ (O.push _ ⟨0, ?_⟩)
  rw [if_neg (by simp)]
  have e : (n : Int).toNat = n := by (first | assumption | decide | exact Nat.le_trans (by assumption) (by decide) | exact Nat.sub_succ_lt_self _ _ (by assumption) | exact Nat.succ_le_of_lt (by assumption) | exact Nat.le_of_lt (by assumption) | lia | omega)
  rw [e]
  have := fold_rep v n #[]
  rw [show [v].toArray = #[v] from rfl, this]
  simp

theorem str_reads (h : Heap) : ∀ {vs : List Value} {ss : List Str}, StrsAre vs ss → ∃ as, ReadsAll h vs (ss.map PyData.str) as
  | _, _, .nil => ⟨_, .nil⟩
  | _, _, .cons x t r => let ⟨_, q⟩ := str_reads h r; ⟨_, .cons (.str x t) q⟩
theorem str_lay : ∀ (ss : List Str), (∀ x ∈ ss, PyData.strOk x = true) → PyData.canLayAll0 (ss.map PyData.str) = true ∧ PyData.depthAll (ss.map PyData.str) = 0
  | [], _ => ⟨rfl, rfl⟩
  | x :: r, hx => by
    obtain ⟨h1, h2⟩ := str_lay r fun y hy => hx y (.tail _ hy)
    simp [PyData.canLayAll0, PyData.canLay0, PyData.depthAll, PyData.depth, h1, h2, hx x (.head _)]
/-- a list of texts against an empty list -/
theorem x_neNil {ss : List Str} {Q : Value → Shared → Prop} (hl : h.IsList a vs.toArray) (hs : StrsAre vs ss) (hok : ∀ x ∈ ss, PyData.strOk x = true) (hb : h.IsList b ([] : List Value).toArray) (hu : A.units + 64 < cLine)
    (k : Q (.bool (!ss.isEmpty)) ⟨h, g, dr, tk, os⟩) : wpAny (model prog w) A (compareOp .NotEq (.ref a) (.ref b)) Q E ⟨h, g, dr, tk, os⟩ := by
  obtain ⟨o, ho, hc, n, hd⟩ := hl
  obtain ⟨o', ho', hc', n', hd'⟩ := hb
  obtain ⟨as, ra⟩ := str_reads h hs
  obtain ⟨l1, l2⟩ := str_lay ss hok
  refine ne_dataH (s := ⟨h, g, dr, tk, os⟩) (reads_list_at ho hc hd (by simpa using ra)) (reads_list_at ho' hc' hd' (xs := []) .nil) ?_ (by rfl) hu ?_
  · unfold SeqAt.shaped
    simp [PyData.canLay0, PyData.depth, l1, l2]
  · have e : PyData.eqv (.list (ss.map PyData.str)) (.list []) = ss.isEmpty := by cases ss <;> rfl
    rw [e]; exact k
end
end Mine
end

/- part MineBI -/
section
open PySem PySem.W PyProof.Rows PySem.Calls
set_option Elab.async false
set_option maxRecDepth 100000
set_option maxHeartbeats 4000000
namespace Mine
/-! ## tuples walked, zip -/
def TiP (t : Addr) (i : Nat) : Obj → Prop := fun o => o.cls = .type "tuple_iterator" ∧ o.data = .fields #[.ref t, .int i 0]
theorem Own.rebuild {B h h' : Heap} {l l' : List Ent} (O : Own B h l) (hk : l'.map (·.1) = l.map (·.1)) (hB : Sub B h') (ho : ∀ p ∈ l', ∃ o, h'.get? p.1 = some o ∧ p.2 o) : Own B h' l' := by
  refine ⟨hB, fun p hp => ⟨ho p hp, ?_⟩, by rw [hk]; exact O.nodup⟩
  have : p.1 ∈ l.map (·.1) := by rw [← hk]; exact List.mem_map_of_mem hp
  obtain ⟨q, hq, e⟩ := List.mem_map.mp this
  rw [← e]; exact (O.own q hq).2
abbrev zipObj (f : Value) (TI TO : Addr) : Obj := { cls := .type "zip", dict := none, data := .fields #[f, .bool false, .bool false, .ref TI, .ref TO], slots := #[] }
abbrev pairObj (a b : Value) : Obj := { cls := .type "tuple", data := .seq #[a, b] }
abbrev ZZ (z TI TO i1 i2 l1 l2 : Addr) (k : Nat) (f : Value) (l : List Ent) : List Ent :=
  (z, EqP (zipObj f TI TO)) :: (TI, EqP (pairObj (.ref i1) (.ref i2))) :: (TO, fun o => ∃ a b, o = pairObj a b) :: (i1, ItP l1 k) :: (i2, ItP l2 k) :: l
section
variable {prog : Program} {w : World} {A : Around} {E : Value → Shared → Prop} {h : Heap} {g : Array GenState} {dr : Drawn} {tk : Nat} {os : OsState} {env : Env} {B : Heap} {l l' : List Ent} {a it : Addr} {vs : List Value}

theorem x_iterT {Q : Value → Shared → Prop} (O : Own B h l) (ht : IsTup h a vs.toArray) (k : ∀ it h' t', Own B h' ((it, TiP a 0) :: l) → Sub h h' → Q (.ref it) ⟨h', g, dr, t', os⟩) :
    wpAny (model prog w) A (pyIter (.ref a)) Q E ⟨h, g, dr, tk, os⟩ := by
  obtain ⟨o, ho, hc, n, hd⟩ := ht
  exact wpAny_pyIter_tuple (s := ⟨h, g, dr, tk, os⟩) ⟨o, ho, hc, n, hd⟩ (k _ _ _ (O.push _ ⟨rfl, rfl⟩) (sub_push _ _))
theorem x_nextT {Q : Option Value → Shared → Prop} {i : Nat} (hh : A.handled = none) (O : Own B h l) (hm : (it, TiP a i) ∈ l) (hp : Put it (TiP a (i + 1)) l l') (ht : IsTup h a vs.toArray)
    (k1 : ∀ v h' t', vs[i]? = some v → Own B h' l' → Heap.SameBut it h h' → Q (some v) ⟨h', g, dr, t', os⟩)
    (k2 : vs[i]? = none → ∀ h' t', (∀ b o, b ≠ it → h.get? b = some o → h'.get? b = some o) → Q none ⟨h', g, dr, t', os⟩) :
    wpAny (model prog w) A (pyNext (.ref it)) Q E ⟨h, g, dr, tk, os⟩ := by
  obtain ⟨o, ho, hc, hd⟩ := O.get hm
  obtain ⟨ot, hot, hct, n, hdt⟩ := ht
  have hit : h.IsTupleIter it a i := ⟨o, ho, hc, hd⟩
  cases hv : vs[i]? with
  | some v =>
    refine wpAny_pyNext_tuple_item (s := ⟨h, g, dr, tk, os⟩) (x := v) hit ⟨ot, hot, hct, n, hdt⟩ (by simpa using hv) fun h' hit' hs' => ?_
    obtain ⟨o', ho', hc', hd'⟩ := hit'
    exact k1 v h' _ hv (O.putSame hp hs' ⟨o', ho', hc', hd'⟩) hs'
  | none => exact wpAny_pyNext_tuple_end (s := ⟨h, g, dr, tk, os⟩) hh hit ⟨ot, hot, hct, n, hdt⟩ (by simpa using hv) fun h' he => k2 hv h' _ fun b o hb e => he b o hb e

variable {z TI TO i1 i2 l1 l2 : Addr} {k : Nat} {f : Value} {xs ys : List Value}
theorem x_zip {Q : Value → Shared → Prop} (O : Own B h l) (hl1 : B.IsList l1 xs.toArray) (hl2 : B.IsList l2 ys.toArray)
    (k : ∀ z TI TO i1 i2 h' t', Own B h' (ZZ z TI TO i1 i2 l1 l2 0 .none l) → Q (.ref z) ⟨h', g, dr, t', os⟩) :
    wpAny (model prog w) A (call (.type "zip") [.ref l1, .ref l2]) Q E ⟨h, g, dr, tk, os⟩ := by
  refine call_zip_2 (s := ⟨h, g, dr, tk, os⟩) (isList_keeps hl1 O.keep) (isList_keeps hl2 O.keep) fun h' z1 z2 z3 z4 z5 z6 z7 => ?_
  have O' : Own B h' (ZZ (h.objs.size + 4) (h.objs.size + 2) (h.objs.size + 3) h.objs.size (h.objs.size + 1) l1 l2 0 .none l) := by
    refine own_many O z7 [(h.objs.size + 4, EqP (zipObj .none (h.objs.size + 2) (h.objs.size + 3))), (h.objs.size + 2, EqP (pairObj (.ref h.objs.size) (.ref (h.objs.size + 1)))), (h.objs.size + 3, fun o => ∃ a b, o = pairObj a b), (h.objs.size, ItP l1 0), (h.objs.size + 1, ItP l2 0)] (fun e he => ?_) ?_
    · have fr : ∀ n, h.get? (h.objs.size + n) = none := fun n => Heap.get?_none_of_le (Nat.le_add_right _ _)
      have fr0 : h.get? h.objs.size = none := Heap.get?_none_of_le (Nat.le_refl _)
      simp only [List.mem_cons, List.not_mem_nil, or_false] at he
      rcases he with rfl | rfl | rfl | rfl | rfl
      · exact ⟨fr 4, _, z1, rfl⟩
      · exact ⟨fr 2, _, z2, rfl⟩
      · exact ⟨fr 3, _, z3, _, _, rfl⟩
      · obtain ⟨o, a, b, c⟩ := z4; exact ⟨fr0, o, a, b, c⟩
      · obtain ⟨o, a, b, c⟩ := z5; exact ⟨fr 1, o, a, b, c⟩
    · generalize h.objs.size = n
      simp
  exact k _ _ _ _ _ h' tk O'
theorem zz_apart (O : Own B h (ZZ z TI TO i1 i2 l1 l2 k f l)) (hl1 : B.IsList l1 xs.toArray) (hl2 : B.IsList l2 ys.toArray) : ZipApart z TI TO i1 i2 l1 l2 := by
  have nd := O.nodup
  simp only [List.map_cons, List.nodup_cons, List.mem_cons, not_or] at nd
  obtain ⟨⟨a1, a2, a3, a4, _⟩, ⟨b1, b2, b3, _⟩, ⟨c1, c2, _⟩, ⟨d1, _⟩, _⟩ := nd
  have key : ∀ {q : Addr} {zs : List Value} (c : Addr), B.IsList q zs.toArray → B.get? c = none → q ≠ c := fun {q zs} c hq hc e => by
    obtain ⟨o, ho, _⟩ := hq
    rw [e, hc] at ho; cases ho
  have n1 := (O.own _ (.head _)).2
  have n3 := (O.own _ (.tail _ (.tail _ (.head _)))).2
  have n4 := (O.own _ (.tail _ (.tail _ (.tail _ (.head _))))).2
  have n5 := (O.own _ (.tail _ (.tail _ (.tail _ (.tail _ (.head _)))))).2
  exact ⟨Ne.symm a1, Ne.symm a2, Ne.symm a3, Ne.symm a4, b1, b2, b3, c1, c2, d1, key _ hl1 n1, key _ hl1 n3, key _ hl1 n4, key _ hl1 n5, key _ hl2 n1, key _ hl2 n3, key _ hl2 n4, key _ hl2 n5⟩
theorem x_nextZ {Q : Option Value → Shared → Prop} (hh : A.handled = none) (O : Own B h (ZZ z TI TO i1 i2 l1 l2 k .none l)) (hl1 : B.IsList l1 xs.toArray) (hl2 : B.IsList l2 ys.toArray)
    (k1 : ∀ x y T h' t', xs[k]? = some x → ys[k]? = some y → Own B h' ((T, TupP [x, y]) :: ZZ z TI TO i1 i2 l1 l2 (k + 1) (rawInt T) l) → Q (some (.ref T)) ⟨h', g, dr, t', os⟩)
    (k2 : (xs[k]? = none ∨ ys[k]? = none) → ∀ h' t', Own B h' l → Q none ⟨h', g, dr, t', os⟩) :
    wpAny (model prog w) A (pyNext (.ref z)) Q E ⟨h, g, dr, tk, os⟩ := by
  have D := zz_apart O hl1 hl2
  have m1 := O.eq (.head _)
  have m2 := O.eq (.tail _ (.head _))
  obtain ⟨oT, m3, a, b, rfl⟩ := O.get (.tail _ (.tail _ (.head _)))
  obtain ⟨oi1, p1, p2, p3⟩ := O.get (.tail _ (.tail _ (.tail _ (.head _))))
  obtain ⟨oi2, q1, q2, q3⟩ := O.get (.tail _ (.tail _ (.tail _ (.tail _ (.head _)))))
  have s1 := isList_keeps hl1 O.keep
  have s2 := isList_keeps hl2 O.keep
  have old : ∀ c, (∃ o, h.get? c = some o) → c ≠ h.objs.size := fun c ⟨o, e⟩ => Nat.ne_of_lt (Heap.lt_size e)
  have nd := O.nodup
  simp only [List.map_cons, List.nodup_cons, List.mem_cons, not_or] at nd
  obtain ⟨⟨a1, a2, a3, a4, a5⟩, ⟨b1, b2, b3, b4⟩, ⟨c1, c2, c3⟩, ⟨d1, d2⟩, e1, _⟩ := nd
  have lne : ∀ p ∈ l, p.1 ≠ z ∧ p.1 ≠ TO ∧ p.1 ≠ i1 ∧ p.1 ≠ i2 := fun p hp => by
    have := List.mem_map_of_mem (f := (·.1)) hp
    exact ⟨fun e => a5 (e ▸ this), fun e => c3 (e ▸ this), fun e => d2 (e ▸ this), fun e => e1 (e ▸ this)⟩
  have bne : ∀ c o, B.get? c = some o → c ≠ z ∧ c ≠ TO ∧ c ≠ i1 ∧ c ≠ i2 := fun c o e => by
    have n1 := (O.own _ (.head _)).2
    have n3 := (O.own _ (.tail _ (.tail _ (.head _)))).2
    have n4 := (O.own _ (.tail _ (.tail _ (.tail _ (.head _))))).2
    have n5 := (O.own _ (.tail _ (.tail _ (.tail _ (.tail _ (.head _)))))).2
    refine ⟨fun q => ?_, fun q => ?_, fun q => ?_, fun q => ?_⟩ <;> (subst q; first | (rw [n1] at e; cases e) | (rw [n3] at e; cases e) | (rw [n4] at e; cases e) | (rw [n5] at e; cases e))
  cases hx : xs[k]? with
  | none =>
    refine wpAny_pyNext_zip_end (s := ⟨h, g, dr, tk, os⟩) hh D m1 m2 m3 ⟨oi1, p1, p2, p3⟩ ⟨oi2, q1, q2, q3⟩ s1 s2 (.inl (by simpa using hx)) fun h' hk => k2 (.inl hx) h' tk ?_
    refine Own.rebuild (O.tail.tail.tail.tail.tail) rfl (fun c o e => ?_) fun p hp => ?_
    · obtain ⟨n1, n2, n3, n4⟩ := bne c o e
      exact hk c o n1 n2 n3 n4 (O.keep c o e)
    · obtain ⟨n1, n2, n3, n4⟩ := lne p hp
      obtain ⟨⟨o, ho, hP⟩, _⟩ := O.own p (.tail _ (.tail _ (.tail _ (.tail _ (.tail _ hp)))))
      exact ⟨o, hk _ o n1 n2 n3 n4 ho, hP⟩
  | some x =>
    cases hy : ys[k]? with
    | none =>
      refine wpAny_pyNext_zip_end (s := ⟨h, g, dr, tk, os⟩) hh D m1 m2 m3 ⟨oi1, p1, p2, p3⟩ ⟨oi2, q1, q2, q3⟩ s1 s2 (.inr (by simpa using hy)) fun h' hk => k2 (.inr hy) h' tk ?_
      refine Own.rebuild (O.tail.tail.tail.tail.tail) rfl (fun c o e => ?_) fun p hp => ?_
      · obtain ⟨n1, n2, n3, n4⟩ := bne c o e
        exact hk c o n1 n2 n3 n4 (O.keep c o e)
      · obtain ⟨n1, n2, n3, n4⟩ := lne p hp
        obtain ⟨⟨o, ho, hP⟩, _⟩ := O.own p (.tail _ (.tail _ (.tail _ (.tail _ (.tail _ hp)))))
        exact ⟨o, hk _ o n1 n2 n3 n4 ho, hP⟩
    | some y =>
      refine wpAny_pyNext_zip_item (s := ⟨h, g, dr, tk, os⟩) D m1 m2 m3 ⟨oi1, p1, p2, p3⟩ ⟨oi2, q1, q2, q3⟩ s1 s2 (x := x) (y := y) (by simpa using hx) (by simpa using hy) fun h' r1 r2 r3 r4 r5 r6 hk => ?_
      refine k1 x y h.objs.size h' tk hx hy ?_
      have O' : Own B h' (ZZ z TI TO i1 i2 l1 l2 (k + 1) (rawInt h.objs.size) l) := by
        refine Own.rebuild O rfl (fun c o e => ?_) fun p hp => ?_
        · obtain ⟨n1, n2, n3, n4⟩ := bne c o e
          exact hk c o n1 n2 n3 n4 (O.keep c o e)
        · rcases List.mem_cons.mp hp with rfl | hp
          · exact ⟨_, r1, rfl⟩
          rcases List.mem_cons.mp hp with rfl | hp
          · exact ⟨_, hk _ _ D.TIz D.TITO D.TIi1 D.TIi2 m2, rfl⟩
          rcases List.mem_cons.mp hp with rfl | hp
          · exact ⟨_, r2, _, _, rfl⟩
          rcases List.mem_cons.mp hp with rfl | hp
          · obtain ⟨o, x1, x2, x3⟩ := r3; exact ⟨o, x1, x2, x3⟩
          rcases List.mem_cons.mp hp with rfl | hp
          · obtain ⟨o, x1, x2, x3⟩ := r4; exact ⟨o, x1, x2, x3⟩
          obtain ⟨n1, n2, n3, n4⟩ := lne p hp
          obtain ⟨⟨o, ho, hP⟩, _⟩ := O.own p (.tail _ (.tail _ (.tail _ (.tail _ (.tail _ hp)))))
          exact ⟨o, hk _ o n1 n2 n3 n4 ho, hP⟩
      refine ⟨O'.keep, fun p hp => ?_, ?_⟩
      · rcases List.mem_cons.mp hp with rfl | hp
        · exact ⟨⟨_, r5, 0, rfl⟩, O.notIn (get?_size h)⟩
        · exact O'.own p hp
      · rw [List.map_cons, List.nodup_cons]
        refine ⟨fun hm => ?_, O'.nodup⟩
        have hm : h.objs.size ∈ (ZZ z TI TO i1 i2 l1 l2 k .none l).map (·.1) := hm
        obtain ⟨q, hq, e⟩ := List.mem_map.mp hm
        obtain ⟨⟨o, ho, _⟩, _⟩ := O.own q hq
        rw [e, get?_size] at ho; cases ho
theorem x_goZ {elts : List Expr} {x1 : Nat} {pos : Pos} {T : Addr} {P : Obj → Prop} {Q : Unit → Shared → Prop} (O : Own B h ((T, P) :: ZZ z TI TO i1 i2 l1 l2 k (rawInt T) l))
    (kk : ∀ h' t', Own B h' ((T, P) :: ZZ z TI TO i1 i2 l1 l2 k .none l) → Q () ⟨h', g, dr, t', os⟩) :
    wpAny (model prog w) A (letOwnedTupleGo (.Tuple elts x1 pos) (.ref z) (.ref T)) Q E ⟨h, g, dr, tk, os⟩ :=
  wpAny_letOwnedTupleGo_zip (s := ⟨h, g, dr, tk, os⟩) (O.eq (.tail _ (.head _))) fun h' hz hs => kk h' tk (O.putSame (Put.tail Put.head) hs ⟨_, hz, rfl⟩)
end
end Mine
end

/- part MineBK -/
section
open PySem PyProof.Rows
namespace Mine
/-! ## the law's own cutting is the lexer's -/
theorem goes_esc (qd : Bool) (s : List Nat) (e : Nat) : goes qd (false, s, e) = true := rfl
theorem goes_q (c e : Nat) : goes true (true, [c], e) = !(c == 34) := by simp [goes]
theorem goes_u (c e : Nat) : goes false (true, [c], e) = !isWs c := by simp [goes]
theorem joined_cons (x : Sgn) (l : List Sgn) : joined (x :: l) = x.2.1 ++ joined l := by simp [joined]
theorem q_scan : ∀ (n : Nat) (r acc : List Nat) (q : Nat), r.length ≤ n → ∃ rest, qLoop acc r = (acc ++ joined ((sgn r q).takeWhile (goes true)), rest) ∧
    (((sgn r q).dropWhile (goes true) = [] ∧ rest = []) ∨ ∃ x, (sgn r q).dropWhile (goes true) = x :: sgn rest x.2.2 ∧ x.2.2 + rest.length = q + r.length)
  | _, [], acc, q, _ => ⟨[], by rw [qLoop_nil, sgn_nil]; simp [joined], .inl ⟨by rw [sgn_nil]; rfl, rfl⟩⟩
  | n + 1, c :: r, acc, q, h => by
    by_cases hc : c = 92
    · subst hc
      have hl : (r.drop 1).length ≤ n := by simp at h ⊢; (first | assumption | decide | exact Nat.le_trans (by assumption) (by decide) | exact Nat.sub_succ_lt_self _ _ (by assumption) | exact Nat.succ_le_of_lt (by assumption) | exact Nat.le_of_lt (by assumption) | lia | omega)
      obtain ⟨rest, h1, h2⟩ := q_scan n (r.drop 1) (acc ++ r.take 1) (q + 2) hl
      refine ⟨rest, ?_, ?_⟩
      · rw [qLoop_esc, h1, sgn_esc, List.takeWhile_cons_of_pos (goes_esc _ _ _), joined_cons, List.append_assoc]
      · rw [sgn_esc, List.dropWhile_cons_of_pos (goes_esc _ _ _)]
        rcases h2 with h2 | ⟨x, h2, h3⟩
        · exact .inl h2
        · refine .inr ⟨x, h2, ?_⟩
          cases r with
          | nil => rw [List.drop_nil, sgn_nil] at h2; cases h2
          | cons c' r => simp at h3 ⊢; (first | assumption | decide | exact Nat.le_trans (by assumption) (by decide) | exact Nat.sub_succ_lt_self _ _ (by assumption) | exact Nat.succ_le_of_lt (by assumption) | exact Nat.le_of_lt (by assumption) | lia | omega)
    · by_cases hq : c = 34
      · subst hq
        refine ⟨r, ?_, .inr ⟨(true, [34], q + 1), ?_, ?_⟩⟩
        · rw [qLoop_end, sgn_bare _ _ hc, List.takeWhile_cons_of_neg (by rw [goes_q]; simp)]; simp [joined]
        · rw [sgn_bare _ _ hc, List.dropWhile_cons_of_neg (by rw [goes_q]; simp)]
        · simp; (first | assumption | decide | exact Nat.le_trans (by assumption) (by decide) | exact Nat.sub_succ_lt_self _ _ (by assumption) | exact Nat.succ_le_of_lt (by assumption) | exact Nat.le_of_lt (by assumption) | lia | omega)
      · have hg : goes true (true, [c], q + 1) = true := by rw [goes_q]; simpa using hq
        obtain ⟨rest, h1, h2⟩ := q_scan n r (acc ++ [c]) (q + 1) (by simp at h; (first | assumption | decide | exact Nat.le_trans (by assumption) (by decide) | exact Nat.sub_succ_lt_self _ _ (by assumption) | exact Nat.succ_le_of_lt (by assumption) | exact Nat.le_of_lt (by assumption) | lia | omega))
        refine ⟨rest, ?_, ?_⟩
        · rw [qLoop_on _ _ _ hq hc, h1, sgn_bare _ _ hc, List.takeWhile_cons_of_pos hg, joined_cons, List.append_assoc]
        · rw [sgn_bare _ _ hc, List.dropWhile_cons_of_pos hg]
          rcases h2 with h2 | ⟨x, h2, h3⟩
          · exact .inl h2
          · exact .inr ⟨x, h2, by simp; (first | assumption | decide | exact Nat.le_trans (by assumption) (by decide) | exact Nat.sub_succ_lt_self _ _ (by assumption) | exact Nat.succ_le_of_lt (by assumption) | exact Nat.le_of_lt (by assumption) | lia | omega)⟩
theorem u_scan : ∀ (n : Nat) (r acc : List Nat) (q : Nat), r.length ≤ n → ∃ rest, uLoop acc r = (acc ++ joined ((sgn r q).takeWhile (goes false)), rest) ∧
    (((sgn r q).dropWhile (goes false) = [] ∧ rest = []) ∨ ∃ x, (sgn r q).dropWhile (goes false) = x :: sgn rest x.2.2 ∧ x.2.2 + rest.length = q + r.length)
  | _, [], acc, q, _ => ⟨[], by rw [uLoop_nil, sgn_nil]; simp [joined], .inl ⟨by rw [sgn_nil]; rfl, rfl⟩⟩
  | n + 1, c :: r, acc, q, h => by
    by_cases hc : c = 92
    · subst hc
      have hl : (r.drop 1).length ≤ n := by simp at h ⊢; (first | assumption | decide | exact Nat.le_trans (by assumption) (by decide) | exact Nat.sub_succ_lt_self _ _ (by assumption) | exact Nat.succ_le_of_lt (by assumption) | exact Nat.le_of_lt (by assumption) | lia | omega)
      obtain ⟨rest, h1, h2⟩ := u_scan n (r.drop 1) (acc ++ r.take 1) (q + 2) hl
      refine ⟨rest, ?_, ?_⟩
      · rw [uLoop_esc, h1, sgn_esc, List.takeWhile_cons_of_pos (goes_esc _ _ _), joined_cons, List.append_assoc]
      · rw [sgn_esc, List.dropWhile_cons_of_pos (goes_esc _ _ _)]
        rcases h2 with h2 | ⟨x, h2, h3⟩
        · exact .inl h2
        · refine .inr ⟨x, h2, ?_⟩
          cases r with
          | nil => rw [List.drop_nil, sgn_nil] at h2; cases h2
          | cons c' r => simp at h3 ⊢; (first | assumption | decide | exact Nat.le_trans (by assumption) (by decide) | exact Nat.sub_succ_lt_self _ _ (by assumption) | exact Nat.succ_le_of_lt (by assumption) | exact Nat.le_of_lt (by assumption) | lia | omega)
    · cases hq : isWs c with
      | true =>
        refine ⟨r, ?_, .inr ⟨(true, [c], q + 1), ?_, ?_⟩⟩
        · rw [uLoop_end _ _ _ hq, sgn_bare _ _ hc, List.takeWhile_cons_of_neg (by rw [goes_u, hq]; simp)]; simp [joined]
        · rw [sgn_bare _ _ hc, List.dropWhile_cons_of_neg (by rw [goes_u, hq]; simp)]
        · simp; (first | assumption | decide | exact Nat.le_trans (by assumption) (by decide) | exact Nat.sub_succ_lt_self _ _ (by assumption) | exact Nat.succ_le_of_lt (by assumption) | exact Nat.le_of_lt (by assumption) | lia | omega)
      | false =>
        have hg : goes false (true, [c], q + 1) = true := by rw [goes_u, hq]; rfl
        obtain ⟨rest, h1, h2⟩ := u_scan n r (acc ++ [c]) (q + 1) (by simp at h; (first | assumption | decide | exact Nat.le_trans (by assumption) (by decide) | exact Nat.sub_succ_lt_self _ _ (by assumption) | exact Nat.succ_le_of_lt (by assumption) | exact Nat.le_of_lt (by assumption) | lia | omega))
        refine ⟨rest, ?_, ?_⟩
        · rw [uLoop_on _ _ _ hq hc, h1, sgn_bare _ _ hc, List.takeWhile_cons_of_pos hg, joined_cons, List.append_assoc]
        · rw [sgn_bare _ _ hc, List.dropWhile_cons_of_pos hg]
          rcases h2 with h2 | ⟨x, h2, h3⟩
          · exact .inl h2
          · exact .inr ⟨x, h2, by simp; (first | assumption | decide | exact Nat.le_trans (by assumption) (by decide) | exact Nat.sub_succ_lt_self _ _ (by assumption) | exact Nat.succ_le_of_lt (by assumption) | exact Nat.le_of_lt (by assumption) | lia | omega)⟩
theorem rows_word {n : Nat} {S : List Sgn} {b : Bool} {sn : List Nat} {en : Nat} {r : List Sgn} {qd : Bool} {body : List Sgn} (hS : S = (b, sn, en) :: r) (hb : (b && sn.all isWs) = false) (hq : (b && sn == [34]) = qd) (hbody : (if qd then r else (b, sn, en) :: r) = body) :
    (∀ x rest, body.dropWhile (goes qd) = x :: rest → rowsT n S = (joined (body.takeWhile (goes qd)), x.2.2) :: rowsT n rest) ∧
    (body.dropWhile (goes qd) = [] → rowsT n S = if joined (body.takeWhile (goes qd)) = [] then [] else [(joined (body.takeWhile (goes qd)), n)]) := by
  subst hS
  constructor
  · intro x rest hd
    rw [rowsT, if_neg (by rw [hb]; simp)]
    simp only [hq, hbody]
    split
    · rename_i h; rw [hq, hbody, hd] at h; cases h
    · rename_i y rest' h
      rw [hq, hbody, hd] at h
      cases h; rfl
  · intro hd
    rw [rowsT, if_neg (by rw [hb]; simp)]
    simp only [hq, hbody]
    split
    · rfl
    · rename_i y rest' h
      rw [hq, hbody, hd] at h
      cases h
/-- the next word of the text, by both -/
theorem lex_rows {n : Nat} : ∀ (r : List Nat) (q : Nat), q + r.length = n → ∃ tok rest, lexT r = (tok, rest) ∧
    (rowsT n (sgn r q) = (tok, n - rest.length) :: rowsT n (sgn rest (n - rest.length)) ∨ (rowsT n (sgn r q) = [] ∧ tok = [] ∧ rest = []))
  | [], q, _ => ⟨[], [], by rw [lexT], .inr ⟨by rw [sgn_nil, rowsT], rfl, rfl⟩⟩
  | c :: r, q, h => by
    have fin : ∀ (wd rest : List Nat) (dw : List Sgn), (dw = [] ∧ rest = [] ∨ ∃ x, dw = x :: sgn rest x.2.2 ∧ x.2.2 + rest.length = n) →
        (∀ x rest', dw = x :: rest' → rowsT n (sgn (c :: r) q) = (wd, x.2.2) :: rowsT n rest') → (dw = [] → rowsT n (sgn (c :: r) q) = if wd = [] then [] else [(wd, n)]) →
        (rowsT n (sgn (c :: r) q) = (wd, n - rest.length) :: rowsT n (sgn rest (n - rest.length)) ∨ (rowsT n (sgn (c :: r) q) = [] ∧ wd = [] ∧ rest = [])) := by
      intro wd rest dw hd h1 h2
      rcases hd with ⟨hd, rfl⟩ | ⟨x, hd, hx⟩
      · rw [h2 hd]
        by_cases hw : wd = []
        · rw [if_pos hw]; exact .inr ⟨rfl, hw, rfl⟩
        · rw [if_neg hw]; left; rw [sgn_nil, rowsT]; rfl
      · left
        have e : n - rest.length = x.2.2 := by (first | assumption | decide | exact Nat.le_trans (by assumption) (by decide) | exact Nat.sub_succ_lt_self _ _ (by assumption) | exact Nat.succ_le_of_lt (by assumption) | exact Nat.le_of_lt (by assumption) | lia | omega)
        rw [h1 x _ hd, e]
    rw [List.length_cons] at h
    by_cases hc : c = 92
    · subst hc
      have hw : isWs 92 = false := rfl
      obtain ⟨rest, h1, h2⟩ := u_scan _ (r.drop 1) (r.take 1) (q + 2) (Nat.le_refl _)
      obtain ⟨k1, k2⟩ := rows_word (n := n) (sgn_esc r q) (by rfl) (qd := false) (by rfl) (body := (false, r.take 1, q + 2) :: sgn (r.drop 1) (q + 2)) (by rfl)
      refine ⟨_, rest, ?_, fin _ rest _ ?_ k1 k2⟩
      · rw [lexT, if_neg (by rw [hw]; simp), if_neg (by decide), if_pos rfl, h1, List.takeWhile_cons_of_pos (goes_esc _ _ _), joined_cons]
      · rw [List.dropWhile_cons_of_pos (goes_esc _ _ _)]
        rcases h2 with h2 | ⟨x, h2, h3⟩
        · exact .inl h2
        · refine .inr ⟨x, h2, ?_⟩
          cases r with
          | nil => rw [List.drop_nil, sgn_nil] at h2; cases h2
          | cons c' r => simp at h3 h; (first | assumption | decide | exact Nat.le_trans (by assumption) (by decide) | exact Nat.sub_succ_lt_self _ _ (by assumption) | exact Nat.succ_le_of_lt (by assumption) | exact Nat.le_of_lt (by assumption) | lia | omega)
    · by_cases hq : c = 34
      · subst hq
        have hw : isWs 34 = false := rfl
        obtain ⟨rest, h1, h2⟩ := q_scan _ r [] (q + 1) (Nat.le_refl _)
        obtain ⟨k1, k2⟩ := rows_word (n := n) (sgn_bare r q hc) (by rfl) (qd := true) (by rfl) (body := sgn r (q + 1)) (by rfl)
        refine ⟨_, rest, ?_, fin _ rest _ ?_ k1 k2⟩
        · rw [lexT, if_neg (by rw [hw]; simp), if_pos rfl, h1, List.nil_append]
        · rcases h2 with h2 | ⟨x, h2, h3⟩
          · exact .inl h2
          · exact .inr ⟨x, h2, by (first | assumption | decide | exact Nat.le_trans (by assumption) (by decide) | exact Nat.sub_succ_lt_self _ _ (by assumption) | exact Nat.succ_le_of_lt (by assumption) | exact Nat.le_of_lt (by assumption) | lia | omega)⟩
      · cases hw : isWs c with
        | true =>
          obtain ⟨tok, rest, h1, h2⟩ := lex_rows (n := n) r (q + 1) (by (first | assumption | decide | exact Nat.le_trans (by assumption) (by decide) | exact Nat.sub_succ_lt_self _ _ (by assumption) | exact Nat.succ_le_of_lt (by assumption) | exact Nat.le_of_lt (by assumption) | lia | omega))
          refine ⟨tok, rest, by rw [lexT, if_pos hw]; exact h1, ?_⟩
          have e : rowsT n (sgn (c :: r) q) = rowsT n (sgn r (q + 1)) := by
            rw [sgn_bare _ _ hc, rowsT, if_pos (by simp [hw])]
          rw [e]; exact h2
        | false =>
          have hg : goes false (true, [c], q + 1) = true := by rw [goes_u, hw]; rfl
          obtain ⟨rest, h1, h2⟩ := u_scan _ r [c] (q + 1) (Nat.le_refl _)
          obtain ⟨k1, k2⟩ := rows_word (n := n) (sgn_bare r q hc) (by simp [hw]) (qd := false) (by simp [hq]) (body := (true, [c], q + 1) :: sgn r (q + 1)) (by rfl)
          refine ⟨_, rest, ?_, fin _ rest _ ?_ k1 k2⟩
          · rw [lexT, if_neg (by rw [hw]; simp), if_neg hq, if_neg hc, h1, List.takeWhile_cons_of_pos hg, joined_cons]
          · rw [List.dropWhile_cons_of_pos hg]
            rcases h2 with h2 | ⟨x, h2, h3⟩
            · exact .inl h2
            · exact .inr ⟨x, h2, by (first | assumption | decide | exact Nat.le_trans (by assumption) (by decide) | exact Nat.sub_succ_lt_self _ _ (by assumption) | exact Nat.succ_le_of_lt (by assumption) | exact Nat.le_of_lt (by assumption) | lia | omega)⟩
end Mine
end

/- part MineBN -/
section
open PySem PySem.Spec PySem.W PyProof.Rows PySem.Calls
set_option Elab.async false
set_option maxRecDepth 100000
set_option maxHeartbeats 4000000
namespace Mine
section
variable {prog : Program} {w : World} {A : Around} {E : Value → Shared → Prop} {h : Heap} {g : Array GenState} {dr : Drawn} {tk : Nat} {os : OsState} {env : Env}

/-- a comprehension whose list is bound to a name at once -/
theorem x_compA {elt target iter : Expr} {ifs : List Expr} {rest : List Comprehension} {scope : Scope} {cl : List (Str × Addr)} {y : Str} {py pos spos : Pos} {Q : Flow → Shared → Prop}
    (hsw : swapsWith (.ListComp elt (⟨target, iter, ifs, 0⟩ :: rest) scope pos) (some (.Name y py)) spos.line env = pure true)
    (hclos : closureFor scope env = pure cl)
    (k : wpAny (model prog w) A (eval iter env) (fun xv s₁ => wpAny (model prog w) A (pyIter xv) (fun it s₂ => ∃ (h : Heap) (t : Nat) (B : Heap) (l : List Ent), s₂ = ⟨h, g, dr, t, os⟩ ∧ Own B h l ∧
      ∀ C D h' t', Sub h h' → Own B h' ((C, NsP fun _ => none) :: (D, ListP []) :: l) →
        (∀ (E' : Value → Shared → Prop) (Q' : Value → Shared → Prop), Q' it ⟨h', g, dr, t', os⟩ → wpAny (model prog w) A (pyIter it) Q' E' ⟨h', g, dr, t', os⟩) ∧
        codeAny (model prog w) A (.compLoop (.ListComp elt (⟨target, iter, ifs, 0⟩ :: rest) scope pos) 0 it (.ref D) (compEnvC scope cl C env)) (fun r s' => r = .ok .next ∧ ∃ h'' t'' m ys B' l' mf l2, s' = ⟨h'', g, dr, t'', os⟩ ∧ Own B' h'' ((C, NsP m) :: (D, ListP ys) :: l') ∧
          (env.locals, NsP mf) ∈ l' ∧ Put env.locals (NsP (updM mf y (some (.ref D)))) l' l2 ∧ ∀ h3 t3, Own B' h3 ((D, ListP ys) :: l2) → Q .next ⟨h3, g, dr, t3, os⟩) ⟨h', g, dr, t', os⟩) E s₁) E ⟨h, g, dr, tk, os⟩)
    (hy : env.kindOf y = some .local := by rfl) (hp : (env.scope.kind == .class || (env.scope.kind == .module && env.locals != env.globals)) = false := by rfl)
    (hcell : ∀ y ∈ scope.names, y.2 ≠ .cell := by decide) (hkind : scope.kind = .function := by rfl)
    (hnames : ∀ y ∈ scope.names, y.2 = .local → scope.names.lookup y.1 = some .local := by decide)
    (hs : ∀ x, foldedSetIterable iter env x = pure x := by intro _; rfl) :
    wpAny (model prog w) A (exec (.Assign [.Name y py] (.ListComp elt (⟨target, iter, ifs, 0⟩ :: rest) scope pos) spos) env) Q E ⟨h, g, dr, tk, os⟩ := by
  rw [exec_Assign_Name_used _ _ _ _ hsw]
  refine wpAny_bind (wpAny_standAt (wpAny_bind ?_))
  show wpAny _ A (do let _ ← comprehension (.ListComp elt (⟨target, iter, ifs, 0⟩ :: rest) scope pos) scope env _ (newList []) false (eval iter env) (some (assign (.Name y py) env))) _ _ _
  refine wpAny_bind (wpAny_mono (wpAny_comprehension_free (use := some (assign (.Name y py) env)) (Q := fun _ s' => Q .next s') rfl hs hclos hkind hnames (wpAny_mono k (fun xv s₁ h₁ => wpAny_mono h₁ (fun it s₂ h₂ => ?_) fun _ _ e => e) fun _ _ e => e))
    (fun _ s' hq => wpAny_pure (wpAny_pure hq)) fun _ _ e => e)
  obtain ⟨h, t, B, l, rfl, O, h₃⟩ := h₂
  refine wpAny_newObj_type (wpAny_newFunctionEnv hcell (by intro y hy; simp at hy) (fun h₁ hns₁ hsb₁ => ?_) hkind)
  dsimp only at hns₁ hsb₁ ⊢
  have O1 := O.push (P := ListP []) { cls := .type "list", dict := none, data := .seq ([] : List Value).toArray } ⟨_, rfl⟩
  have hsub : Sub (h.push { cls := .type "list", dict := none, data := .seq ([] : List Value).toArray }) h₁ := fun b o e => hsb₁.extBut b o (Nat.ne_of_lt (Heap.lt_size e)) (Heap.get?_push_of_some _ e)
  have O2 := O1.fresh hsub (get?_size _) (nsP_of hns₁)
  obtain ⟨hself, hloop⟩ := h₃ _ _ h₁ _ ((sub_push _ _).trans hsub) O2
  have key : codeAny (model prog w) A (.compLoop (.ListComp elt (⟨target, iter, ifs, 0⟩ :: rest) scope pos) 0 it (.ref h.objs.size) (compEnvC scope cl (h.push { cls := .type "list", dict := none, data := .seq ([] : List Value).toArray }).objs.size env))
      (compPost (model prog w) A E (some (assign (.Name y py) env)) (fun _ s' => Q .next s') (.ref h.objs.size) (h.push { cls := .type "list", dict := none, data := .seq ([] : List Value).toArray }).objs.size) ⟨h₁, g, dr, t + ([] : List (Str × Value)).length, os⟩ := by
    refine codeAny_mono hloop fun r s' z => ?_
    obtain ⟨rfl, h'', t'', m, ys, B', l', mf, l2, rfl, O3, hm, hput, hQ⟩ := z
    refine wpAny_assign_Name (wpAny_storeName_local hy (O3.ns (.tail _ (.tail _ hm))) (fun h4 hn4 hs4 => ?_) hp)
    have O4 := O3.putSame (Put.tail (Put.tail hput)) hs4 (nsP_of hn4)
    exact ⟨m, O4.ns (.head _), fun h3 hs3 => hQ h3 _ (O4.drop2 fun b o hb e => hs3.extBut b o hb e)⟩
  exact codeAny_compStart_list key (hself _ _ key)
end
end Mine
end

/- part MineCA -/
section
open PySem PyProof.Rows
namespace Mine
/-! ## passes over a row of words, in plain words -/
def lo2 (h x : W) : W := if x < h then x else h
def hi2 (h x : W) : W := if x < h then h else x
/-- the rest of a pass with a word in hand -/
def bubGo (g : Bool) : W → List W → List W
  | h, [] => [h]
  | h, x :: r => (if g then lo2 h x else hi2 h x) :: bubGo g (if g then hi2 h x else lo2 h x) r
def bub (g : Bool) : List W → List W
  | [] => []
  | h :: r => bubGo g h r
def ge (t : W) (x : W) : Bool := decide (¬ x < t)
theorem lo_ge (t h x : W) : ge t (lo2 h x) = (ge t h && ge t x) := by
  unfold lo2 ge
  by_cases hx : x < h
  · rw [if_pos hx]
    by_cases h1 : x < t
    · simp [h1]
    · have : ¬ h < t := fun z => h1 (List.lt_trans hx z)
      simp [h1, this]
  · rw [if_neg hx]
    by_cases h1 : h < t
    · simp [h1]
    · have : ¬ x < t := nlt_trans h1 hx
      simp [h1, this]
theorem hi_ge (t h x : W) : ge t (hi2 h x) = (ge t h || ge t x) := by
  unfold hi2 ge
  by_cases hx : x < h
  · rw [if_pos hx]
    by_cases h1 : h < t
    · have : x < t := List.lt_trans hx h1
      simp [h1, this]
    · simp [h1]
  · rw [if_neg hx]
    by_cases h1 : x < t
    · have : h < t := List.lt_of_le_of_lt hx h1
      simp [h1, this]
    · simp [h1]
theorem bubGo_bits (g : Bool) (t : W) : ∀ (r : List W) (h : W), (bubGo g h r).map (ge t) = ((h :: r).map (ge t) ++ [g]).erase g
  | [], h => by
    simp only [bubGo, List.map_cons, List.map_nil, List.cons_append, List.nil_append]
    cases ge t h <;> cases g <;> rfl
  | x :: r, h => by
    rw [bubGo, List.map_cons, bubGo_bits g t r]
    simp only [List.map_cons, List.cons_append]
    cases g with
    | true =>
      simp only [if_true, lo_ge, hi_ge]
      cases ge t h <;> cases ge t x <;> simp [List.erase_cons]
    | false =>
      simp only [Bool.false_eq_true, if_false, lo_ge, hi_ge]
      cases ge t h <;> cases ge t x <;> simp [List.erase_cons]
theorem bub_bits (g : Bool) (t : W) (ws : List W) : (bub g ws).map (ge t) = (ws.map (ge t) ++ [g]).erase g := by
  cases ws with
  | nil => simp [bub]
  | cons h r => exact bubGo_bits g t r h
theorem bubGo_len (g : Bool) : ∀ (r : List W) (h : W), (bubGo g h r).length = r.length + 1
  | [], h => rfl
  | x :: r, h => by rw [bubGo, List.length_cons, bubGo_len g r, List.length_cons]
theorem bub_len (g : Bool) (ws : List W) : (bub g ws).length = ws.length := by
  cases ws with
  | nil => rfl
  | cons h r => exact bubGo_len g r h
theorem two_mem (g : Bool) (h x : W) : (if g then lo2 h x else hi2 h x) ∈ [h, x] ∧ (if g then hi2 h x else lo2 h x) ∈ [h, x] := by
  unfold lo2 hi2
  cases g <;> by_cases q : x < h <;> simp [q]
theorem bubGo_mem (g : Bool) : ∀ (r : List W) (h : W), ∀ y ∈ bubGo g h r, y ∈ h :: r
  | [], h => fun y hy => hy
  | x :: r, h => by
    obtain ⟨h1, h2⟩ := two_mem g h x
    intro y hy
    rw [bubGo] at hy
    have key : ∀ z, z ∈ [h, x] → z ∈ h :: x :: r := fun z hz => by
      rcases List.mem_cons.mp hz with rfl | hz
      · exact .head _
      · rw [List.mem_singleton.mp hz]; exact .tail _ (.head _)
    rcases List.mem_cons.mp hy with rfl | hy
    · exact key _ h1
    · rcases List.mem_cons.mp (bubGo_mem g r _ y hy) with rfl | hy
      · exact key _ h2
      · exact .tail _ (.tail _ hy)
theorem bub_mem (g : Bool) (ws : List W) : ∀ y ∈ bub g ws, y ∈ ws := by
  cases ws with
  | nil => exact fun y hy => hy
  | cons h r => exact bubGo_mem g r h
/-- what the law strikes -/
def leftT : Nat → Nat → List Bool → List Bool
  | _, _, [] => []
  | g, l, b :: r => if b = true ∧ 0 < g then leftT (g - 1) l r else if b = false ∧ 0 < l then leftT g (l - 1) r else b :: leftT g l r
theorem leftT_none : ∀ L : List Bool, leftT 0 0 L = L
  | [] => rfl
  | b :: r => by rw [leftT, if_neg (by (first | assumption | decide | exact Nat.le_trans (by assumption) (by decide) | exact Nat.sub_succ_lt_self _ _ (by assumption) | exact Nat.succ_le_of_lt (by assumption) | exact Nat.le_of_lt (by assumption) | lia | omega)), if_neg (by (first | assumption | decide | exact Nat.le_trans (by assumption) (by decide) | exact Nat.sub_succ_lt_self _ _ (by assumption) | exact Nat.succ_le_of_lt (by assumption) | exact Nat.le_of_lt (by assumption) | lia | omega)), leftT_none r]
theorem leftT_tt (g l : Nat) (r : List Bool) : leftT (g + 1) l (true :: r) = leftT g l r := by simp [leftT]
theorem leftT_t0 (l : Nat) (r : List Bool) : leftT 0 l (true :: r) = true :: leftT 0 l r := by simp [leftT]
theorem leftT_ff (g l : Nat) (r : List Bool) : leftT g (l + 1) (false :: r) = leftT g l r := by simp [leftT]
theorem leftT_f0 (g : Nat) (r : List Bool) : leftT g 0 (false :: r) = false :: leftT g 0 r := by simp [leftT]
theorem leftT_true : ∀ (L : List Bool) (g l : Nat), true ∈ L → leftT (g + 1) l L = leftT g l (L.erase true)
  | [], g, l, h => nomatch h
  | true :: r, g, l, h => by rw [leftT_tt]; simp
  | false :: r, g, l, h => by
    have hr : true ∈ r := by simpa using h
    rw [show (false :: r).erase true = false :: r.erase true from by simp]
    cases l with
    | zero => rw [leftT_f0, leftT_f0, leftT_true r g 0 hr]
    | succ l => rw [leftT_ff, leftT_ff, leftT_true r g l hr]
theorem leftT_false : ∀ (L : List Bool) (g l : Nat), false ∈ L → leftT g (l + 1) L = leftT g l (L.erase false)
  | [], g, l, h => nomatch h
  | false :: r, g, l, h => by rw [leftT_ff]; simp
  | true :: r, g, l, h => by
    have hr : false ∈ r := by simpa using h
    rw [show (true :: r).erase false = true :: r.erase false from by simp]
    cases g with
    | zero => rw [leftT_t0, leftT_t0, leftT_false r 0 l hr]
    | succ g => rw [leftT_tt, leftT_tt, leftT_false r g l hr]
def passes (ws : List W) (ms : List Bool) : List W := ms.foldl (fun ws m => bub m ws) ws
theorem passes_bits (t : W) : ∀ (ms : List Bool) (ws : List W), (passes ws ms).map (ge t) = leftT (ms.count true) (ms.count false) (ws.map (ge t) ++ ms)
  | [], ws => by rw [List.append_nil]; simp only [List.count_nil]; rw [leftT_none]; rfl
  | m :: ms, ws => by
    have h1 : (passes ws (m :: ms)).map (ge t) = (passes (bub m ws) ms).map (ge t) := rfl
    rw [h1, passes_bits t ms, bub_bits]
    have hm : m ∈ ws.map (ge t) ++ [m] := by simp
    have e : (ws.map (ge t) ++ m :: ms) = (ws.map (ge t) ++ [m]) ++ ms := by simp
    rw [e, ← List.erase_append_left _ hm]
    cases m with
    | true =>
      rw [List.count_cons_self, List.count_cons_of_ne (by simp), leftT_true _ _ _ (by simp)]
    | false =>
      rw [List.count_cons_self, List.count_cons_of_ne (by simp), leftT_false _ _ _ (by simp)]
theorem passes_mem : ∀ (ms : List Bool) (ws : List W), ∀ y ∈ passes ws ms, y ∈ ws
  | [], ws => fun y hy => hy
  | m :: ms, ws => fun y hy => bub_mem m ws y (passes_mem ms (bub m ws) y hy)
theorem passes_len : ∀ (ms : List Bool) (ws : List W), (passes ws ms).length = ws.length
  | [], ws => rfl
  | m :: ms, ws => (passes_len ms (bub m ws)).trans (bub_len m ws)
/-- the law's own table -/
def markT (ws : List W) (ms : List Bool) (t : W) : List Bool := leftT (ms.count true) (ms.count false) (ws.map (ge t) ++ ms)
def dueAt (ws : List W) (ms : List Bool) (ts : List W) (j : Nat) : Option W := (ts.filter fun t => (markT ws ms t)[j]? == some true).getLast?
theorem dueAt_snoc (ws : List W) (ms : List Bool) (ts : List W) (t : W) (j : Nat) : dueAt ws ms (ts ++ [t]) j = if (markT ws ms t)[j]? = some true then some t else dueAt ws ms ts j := by
  unfold dueAt
  rw [List.filter_append]
  by_cases h : (markT ws ms t)[j]? = some true
  · rw [if_pos h]; simp [h]
  · rw [if_neg h]; simp [h]
theorem mark_len (ws : List W) (ms : List Bool) (t : W) : (markT ws ms t).length = ws.length := by
  unfold markT
  rw [← passes_bits, List.length_map, passes_len]
theorem last_of2 {l : List W} (hs : l.Pairwise fun a b => ¬ b < a) {c : W} (hc : c ∈ l) (hall : ∀ t ∈ l, ¬ c < t) : l.getLast? = some c := by
  have hne : l ≠ [] := List.ne_nil_of_mem hc
  rw [List.getLast?_eq_some_getLast hne]
  have h1 : ¬ c < l.getLast hne := hall _ (List.getLast_mem hne)
  have h2 : ¬ l.getLast hne < c := by
    obtain ⟨ys, hys⟩ : ∃ ys, l = ys ++ [l.getLast hne] := ⟨l.dropLast, (List.dropLast_concat_getLast hne).symm⟩
    rw [hys] at hc hs
    rcases List.mem_append.mp hc with hc | hc
    · exact (List.pairwise_append.mp hs).2.2 _ hc _ (.head _)
    · rw [List.mem_singleton.mp hc]; exact nlt_irr _
  rw [eq_of_nlt h2 h1]
/-- the law's table is what the passes leave -/
theorem due_passes {ws ts : List W} {ms : List Bool} (hs : ts.Pairwise fun a b => ¬ b < a) (ht : ∀ y, y ∈ ts ↔ y ∈ ws) {j : Nat} {c : W} (hj : (passes ws ms)[j]? = some c) : dueAt ws ms ts j = some c := by
  have hb : ∀ t, (markT ws ms t)[j]? = some (ge t c) := fun t => by
    unfold markT
    rw [← passes_bits, List.getElem?_map, hj]; rfl
  unfold dueAt
  refine last_of2 (hs.filter _) (List.mem_filter.mpr ⟨(ht c).mpr (passes_mem ms ws c (List.mem_of_getElem? hj)), ?_⟩) fun t hq => ?_
  · rw [hb]; simp [ge, nlt_irr]
  · have := (List.mem_filter.mp hq).2
    rw [hb] at this
    simpa [ge] using this
end Mine
end

section
open PySem PySem.Spec PySem.W PyProof.Rows PySem.Calls Mine
local macro_rules | `(tactic| walk_at "mem") => `(tactic| (first | exact List.Mem.head _ | (refine List.Mem.tail _ ?_; walk_at "mem")))
local macro_rules | `(tactic| walk_at "put") => `(tactic| (first | exact Put.head | (apply Put.tail; walk_at "put")))
local macro_rules | `(tactic| walk_at "lk") => `(tactic| (first | exact rfl | assumption))
local macro_rules | `(tactic| walk_at "w") => `(tactic| first
  | ((with_reducible show wpAny _ _ (execs (_ :: _) _) _ _ _); (refine execs_consL ?_); intro _ _)
  | ((with_reducible show wpAny _ _ (execs [] _) _ _ _); refine wpAny_execs_nil ?_)
  | ((with_reducible show wpAny _ _ (eval (PySem.Expr.Name _ _) _) _ _ _); refine r_local (by assumption) (by walk_at "mem") (by walk_at "lk") ?_)
  | ((with_reducible show wpAny _ _ (eval (PySem.Expr.Name _ _) _) _ _ _); refine r_builtin (by assumption) (by assumption) (by kernel_rfl) (by boot_by_name) ?_)
  | ((with_reducible show wpAny _ _ (loadName _ _) _ _ _); refine r_localN (by assumption) (by walk_at "mem") (by walk_at "lk") ?_)
  | ((with_reducible show wpAny _ _ (eval (PySem.Expr.Constant (PySem.Const.int _) _ _) _) _ _ _); (refine x_cint ?_); intro _ _)
  | ((with_reducible show wpAny _ _ (eval (PySem.Expr.Constant (PySem.Const.str _) _ _) _) _ _ _); (refine x_cstr ?_); intro _ _)
  | ((with_reducible show wpAny _ _ (eval (PySem.Expr.Constant _ _ _) _) _ _ _); refine wpAny_pure ?_)
  | ((with_reducible show wpAny _ _ (storeName _ _ _) _ _ _); (refine x_store (by assumption) (by walk_at "mem") (by walk_at "put") ?_); intro _ _ _)
  | ((with_reducible show wpAny _ _ (assign (PySem.Expr.Name _ _) _ _) _ _ _); refine wpAny_bind (wpAny_standAt (wpAny_bindName ?_)))
  | ((with_reducible show wpAny _ _ (letOwnedTupleGo (PySem.Expr.Name _ _) _ _) _ _ _); refine wpAny_pure ?_)
  | ((with_reducible show wpAny _ _ (exec (PySem.Stmt.Assign [PySem.Expr.Name _ _] _ _) _) _ _ _); refine wpAny_Assign_Name ?_)
  | ((with_reducible show wpAny _ _ (exec (PySem.Stmt.Assign [PySem.Expr.Tuple _ _ _] _ _) _) _ _ _); refine Assign_Tuple ?_)
  | ((with_reducible show wpAny _ _ (exec (PySem.Stmt.Assign [PySem.Expr.Attribute _ _ _] _ _) _) _ _ _); refine plainObj_wpAny_Assign_Attribute ?_)
  | ((with_reducible show wpAny _ _ (exec (PySem.Stmt.Assign [PySem.Expr.Subscript _ _ _] _ _) _) _ _ _); refine wpAny_Assign_Subscript ?_)
  | ((with_reducible show wpAny _ _ (exec (PySem.Stmt.AugAssign (PySem.Expr.Name _ _) _ _ _) _) _ _ _); refine wpAny_AugAssign_Name ?_)
  | ((with_reducible show wpAny _ _ (exec (PySem.Stmt.AugAssign (PySem.Expr.Attribute _ _ _) _ _ _) _) _ _ _); refine wpAny_AugAssign_AttributeAny ?_)
  | ((with_reducible show wpAny _ _ (exec (PySem.Stmt.AugAssign (PySem.Expr.Subscript _ _ _) _ _ _) _) _ _ _); refine wpAny_AugAssign_SubscriptAny ?_)
  | ((with_reducible show wpAny _ _ (exec (PySem.Stmt.If _ _ _ _) _) _ _ _); refine wpAny_If ?_)
  | ((with_reducible show wpAny _ _ (exec (PySem.Stmt.Return (some _) _) _) _ _ _); refine wpAny_Return_some ?_)
  | ((with_reducible show wpAny _ _ (exec (PySem.Stmt.Expr _ _) _) _ _ _); refine wpAny_Expr ?_)
  | ((with_reducible show wpAny _ _ (exec (PySem.Stmt.For _ _ _ _ _) _) _ _ _); refine wpAny_For ?_)
  | ((with_reducible show wpAny _ _ (exec (PySem.Stmt.While _ _ _ _) _) _ _ _); refine wpAny_While ?_)
  | ((with_reducible show wpAny _ _ (exec (PySem.Stmt.Continue _) _) _ _ _); refine wpAny_Continue ?_)
  | ((with_reducible show wpAny _ _ (PySem.isTrue (PySem.Expr.Compare _ [_] [_] _) _ _) _ _ _); refine wpAny_isTrue_Compare1 ?_)
  | ((with_reducible show wpAny _ _ (PySem.isTrue (PySem.Expr.UnaryOp PySem.UnaryOp.Not _ _) _ _) _ _ _); refine isTrue_not ?_)
  | ((with_reducible show wpAny _ _ (PySem.isTrue (PySem.Expr.BoolOp PySem.BoolOp.And [] _) _ _) _ _ _); refine isTrue_and_nil ?_)
  | ((with_reducible show wpAny _ _ (PySem.isTrue (PySem.Expr.BoolOp PySem.BoolOp.Or [] _) _ _) _ _ _); refine isTrue_or_nil ?_)
  | ((with_reducible show wpAny _ _ (PySem.isTrue (PySem.Expr.BoolOp PySem.BoolOp.And (_ :: _) _) _ _) _ _ _); refine isTrue_and ?_)
  | ((with_reducible show wpAny _ _ (PySem.isTrue (PySem.Expr.BoolOp PySem.BoolOp.Or (_ :: _) _) _ _) _ _ _); refine isTrue_or ?_)
  | ((with_reducible show wpAny _ _ (PySem.isTrue _ _ _) _ _ _); refine isTrue_plain ?_)
  | ((with_reducible show wpAny _ _ (truthy (Value.bool _)) _ _ _); refine wpAny_pure ?_)
  | ((with_reducible show wpAny _ _ (truthy Value.none) _ _ _); refine wpAny_pure ?_)
  | ((with_reducible show wpAny _ _ (eval (PySem.Expr.Compare _ [_] [_] _) _) _ _ _); refine wpAny_Compare1 ?_)
  | ((with_reducible show wpAny _ _ (eval (PySem.Expr.BinOp _ _ _ _) _) _ _ _); refine wpAny_BinOp ?_)
  | ((with_reducible show wpAny _ _ (eval (PySem.Expr.UnaryOp _ _ _) _) _ _ _); refine UnaryOp_ ?_)
  | ((with_reducible show wpAny _ _ (eval (PySem.Expr.IfExp _ _ _ _) _) _ _ _); refine IfExp_ ?_)
  | ((with_reducible show wpAny _ _ (eval (PySem.Expr.BoolOp PySem.BoolOp.And (_ :: _ :: _) _) _) _ _ _); refine BoolOp_and ?_)
  | ((with_reducible show wpAny _ _ (eval (PySem.Expr.BoolOp PySem.BoolOp.Or (_ :: _ :: _) _) _) _ _ _); refine BoolOp_or ?_)
  | ((with_reducible show wpAny _ _ (eval (PySem.Expr.BoolOp _ [_] _) _) _ _ _); refine BoolOp_one ?_)
  | ((with_reducible show wpAny _ _ (eval (PySem.Expr.Call (PySem.Expr.Attribute _ _ _) _ _ _) _) _ _ _); refine MethodCall_ ?_)
  | ((with_reducible show wpAny _ _ (eval (PySem.Expr.Call _ _ _ _) _) _ _ _); refine Call_ ?_)
  | ((with_reducible show wpAny _ _ (eval (PySem.Expr.Attribute (PySem.Expr.Name _ _) _ _) _) _ _ _); refine Attribute_Name_ ?_)
  | ((with_reducible show wpAny _ _ (eval (PySem.Expr.Subscript _ _ _) _) _ _ _); refine Subscript_ ?_)
  | ((with_reducible show wpAny _ _ (eval (PySem.Expr.Slice _ _ _ _) _) _ _ _); refine wpAny_Slice ?_)
  | ((with_reducible show wpAny _ _ (eval (PySem.Expr.Tuple _ _ _) _) _ _ _); refine Tuple_ ?_)
  | ((with_reducible show wpAny _ _ (eval (PySem.Expr.List _ _) _) _ _ _); refine List_ ?_)
  | ((with_reducible show wpAny _ _ (evalPart (some _) _) _ _ _); refine evalPart_some_step ?_)
  | ((with_reducible show wpAny _ _ (evalPart none _) _ _ _); refine wpAny_pure ?_)
  | ((with_reducible show wpAny _ _ (spliced (backTo _ (starEach (_ :: _) _))) _ _ _); refine spliced_more ?_)
  | ((with_reducible show wpAny _ _ (spliced (backTo _ (starEach [] _))) _ _ _); refine spliced_none ?_)
  | ((with_reducible show wpAny _ _ (newList _) _ _ _); (refine x_list (by assumption) ?_); intro _ _ _ _)
  | ((with_reducible show wpAny _ _ (newTuple _) _ _ _); (refine x_tuple (by assumption) ?_); intro _ _ _ _)
  | ((with_reducible show wpAny _ _ (binaryOp PySem.Operator.Add (Value.int _ _) (Value.int _ _)) _ _ _); (refine x_addI ?_); intro _ _)
  | ((with_reducible show wpAny _ _ (inplaceOp PySem.Operator.Add (Value.int _ _) (Value.int _ _)) _ _ _); (refine x_iaddI ?_); intro _ _)
  | ((with_reducible show wpAny _ _ (binaryOp PySem.Operator.Sub (Value.int _ _) (Value.int _ _)) _ _ _); (refine x_subI ?_); intro _ _)
  | ((with_reducible show wpAny _ _ (binaryOp PySem.Operator.Mod (Value.int _ _) (Value.int _ _)) _ _ _); (refine x_modI (by decide) ?_); intro _ _)
  | ((with_reducible show wpAny _ _ (binaryOp PySem.Operator.FloorDiv (Value.int _ _) (Value.int _ _)) _ _ _); (refine x_fdivI (by decide) (by decide) ?_); intro _ _)
  | ((with_reducible show wpAny _ _ (compareOp PySem.CmpOp.Eq (Value.str _ _) (Value.str _ _)) _ _ _); refine eq_str ?_)
  | ((with_reducible show wpAny _ _ (compareOp PySem.CmpOp.Lt (Value.int _ _) (Value.int _ _)) _ _ _); refine P.lt_int ?_)
  | ((with_reducible show wpAny _ _ (compareOp PySem.CmpOp.Gt (Value.int _ _) (Value.int _ _)) _ _ _); refine P.gt_int ?_)
  | ((with_reducible show wpAny _ _ (compareOp PySem.CmpOp.Eq (Value.int _ _) (Value.int _ _)) _ _ _); refine P.eq_int ?_)
  | ((with_reducible show wpAny _ _ (compareOp PySem.CmpOp.NotEq (Value.str _ _) (Value.str _ _)) _ _ _); refine P.ne_str ?_)
  | ((with_reducible show wpAny _ _ (assignInOrder _ (_ :: _)) _ _ _); refine assignInOrder_cons ?_)
  | ((with_reducible show wpAny _ _ (assignInOrder _ []) _ _ _); refine assignInOrder_nil ?_)
  | ((with_reducible show wpAny _ _ (callWith _ (Value.builtin _) [] (backTo _ (starEach (_ :: _) _)) []) _ _ _); refine PyProof.Rows.callWith_builtin1 ?_)
  | ((with_reducible show wpAny _ _ (callWith _ (Value.builtin _) _ (backTo _ (starEach (_ :: _) _)) []) _ _ _); refine callWith_method1 ?_)
  | ((with_reducible show wpAny _ _ (callWith _ (Value.builtin _) _ (backTo _ (starEach [] _)) []) _ _ _); refine callWith_method0 ?_)
  | ((with_reducible show wpAny _ _ (callWith _ (Value.type _) [] (backTo _ (starEach (_ :: _) _)) []) _ _ _); refine PyProof.Rows.callWith_type1 ?_))
local macro_rules | `(tactic| walk_at "ws") => `(tactic| repeat (walk_at "w"))
local macro_rules | `(tactic| walk_at "wsT") => `(tactic| repeat ((fail_if_success (with_reducible show wpAny _ _ (PySem.isTrue (PySem.Expr.BoolOp _ _ _) _ _) _ _ _)); walk_at "w"))
local macro_rules | `(tactic| walk_at "lt") => `(tactic| try (refine wpAny_let ?_; intro _ _))

/- part AltTwoF -/
section
open PySem PySem.W PyProof.Rows PySem.Calls
set_option Elab.async false
set_option maxRecDepth 100000
set_option maxHeartbeats 4000000
namespace Mine


/-! ## facts of the written part -/
theorem c_plain (P : Params) (n : Str) : plainGet (KH P) 52 n = true := by kernel_rfl
theorem c_dict (P : Params) : hasDictIn (KH P) 52 = true := by kernel_rfl
theorem c_lineno (P : Params) : findIn (KH P) (.ref 52) "lineno" = some none := by kernel_rfl
theorem c_instream (P : Params) : findIn (KH P) (.ref 52) "instream" = some none := by kernel_rfl
theorem c_whitespace (P : Params) : findIn (KH P) (.ref 52) "whitespace" = some none := by kernel_rfl
theorem c_pushback (P : Params) : findIn (KH P) (.ref 52) "pushback" = some none := by kernel_rfl
theorem c_readchar (P : Params) : findIn (KH P) (.ref 52) "_read_char" = some (some (.ref 35)) := by kernel_rfl
theorem c_sa (P : Params) : findIn (KH P) (.ref 52) "__setattr__" = some (some (.builtin "object.__setattr__")) := by kernel_rfl
theorem c_over (P : Params) : plainOver (KH P) 52 = true := by kernel_rfl
theorem c_tk_lineno (P : Params) : takerIn (KH P) 52 "lineno" = some none := by kernel_rfl
theorem t_readchar (P : Params) : typeIn (KH P) (.ref 35) = some (.type "function") := by kernel_rfl

/-! ## the stream, the lexer -/
def PlaceP (p : Nat) : Obj → Prop := fun o => ∃ t, ListP [.int (p : Int) t] o

structure LexM (ln : Int) (fs pb : Addr) (m : Str → Option Value) : Prop where
  lineno : ∃ t, m "lineno" = some (.int ln t)
  instream : m "instream" = some (.ref fs)
  whitespace : ∃ t, m "whitespace" = some (.str "\n\t\r " t)
  pushback : m "pushback" = some (.ref pb)
  n1 : m "_read_char" = none
  n2 : m "get_token" = none
  n3 : m "push_token" = none
def LexP (ln : Int) (fs pb : Addr) : Obj → Prop := fun o => ∃ m, LexM ln fs pb m ∧ NsZ 4 m o

/-- what `read(1)` does, and where the stream stands -/
structure Strm (prog : Program) (w : World) (B : Heap) (fs fr pl : Addr) (cs : List Nat) : Prop where
  fn : ∃ o d od md, B.get? fs = some o ∧ o.cls = .type "function" ∧ o.dict = some d ∧ (∃ fd, o.data = .func fd) ∧ B.get? d = some od ∧ NsP md od ∧ md "read" = some (.ref fr)
  rd : ∃ o fd, B.get? fr = some o ∧ o.data = .func fd
  read : ∀ (A : Around) (E : Value → Shared → Prop) (h : Heap) (g : Array GenState) (dr : Drawn) (tk : Nat) (os : OsState) (B' : Heap) (pre post : List Ent) (p : Nat) (t1 : Tok) (Q : Value → Shared → Prop), Ar A 2 → Sub B B' →
    Own B' h (pre ++ (pl, PlaceP p) :: post) → p ≤ cs.length →
    (∀ h' t' u, Own B' h' (pre ++ (pl, PlaceP (min (p + 1) cs.length)) :: post) → Q (.str ⟨((cs.drop p).take 1).toArray⟩ u) ⟨h', g, dr, t', os⟩) →
    wpAny (model prog w) A (call (.ref fr) [.int 1 t1]) Q E ⟨h, g, dr, tk, os⟩

section
variable {prog : Program} {w : World} {A : Around} {E : Value → Shared → Prop} {h : Heap} {g : Array GenState} {dr : Drawn} {tk : Nat} {os : OsState} {B : Heap} {p : Program} {loose : List Str} {mg mb : Str → Option Value}
  {x d pb pl fs fr : Addr} {cs : List Nat} {ln : Int} {q : Nat} {e2 : Ent} {R : List Ent}

theorem LexM.bump {ln ln' : Int} {fs pb : Addr} {m : Str → Option Value} {t : Tok} (h : LexM ln fs pb m) : LexM ln' fs pb (fun y => if y = "lineno" then some (.int ln' t) else m y) :=
  ⟨⟨t, rfl⟩, h.instream, h.whitespace, h.pushback, h.n1, h.n2, h.n3⟩

theorem read_char {R' : Result → Shared → Prop} (G : Gr (KH w.params) p loose mg mb B) (S : Strm prog w B fs fr pl cs) (hA : Ar A 4) (hx : B.get? x = some ⟨.ref 52, some d, .plain, #[]⟩)
    (O : Own B h ((d, LexP ln fs pb) :: e2 :: (pl, PlaceP q) :: R)) (hq : q ≤ cs.length)
    (k : ∀ h' t' u, Own B h' ((d, LexP (ln + if cs[q]? = some 10 then 1 else 0) fs pb) :: e2 :: (pl, PlaceP (min (q + 1) cs.length)) :: R) → R' (.ok (.ret (.str ⟨((cs.drop q).take 1).toArray⟩ u))) ⟨h', g, dr, t', os⟩) :
    codeAny (model prog w) A (.call (.ref 35) ⟨[.ref x], []⟩) R' ⟨h, g, dr, tk, os⟩ := by
  obtain ⟨m, hm, O⟩ := O.open1
  obtain ⟨t0, hl⟩ := hm.lineno
  obtain ⟨o, dd, od, md, f1, f2, f3, f4, f5, f6, f7⟩ := S.fn
  obtain ⟨o', fd', g1, g2⟩ := S.rd
  refine x_enterK (pre := [_, _, _]) G O rfl (by kernel_rfl) hA.room rfl (locs rfl) ?_
  intro L h₁ t1 O
  dsimp only [List.cons_append, List.nil_append] at O
  walk_at "lt"
  walk_at "ws"
  refine x_getattr O G hx (by walk_at "mem") hm.instream (c_plain _ _) (c_dict _) (c_instream _) rfl ?_
  intro t1
  refine method_fnAttr (O.keep _ _ f1) f2 f3 f4 (O.keep _ _ f5) f6 f7 rfl ?_
  refine r_callWith g2 g1 ?_
  walk_at "ws"
  refine ⟨O.keep, ?_⟩
  refine S.read _ _ _ _ _ _ _ B [_, _] (_ :: R) q _ _ (hA.deeper _ |>.le (by (first | assumption | decide | exact Nat.le_trans (by assumption) (by decide) | exact Nat.sub_succ_lt_self _ _ (by assumption) | exact Nat.succ_le_of_lt (by assumption) | exact Nat.le_of_lt (by assumption) | lia | omega))) (Sub.refl B) O hq ?_
  intro h2 t2 tk2 O
  dsimp only [List.cons_append, List.nil_append] at O
  walk_at "ws"
  refine br (take1_eq cs q 10) (fun hc => ?_) (fun hc => ?_)
  · walk_at "ws"
    refine x_getattr (by assumption) G hx (by walk_at "mem") hl (c_plain _ _) (c_dict _) (c_lineno _) rfl ?_
    intro t1
    walk_at "ws"
    refine x_setattr (n := 4) (n' := 4) (by assumption) G hx (by walk_at "mem") (by rw [hl]; rfl) Put.head (by (first | assumption | decide | exact Nat.le_trans (by assumption) (by decide) | exact Nat.sub_succ_lt_self _ _ (by assumption) | exact Nat.succ_le_of_lt (by assumption) | exact Nat.le_of_lt (by assumption) | lia | omega)) (c_sa _) (c_over _) (c_tk_lineno _) (c_dict _) ?_
    intro h3 t3 O
    walk_at "ws"
    refine k _ _ _ ?_
    rw [if_pos hc]
    exact (O.cut [_, _, _]).weak fun o ho => ⟨_, hm.bump, ho⟩
  · walk_at "ws"
    rename Own _ _ _ => O
    refine k _ _ _ ?_
    rw [if_neg hc, Int.add_zero]
    exact (O.cut [_, _, _]).weak fun o ho => ⟨_, hm, ho⟩
end
end Mine
end

/- part AltTwoG -/
section
open PySem PySem.W PyProof.Rows PySem.Calls
set_option Elab.async false
set_option maxRecDepth 100000
set_option maxHeartbeats 4000000
namespace Mine


def lnAt (cs : List Nat) (q : Nat) : Int := 1 + (((cs.take q).count 10 : Nat) : Int)
theorem lnAt_step (cs : List Nat) (q : Nat) (hq : q ≤ cs.length) : lnAt cs q + (if cs[q]? = some 10 then 1 else 0) = lnAt cs (min (q + 1) cs.length) := by
  unfold lnAt
  by_cases h : q < cs.length
  · rw [Nat.min_eq_left (by (first | assumption | decide | exact Nat.le_trans (by assumption) (by decide) | exact Nat.sub_succ_lt_self _ _ (by assumption) | exact Nat.succ_le_of_lt (by assumption) | exact Nat.le_of_lt (by assumption) | lia | omega)), List.take_add_one, List.count_append, List.getElem?_eq_getElem h]
    by_cases hc : cs[q] = 10
    · simp [hc]; (first | assumption | decide | exact Nat.le_trans (by assumption) (by decide) | exact Nat.sub_succ_lt_self _ _ (by assumption) | exact Nat.succ_le_of_lt (by assumption) | exact Nat.le_of_lt (by assumption) | lia | omega)
    · simp [hc]
  · have : q = cs.length := by (first | assumption | decide | exact Nat.le_trans (by assumption) (by decide) | exact Nat.sub_succ_lt_self _ _ (by assumption) | exact Nat.succ_le_of_lt (by assumption) | exact Nat.le_of_lt (by assumption) | lia | omega)
    subst this
    simp

theorem f_rc (P : Params) : ∃ o fd, (KH P).lookup 35 = some o ∧ o.data = .func fd := fn_of (by kernel_rfl)
theorem c_gettoken (P : Params) : findIn (KH P) (.ref 52) "get_token" = some (some (.ref 42)) := by kernel_rfl
theorem i_readchar (P : Params) : isFn (KH P) (.ref 35) = true := by kernel_rfl
theorem s_readchar (P : Params) : specialIn (KH P) (.ref 35) "__get__" = some (some (.builtin "function.__get__")) := by kernel_rfl
theorem k_readchar (P : Params) : takesIn (KH P) (.ref 35) = some false := by kernel_rfl
theorem g_iter (P : Params) : nsIn (KH P) mainGlobals "iter" = some none := by kernel_rfl

section
variable {prog : Program} {w : World} {A : Around} {E : Value → Shared → Prop} {h : Heap} {g : Array GenState} {dr : Drawn} {tk : Nat} {os : OsState} {B : Heap} {p : Program} {loose : List Str} {mg mb : Str → Option Value}
  {x d pb pl fs fr it bm : Addr} {cs : List Nat} {ln : Int} {q : Nat} {e2 : Ent} {R : List Ent} {u : Tok}

theorem read_char' {R' : Result → Shared → Prop} (G : Gr (KH w.params) p loose mg mb B) (S : Strm prog w B fs fr pl cs) (hA : Ar A 4) (hx : B.get? x = some ⟨.ref 52, some d, .plain, #[]⟩)
    (O : Own B h ((d, LexP (lnAt cs q) fs pb) :: e2 :: (pl, PlaceP q) :: R)) (hq : q ≤ cs.length)
    (k1 : ∀ c, cs[q]? = some c → ∀ h' t' u, Own B h' ((d, LexP (lnAt cs (q + 1)) fs pb) :: e2 :: (pl, PlaceP (q + 1)) :: R) → R' (.ok (.ret (.str (one c) u))) ⟨h', g, dr, t', os⟩)
    (k2 : q = cs.length → ∀ h' t' u, Own B h' ((d, LexP (lnAt cs q) fs pb) :: e2 :: (pl, PlaceP q) :: R) → R' (.ok (.ret (.str (Str.ofString "") u))) ⟨h', g, dr, t', os⟩) :
    codeAny (model prog w) A (.call (.ref 35) ⟨[.ref x], []⟩) R' ⟨h, g, dr, tk, os⟩ := by
  refine read_char G S hA hx O hq fun h' t' tk O' => ?_
  rw [lnAt_step cs q hq] at O'
  by_cases hlt : q < cs.length
  · rw [Nat.min_eq_left (by (first | assumption | decide | exact Nat.le_trans (by assumption) (by decide) | exact Nat.sub_succ_lt_self _ _ (by assumption) | exact Nat.succ_le_of_lt (by assumption) | exact Nat.le_of_lt (by assumption) | lia | omega))] at O'
    have e : (cs.drop q).take 1 = [cs[q]] := by rw [List.drop_eq_getElem_cons hlt]; rfl
    rw [e]
    exact k1 cs[q] (by simp [hlt]) h' t' tk O'
  · have : q = cs.length := by (first | assumption | decide | exact Nat.le_trans (by assumption) (by decide) | exact Nat.sub_succ_lt_self _ _ (by assumption) | exact Nat.succ_le_of_lt (by assumption) | exact Nat.le_of_lt (by assumption) | lia | omega)
    rw [Nat.min_eq_right (by (first | assumption | decide | exact Nat.le_trans (by assumption) (by decide) | exact Nat.sub_succ_lt_self _ _ (by assumption) | exact Nat.succ_le_of_lt (by assumption) | exact Nat.le_of_lt (by assumption) | lia | omega))] at O'
    rw [List.drop_of_length_le (by (first | assumption | decide | exact Nat.le_trans (by assumption) (by decide) | exact Nat.sub_succ_lt_self _ _ (by assumption) | exact Nat.succ_le_of_lt (by assumption) | exact Nat.le_of_lt (by assumption) | lia | omega))]
    exact k2 this h' t' tk (this ▸ O')

theorem next_char {Q : Option Value → Shared → Prop} (G : Gr (KH w.params) p loose mg mb B) (S : Strm prog w B fs fr pl cs) (hA : Ar A 5) (hx : B.get? x = some ⟨.ref 52, some d, .plain, #[]⟩)
    (O : Own B h ((d, LexP (lnAt cs q) fs pb) :: e2 :: (pl, PlaceP q) :: (it, EqP (citObj (.ref bm) (.str (Str.ofString "") u))) :: (bm, EqP (methodObj (.ref 35) (.ref x))) :: R)) (hq : q ≤ cs.length)
    (k1 : ∀ c, cs[q]? = some c → ∀ h' t' u', Own B h' ((d, LexP (lnAt cs (q + 1)) fs pb) :: e2 :: (pl, PlaceP (q + 1)) :: (it, EqP (citObj (.ref bm) (.str (Str.ofString "") u))) :: (bm, EqP (methodObj (.ref 35) (.ref x))) :: R) → Q (some (.str (one c) u')) ⟨h', g, dr, t', os⟩)
    (k2 : q = cs.length → ∀ h' t', Own B h' ((d, LexP (lnAt cs q) fs pb) :: e2 :: (pl, PlaceP q) :: (it, EqP citEnd) :: (bm, EqP (methodObj (.ref 35) (.ref x))) :: R) → Q none ⟨h', g, dr, t', os⟩) :
    wpAny (model prog w) A (pyNext (.ref it)) Q E ⟨h, g, dr, tk, os⟩ := by
  obtain ⟨o, fd, f1, f2⟩ := f_rc w.params
  have f1 := G.X _ _ f1
  refine pyNext_cit hA.handled (O.eq (by walk_at "mem")) (O.eq (by walk_at "mem")) (O.keep _ _ f1) f2 (read_char' G S hA.in1 hx O hq (fun c hc h' t' tk O' => ?_) (fun hc h' t' tk O' => ?_))
  · exact ⟨_, _, rfl, O'.eq (by walk_at "mem"), O'.eq (by walk_at "mem"), O'.keep _ _ f1, fun _ => k1 c hc h' t' tk O', fun e => absurd (congrArg (fun z : Str => z.cps.size) e) (Nat.succ_ne_zero 0)⟩
  · exact ⟨_, _, rfl, O'.eq (by walk_at "mem"), O'.eq (by walk_at "mem"), O'.keep _ _ f1, fun e => absurd rfl e, fun _ h'' he hi => k2 hc h'' _ (O'.putExt (Put.tail (Put.tail (Put.tail Put.head))) he ⟨_, hi, rfl⟩)⟩

structure FM (x it : Addr) (acc : List Nat) (m : Str → Option Value) : Prop where
  self : m "self" = some (.ref x)
  fiter : m "fiter" = some (.ref it)
  token : ∃ t, m "token" = some (.str ⟨acc.toArray⟩ t)
abbrev GT (x d pb pl fs it bm L : Addr) (cs : List Nat) (q : Nat) (ito : Obj) (m : Str → Option Value) (R : List Ent) : List Ent :=
  (d, LexP (lnAt cs q) fs pb) :: (pb, ListP []) :: (pl, PlaceP q) :: (it, EqP ito) :: (bm, EqP (methodObj (.ref 35) (.ref x))) :: (L, NsP m) :: R
theorem FM.ch {x it : Addr} {acc : List Nat} {m : Str → Option Value} (h : FM x it acc m) (v : Value) : FM x it acc (fun y => if y = "ch" then some v else m y) := ⟨h.self, h.fiter, h.token⟩
theorem FM.tok {x it : Addr} {acc acc' : List Nat} {m : Str → Option Value} {t : Tok} (h : FM x it acc m) {z : Str} (e : z = ⟨acc'.toArray⟩) : FM x it acc' (fun y => if y = "token" then some (.str z t) else m y) := ⟨h.self, h.fiter, t, by rw [e]; rfl⟩

theorem seq_cut {M : Model} {A : Around} {E : Value → Shared → Prop} {s : Shared} {env : Env} {st : Stmt} {rest : List Stmt} {Q : Flow → Shared → Prop} (J : Shared → Prop)
    (h1 : wpAny M A (exec st env) (fun f s' => match f with | .next => J s' | f => Q f s') E s) (h2 : ∀ s', J s' → wpAny M A (execs rest env) Q E s') : wpAny M A (execs (st :: rest) env) Q E s :=
  wpAny_execs_cons (wpAny_mono h1 (fun f s' z => by cases f <;> first | exact h2 s' z | exact z) fun _ _ z => z)
theorem t_rc (P : Params) : typeIn (KH P) (.ref 35) = some (.type "function") := by kernel_rfl
theorem drop_cons {cs : List Nat} {q c : Nat} (h : cs[q]? = some c) : cs.drop q = c :: cs.drop (q + 1) := by
  obtain ⟨h1, rfl⟩ := List.getElem?_eq_some_iff.mp h
  exact List.drop_eq_getElem_cons h1
theorem lt_of_get {cs : List Nat} {q c : Nat} (h : cs[q]? = some c) : q < cs.length := (List.getElem?_eq_some_iff.mp h).1
theorem isWs_iff (c : Nat) : (c = 10 ∨ c = 9 ∨ c = 13 ∨ c = 32) ↔ isWs c = true := by unfold isWs; simp; (first | assumption | decide | exact Nat.le_trans (by assumption) (by decide) | exact Nat.sub_succ_lt_self _ _ (by assumption) | exact Nat.succ_le_of_lt (by assumption) | exact Nat.le_of_lt (by assumption) | lia | omega)
theorem size_tok {acc : List Nat} {z : List Nat} (h : acc.length + z.length ≤ 2000000) : (⟨acc.toArray⟩ : Str).length + (⟨z.toArray⟩ : Str).length ≤ sizeLine := by
  rw [sizeLine_eq]; show acc.toArray.size + z.toArray.size ≤ _; simp; (first | assumption | decide | exact Nat.le_trans (by assumption) (by decide) | exact Nat.sub_succ_lt_self _ _ (by assumption) | exact Nat.succ_le_of_lt (by assumption) | exact Nat.le_of_lt (by assumption) | lia | omega)

theorem app_toArray (acc z : List Nat) : (⟨acc.toArray⟩ : Str) ++ (⟨z.toArray⟩ : Str) = ⟨(acc ++ z).toArray⟩ := by
  apply str_ext; rw [Str.cps_append]; simp

theorem get_token_lex {R' : Result → Shared → Prop} {q0 : Nat} (G : Gr (KH w.params) p loose mg mb B) (S : Strm prog w B fs fr pl cs) (hA : Ar A 7) (hx : B.get? x = some ⟨.ref 52, some d, .plain, #[]⟩) (hcs : cs.length ≤ 1000000)
    (O : Own B h ((d, LexP (lnAt cs q0) fs pb) :: (pb, ListP []) :: (pl, PlaceP q0) :: R)) (hq : q0 ≤ cs.length)
    (k : ∀ tok rest q', lexT (cs.drop q0) = (tok, rest) → q' = cs.length - rest.length → ∀ h' t' u, Own B h' ((d, LexP (lnAt cs q') fs pb) :: (pb, ListP []) :: (pl, PlaceP q') :: R) →
      R' (.ok (.ret (.str ⟨tok.toArray⟩ u))) ⟨h', g, dr, t', os⟩) :
    codeAny (model prog w) A (.call (.ref 42) ⟨[.ref x], []⟩) R' ⟨h, g, dr, tk, os⟩ := by
  obtain ⟨m, hm, O⟩ := O.open1
  refine x_enterK (pre := [_, _, _]) G O rfl (by kernel_rfl) hA.room rfl (locs rfl) ?_
  intro L h₁ t1 O
  dsimp only [List.cons_append, List.nil_append] at O
  walk_at "lt"
  walk_at "ws"
  refine x_getattr O G hx (by walk_at "mem") hm.pushback (c_plain _ _) (c_dict _) (c_pushback _) rfl ?_
  intro t1
  refine x_truthyL O (by walk_at "mem") (by simp) ?_
  intro t1
  refine br (c := False) (by simp) (fun h => h.elim) (fun _ => ?_)
  walk_at "ws"
  refine x_bound (by assumption) G hx (by walk_at "mem") hm.n1 (c_plain _ _) (c_dict _) (c_readchar _) (i_readchar _) (s_readchar _) (k_readchar _) (by decide +kernel) ?_
  intro bm h2 t2 O
  walk_at "ws"
  refine x_iter2 O (by walk_at "mem") ?_
  intro it h3 t3 O
  have O := (((O.ahead [_]).behind [_, _, _, _]).behind [_, _, _])
  replace O := (O.weak (P' := LexP (lnAt cs q0) fs pb) fun o ho => ⟨_, hm, ho⟩)
  walk_at "ws"
  rename Own _ _ _ => O
  refine pyIter_cit (O.eq (by walk_at "mem")) ?_
  refine codeAny_forLoop_any (fun n s' => (E5 fun q h t m u => C6 (s' = ⟨h, g, dr, t, os⟩) (q ≤ cs.length) (n = cs.length - q + 1) (FM x it [] m) (Own B h (GT x d pb pl fs it bm L cs q (citObj (.ref bm) (.str (Str.ofString "") u)) m R)) (lexT (cs.drop q) = lexT (cs.drop q0))) ∨
    (n = 0 ∧ ∃ acc h t m, s' = ⟨h, g, dr, t, os⟩ ∧ FM x it acc m ∧ Own B h (GT x d pb pl fs it bm L cs cs.length citEnd m R) ∧ lexT (cs.drop q0) = (acc, []))) ?_ (cs.length - q0 + 1)
    (.inl ⟨q0, _, _, _, _, rfl, hq, rfl, ⟨rfl, rfl, _, rfl⟩, O, rfl⟩)
  clear O
  rintro n s' (⟨q, h, t, m, u, rfl, hq, rfl, hF, O, hl⟩ | ⟨rfl, acc, h, t, m, rfl, hF, O, hl⟩)
  walk_at "lt"
  · have e1 := hF.self
    have e2 := hF.fiter
    obtain ⟨tt, e3⟩ := hF.token
    refine next_char G S (hA.deeper _ |>.le (by (first | assumption | decide | exact Nat.le_trans (by assumption) (by decide) | exact Nat.sub_succ_lt_self _ _ (by assumption) | exact Nat.succ_le_of_lt (by assumption) | exact Nat.le_of_lt (by assumption) | lia | omega))) hx O hq ?_ ?_
    · intro c hc h' t' u' O
      obtain ⟨md, hmd, O⟩ := O.open1
      obtain ⟨tw, hw⟩ := hmd.whitespace
      walk_at "ws"
      refine x_getattr (by assumption) G hx (by walk_at "mem") hw (c_plain _ _) (c_dict _) (c_whitespace _) rfl ?_
      intro t2
      refine in_str ?_
      walk_at "ws"
      refine br ((ws_in c).trans (isWs_iff c)) (fun hws => ?_) (fun hws => ?_)
      · walk_at "ws"
        rename Own _ _ _ => O
        refine ⟨_, ?_, .inl ⟨q + 1, _, _, _, _, rfl, ?_, rfl, hF.ch _, O.weak (fun o ho => ⟨_, hmd, ho⟩), ?_⟩⟩
        · have := lt_of_get hc; (first | assumption | decide | exact Nat.le_trans (by assumption) (by decide) | exact Nat.sub_succ_lt_self _ _ (by assumption) | exact Nat.succ_le_of_lt (by assumption) | exact Nat.le_of_lt (by assumption) | lia | omega)
        · have := lt_of_get hc; (first | assumption | decide | exact Nat.le_trans (by assumption) (by decide) | exact Nat.sub_succ_lt_self _ _ (by assumption) | exact Nat.succ_le_of_lt (by assumption) | exact Nat.le_of_lt (by assumption) | lia | omega)
        · rw [← hl, drop_cons hc, lexT, if_pos hws]
      · walk_at "ws"
        refine br (one_eq c 34) (fun h34 => ?_) (fun h34 => ?_)
        · walk_at "ws"
          rename Own _ _ _ => O
          refine pyIter_cit (O.eq (by walk_at "mem")) ?_
          refine codeAny_forLoop_any (fun n s' => E6 fun q h t m u acc => C7 (s' = ⟨h, g, dr, t, os⟩) (q ≤ cs.length) (n = cs.length - q) (acc.length ≤ q) (FM x it acc m) (Own B h (GT x d pb pl fs it bm L cs q (citObj (.ref bm) (.str (Str.ofString "") u)) m R)) (qLoop acc (cs.drop q) = lexT (cs.drop q0))) ?_ _
            ⟨q + 1, _, _, _, _, [], rfl, lt_of_get hc, rfl, Nat.zero_le _, hF.ch _, O.weak (fun o ho => ⟨_, hmd, ho⟩), ?_⟩
          · clear O
            rintro n s' ⟨q, h, t, m, u, acc, rfl, hq, rfl, hacc, hF, O, hl⟩
            walk_at "lt"
            have e1 := hF.self
            have e2 := hF.fiter
            obtain ⟨tt, e3⟩ := hF.token
            refine next_char G S (hA.deeper _ |>.le (by (first | assumption | decide | exact Nat.le_trans (by assumption) (by decide) | exact Nat.sub_succ_lt_self _ _ (by assumption) | exact Nat.succ_le_of_lt (by assumption) | exact Nat.le_of_lt (by assumption) | lia | omega))) hx O hq ?_ ?_
            · intro c hc h' t' u' O
              have hlt := lt_of_get hc
              rw [drop_cons hc] at hl
              obtain ⟨md, hmd, O⟩ := O.open1
              obtain ⟨tw, hw⟩ := hmd.whitespace
              walk_at "w"; walk_at "w"; walk_at "w"
              rename Own _ _ _ => O
              refine seq_cut (fun s' => E7 fun q' h t m z tz u => C8 (s' = ⟨h, g, dr, t, os⟩) (q' ≤ cs.length) (q < q') (FM x it acc m) (m "ch" = some (.str ⟨z.toArray⟩ tz)) (acc.length + z.length ≤ q') (Own B h (GT x d pb pl fs it bm L cs q' (citObj (.ref bm) (.str (Str.ofString "") u)) m R)) (qLoop (acc ++ z) (cs.drop q') = lexT (cs.drop q0))) ?_ ?_
              · walk_at "lt"
                walk_at "ws"
                refine br (one_eq c 34) (fun h34 => ?_) (fun h34 => ?_)
                · walk_at "ws"
                  exact k acc _ (q + 1) (by rw [← hl, h34, qLoop_end]) (by rw [List.length_drop]; (first | assumption | decide | exact Nat.le_trans (by assumption) (by decide) | exact Nat.sub_succ_lt_self _ _ (by assumption) | exact Nat.succ_le_of_lt (by assumption) | exact Nat.le_of_lt (by assumption) | lia | omega)) _ _ _ (((((O.weak fun o ho => ⟨_, hmd, ho⟩).cut [_, _, _]).cut [_, _, _]).cut [_, _, _]))
                · walk_at "ws"
                  refine br (one_eq c 92) (fun h92 => ?_) (fun h92 => ?_)
                  · walk_at "ws"
                    refine r_method O G hx (by walk_at "mem") hmd.n1 (c_plain _ _) (c_readchar _) (t_rc _) ?_
                    obtain ⟨o, fd, f1, f2⟩ := f_rc w.params
                    refine r_callWith0 f2 O (G.X _ _ f1) ?_
                    refine r_call (read_char' G S (hA.deeper _ |>.le (by (first | assumption | decide | exact Nat.le_trans (by assumption) (by decide) | exact Nat.sub_succ_lt_self _ _ (by assumption) | exact Nat.succ_le_of_lt (by assumption) | exact Nat.le_of_lt (by assumption) | lia | omega))) hx (O.weak fun o ho => ⟨_, hmd, ho⟩) (by (first | assumption | decide | exact Nat.le_trans (by assumption) (by decide) | exact Nat.sub_succ_lt_self _ _ (by assumption) | exact Nat.succ_le_of_lt (by assumption) | exact Nat.le_of_lt (by assumption) | lia | omega)) (fun c' hc' h'' t'' u'' O => ?_) (fun hc' h'' t'' u'' O => ?_))
                    · walk_at "ws"
                      rename Own _ _ _ => O
                      refine ⟨q + 2, _, _, _, [c'], _, _, rfl, ?_, by (first | assumption | decide | exact Nat.le_trans (by assumption) (by decide) | exact Nat.sub_succ_lt_self _ _ (by assumption) | exact Nat.succ_le_of_lt (by assumption) | exact Nat.le_of_lt (by assumption) | lia | omega), hF.ch _ |>.ch _, rfl, ?_, O, ?_⟩
                      · have := lt_of_get hc'; (first | assumption | decide | exact Nat.le_trans (by assumption) (by decide) | exact Nat.sub_succ_lt_self _ _ (by assumption) | exact Nat.succ_le_of_lt (by assumption) | exact Nat.le_of_lt (by assumption) | lia | omega)
                      · simp; (first | assumption | decide | exact Nat.le_trans (by assumption) (by decide) | exact Nat.sub_succ_lt_self _ _ (by assumption) | exact Nat.succ_le_of_lt (by assumption) | exact Nat.le_of_lt (by assumption) | lia | omega)
                      · rw [← hl, h92, qLoop_esc, drop_cons hc']; rfl
                    · walk_at "ws"
                      rename Own _ _ _ => O
                      refine ⟨q + 1, _, _, _, [], _, _, rfl, ?_, by (first | assumption | decide | exact Nat.le_trans (by assumption) (by decide) | exact Nat.sub_succ_lt_self _ _ (by assumption) | exact Nat.succ_le_of_lt (by assumption) | exact Nat.le_of_lt (by assumption) | lia | omega), hF.ch _ |>.ch _, rfl, ?_, O, ?_⟩
                      · (first | assumption | decide | exact Nat.le_trans (by assumption) (by decide) | exact Nat.sub_succ_lt_self _ _ (by assumption) | exact Nat.succ_le_of_lt (by assumption) | exact Nat.le_of_lt (by assumption) | lia | omega)
                      · simp; (first | assumption | decide | exact Nat.le_trans (by assumption) (by decide) | exact Nat.sub_succ_lt_self _ _ (by assumption) | exact Nat.succ_le_of_lt (by assumption) | exact Nat.le_of_lt (by assumption) | lia | omega)
                      · rw [← hl, h92, qLoop_esc, List.drop_of_length_le (by (first | assumption | decide | exact Nat.le_trans (by assumption) (by decide) | exact Nat.sub_succ_lt_self _ _ (by assumption) | exact Nat.succ_le_of_lt (by assumption) | exact Nat.le_of_lt (by assumption) | lia | omega))]; rfl
                  · walk_at "ws"
                    refine ⟨q + 1, _, _, _, [c], _, _, rfl, hlt, by (first | assumption | decide | exact Nat.le_trans (by assumption) (by decide) | exact Nat.sub_succ_lt_self _ _ (by assumption) | exact Nat.succ_le_of_lt (by assumption) | exact Nat.le_of_lt (by assumption) | lia | omega), hF.ch _, rfl, ?_, O.weak (fun o ho => ⟨_, hmd, ho⟩), ?_⟩
                    · simp; (first | assumption | decide | exact Nat.le_trans (by assumption) (by decide) | exact Nat.sub_succ_lt_self _ _ (by assumption) | exact Nat.succ_le_of_lt (by assumption) | exact Nat.le_of_lt (by assumption) | lia | omega)
                    · rw [← hl, qLoop_on _ _ _ h34 h92]
              · rintro s' ⟨q', h, t, m, z, tz, u, rfl, hq', hlt', hF, hch, hz, O, hl'⟩
                walk_at "lt"
                have e1 := hF.self
                have e2 := hF.fiter
                obtain ⟨tt, e3⟩ := hF.token
                walk_at "ws"
                refine x_iaddS (size_tok (by (first | assumption | decide | exact Nat.le_trans (by assumption) (by decide) | exact Nat.sub_succ_lt_self _ _ (by assumption) | exact Nat.succ_le_of_lt (by assumption) | exact Nat.le_of_lt (by assumption) | lia | omega))) ?_
                intro _ _
                walk_at "ws"
                rename Own _ _ _ => O
                refine ⟨_, ?_, q', _, _, _, _, acc ++ z, rfl, hq', rfl, ?_, hF.tok (app_toArray acc z), O, hl'⟩
                · (first | assumption | decide | exact Nat.le_trans (by assumption) (by decide) | exact Nat.sub_succ_lt_self _ _ (by assumption) | exact Nat.succ_le_of_lt (by assumption) | exact Nat.le_of_lt (by assumption) | lia | omega)
                · simp; (first | assumption | decide | exact Nat.le_trans (by assumption) (by decide) | exact Nat.sub_succ_lt_self _ _ (by assumption) | exact Nat.succ_le_of_lt (by assumption) | exact Nat.le_of_lt (by assumption) | lia | omega)
            · intro hqe h' t' O
              walk_at "ws"
              refine ⟨0, by (first | assumption | decide | exact Nat.le_trans (by assumption) (by decide) | exact Nat.sub_succ_lt_self _ _ (by assumption) | exact Nat.succ_le_of_lt (by assumption) | exact Nat.le_of_lt (by assumption) | lia | omega), .inr ⟨rfl, acc, _, _, _, rfl, hF, hqe ▸ O, ?_⟩⟩
              rw [← hl, List.drop_of_length_le (by (first | assumption | decide | exact Nat.le_trans (by assumption) (by decide) | exact Nat.sub_succ_lt_self _ _ (by assumption) | exact Nat.succ_le_of_lt (by assumption) | exact Nat.le_of_lt (by assumption) | lia | omega)), qLoop_nil]
          · rw [← hl, drop_cons hc, lexT, if_neg hws, if_pos h34]
        · rename Own _ _ _ => O
          have hlt := lt_of_get hc
          rw [drop_cons hc, lexT, if_neg hws, if_neg h34] at hl
          refine seq_cut (fun s' => E7 fun q' h t m z tz u => C8 (s' = ⟨h, g, dr, t, os⟩) (q' ≤ cs.length) (q < q') (FM x it [] m) (m "ch" = some (.str ⟨z.toArray⟩ tz)) (z.length ≤ q') (Own B h (GT x d pb pl fs it bm L cs q' (citObj (.ref bm) (.str (Str.ofString "") u)) m R)) (uLoop z (cs.drop q') = lexT (cs.drop q0))) ?_ ?_
          · walk_at "lt"
            walk_at "ws"
            refine br (one_eq c 92) (fun h92 => ?_) (fun h92 => ?_)
            · rw [if_pos h92] at hl
              walk_at "ws"
              refine r_method O G hx (by walk_at "mem") hmd.n1 (c_plain _ _) (c_readchar _) (t_rc _) ?_
              obtain ⟨o, fd, f1, f2⟩ := f_rc w.params
              refine r_callWith0 f2 O (G.X _ _ f1) ?_
              refine r_call (read_char' G S (hA.deeper _ |>.le (by (first | assumption | decide | exact Nat.le_trans (by assumption) (by decide) | exact Nat.sub_succ_lt_self _ _ (by assumption) | exact Nat.succ_le_of_lt (by assumption) | exact Nat.le_of_lt (by assumption) | lia | omega))) hx (O.weak fun o ho => ⟨_, hmd, ho⟩) (by (first | assumption | decide | exact Nat.le_trans (by assumption) (by decide) | exact Nat.sub_succ_lt_self _ _ (by assumption) | exact Nat.succ_le_of_lt (by assumption) | exact Nat.le_of_lt (by assumption) | lia | omega)) (fun c' hc' h'' t'' u'' O => ?_) (fun hc' h'' t'' u'' O => ?_))
              · walk_at "ws"
                rename Own _ _ _ => O
                refine ⟨q + 2, _, _, _, [c'], _, _, rfl, ?_, by (first | assumption | decide | exact Nat.le_trans (by assumption) (by decide) | exact Nat.sub_succ_lt_self _ _ (by assumption) | exact Nat.succ_le_of_lt (by assumption) | exact Nat.le_of_lt (by assumption) | lia | omega), hF.ch _ |>.ch _, rfl, ?_, O, ?_⟩
                · have := lt_of_get hc'; (first | assumption | decide | exact Nat.le_trans (by assumption) (by decide) | exact Nat.sub_succ_lt_self _ _ (by assumption) | exact Nat.succ_le_of_lt (by assumption) | exact Nat.le_of_lt (by assumption) | lia | omega)
                · simp
                · rw [← hl, drop_cons hc']; rfl
              · walk_at "ws"
                rename Own _ _ _ => O
                refine ⟨q + 1, _, _, _, [], _, _, rfl, ?_, by (first | assumption | decide | exact Nat.le_trans (by assumption) (by decide) | exact Nat.sub_succ_lt_self _ _ (by assumption) | exact Nat.succ_le_of_lt (by assumption) | exact Nat.le_of_lt (by assumption) | lia | omega), hF.ch _ |>.ch _, rfl, ?_, O, ?_⟩
                · (first | assumption | decide | exact Nat.le_trans (by assumption) (by decide) | exact Nat.sub_succ_lt_self _ _ (by assumption) | exact Nat.succ_le_of_lt (by assumption) | exact Nat.le_of_lt (by assumption) | lia | omega)
                · simp
                · rw [← hl, List.drop_of_length_le (by (first | assumption | decide | exact Nat.le_trans (by assumption) (by decide) | exact Nat.sub_succ_lt_self _ _ (by assumption) | exact Nat.succ_le_of_lt (by assumption) | exact Nat.le_of_lt (by assumption) | lia | omega))]; rfl
            · rw [if_neg h92] at hl
              walk_at "ws"
              refine ⟨q + 1, _, _, _, [c], _, _, rfl, hlt, by (first | assumption | decide | exact Nat.le_trans (by assumption) (by decide) | exact Nat.sub_succ_lt_self _ _ (by assumption) | exact Nat.succ_le_of_lt (by assumption) | exact Nat.le_of_lt (by assumption) | lia | omega), hF.ch _, rfl, ?_, O.weak (fun o ho => ⟨_, hmd, ho⟩), hl⟩
              simp
          clear O e1 e2 e3 hF hl
          rintro s' ⟨q', h, t, m, z, tz, u, rfl, hq', hlt', hF, hch, hz, O, hl'⟩
          walk_at "lt"
          have e1 := hF.self
          have e2 := hF.fiter
          obtain ⟨tt, e3⟩ := hF.token
          walk_at "ws"
          refine x_iaddS (size_tok (acc := []) (by simp; (first | assumption | decide | exact Nat.le_trans (by assumption) (by decide) | exact Nat.sub_succ_lt_self _ _ (by assumption) | exact Nat.succ_le_of_lt (by assumption) | exact Nat.le_of_lt (by assumption) | lia | omega))) ?_
          intro _ _
          walk_at "ws"
          rename Own _ _ _ => O
          refine pyIter_cit (O.eq (by walk_at "mem")) ?_
          refine codeAny_forLoop_any (fun n s' => E6 fun q h t m u acc => C7 (s' = ⟨h, g, dr, t, os⟩) (q ≤ cs.length) (n = cs.length - q) (acc.length ≤ q) (FM x it acc m) (Own B h (GT x d pb pl fs it bm L cs q (citObj (.ref bm) (.str (Str.ofString "") u)) m R)) (uLoop acc (cs.drop q) = lexT (cs.drop q0))) ?_ _
            ⟨q', _, _, _, _, z, rfl, hq', rfl, hz, hF.tok (app_toArray [] z), O, hl'⟩
          · clear O
            rintro n s' ⟨q, h, t, m, u, acc, rfl, hq, rfl, hacc, hF, O, hl⟩
            walk_at "lt"
            have e1 := hF.self
            have e2 := hF.fiter
            obtain ⟨tt, e3⟩ := hF.token
            refine next_char G S (hA.deeper _ |>.le (by (first | assumption | decide | exact Nat.le_trans (by assumption) (by decide) | exact Nat.sub_succ_lt_self _ _ (by assumption) | exact Nat.succ_le_of_lt (by assumption) | exact Nat.le_of_lt (by assumption) | lia | omega))) hx O hq ?_ ?_
            · intro c hc h' t' u' O
              have hlt := lt_of_get hc
              rw [drop_cons hc] at hl
              obtain ⟨md, hmd, O⟩ := O.open1
              obtain ⟨tw, hw⟩ := hmd.whitespace
              walk_at "w"; walk_at "w"; walk_at "w"
              rename Own _ _ _ => O
              refine seq_cut (fun s' => E7 fun q' h t m z tz u => C8 (s' = ⟨h, g, dr, t, os⟩) (q' ≤ cs.length) (q < q') (FM x it acc m) (m "ch" = some (.str ⟨z.toArray⟩ tz)) (acc.length + z.length ≤ q') (Own B h (GT x d pb pl fs it bm L cs q' (citObj (.ref bm) (.str (Str.ofString "") u)) m R)) (uLoop (acc ++ z) (cs.drop q') = lexT (cs.drop q0))) ?_ ?_
              · walk_at "lt"
                walk_at "ws"
                refine x_getattr (by assumption) G hx (by walk_at "mem") hw (c_plain _ _) (c_dict _) (c_whitespace _) rfl ?_
                intro t2
                refine in_str ?_
                walk_at "ws"
                refine br ((ws_in c).trans (isWs_iff c)) (fun hws => ?_) (fun hws => ?_)
                · walk_at "ws"
                  exact k acc _ (q + 1) (by rw [← hl, uLoop_end _ _ _ hws]) (by rw [List.length_drop]; (first | assumption | decide | exact Nat.le_trans (by assumption) (by decide) | exact Nat.sub_succ_lt_self _ _ (by assumption) | exact Nat.succ_le_of_lt (by assumption) | exact Nat.le_of_lt (by assumption) | lia | omega)) _ _ _ (((((O.weak fun o ho => ⟨_, hmd, ho⟩).cut [_, _, _]).cut [_, _, _]).cut [_, _, _]))
                · walk_at "ws"
                  refine br (one_eq c 92) (fun h92 => ?_) (fun h92 => ?_)
                  · walk_at "ws"
                    refine r_method O G hx (by walk_at "mem") hmd.n1 (c_plain _ _) (c_readchar _) (t_rc _) ?_
                    obtain ⟨o, fd, f1, f2⟩ := f_rc w.params
                    refine r_callWith0 f2 O (G.X _ _ f1) ?_
                    refine r_call (read_char' G S (hA.deeper _ |>.le (by (first | assumption | decide | exact Nat.le_trans (by assumption) (by decide) | exact Nat.sub_succ_lt_self _ _ (by assumption) | exact Nat.succ_le_of_lt (by assumption) | exact Nat.le_of_lt (by assumption) | lia | omega))) hx (O.weak fun o ho => ⟨_, hmd, ho⟩) (by (first | assumption | decide | exact Nat.le_trans (by assumption) (by decide) | exact Nat.sub_succ_lt_self _ _ (by assumption) | exact Nat.succ_le_of_lt (by assumption) | exact Nat.le_of_lt (by assumption) | lia | omega)) (fun c' hc' h'' t'' u'' O => ?_) (fun hc' h'' t'' u'' O => ?_))
                    · walk_at "ws"
                      rename Own _ _ _ => O
                      refine ⟨q + 2, _, _, _, [c'], _, _, rfl, ?_, by (first | assumption | decide | exact Nat.le_trans (by assumption) (by decide) | exact Nat.sub_succ_lt_self _ _ (by assumption) | exact Nat.succ_le_of_lt (by assumption) | exact Nat.le_of_lt (by assumption) | lia | omega), hF.ch _ |>.ch _, rfl, ?_, O, ?_⟩
                      · have := lt_of_get hc'; (first | assumption | decide | exact Nat.le_trans (by assumption) (by decide) | exact Nat.sub_succ_lt_self _ _ (by assumption) | exact Nat.succ_le_of_lt (by assumption) | exact Nat.le_of_lt (by assumption) | lia | omega)
                      · simp; (first | assumption | decide | exact Nat.le_trans (by assumption) (by decide) | exact Nat.sub_succ_lt_self _ _ (by assumption) | exact Nat.succ_le_of_lt (by assumption) | exact Nat.le_of_lt (by assumption) | lia | omega)
                      · rw [← hl, h92, uLoop_esc, drop_cons hc']; rfl
                    · walk_at "ws"
                      rename Own _ _ _ => O
                      refine ⟨q + 1, _, _, _, [], _, _, rfl, ?_, by (first | assumption | decide | exact Nat.le_trans (by assumption) (by decide) | exact Nat.sub_succ_lt_self _ _ (by assumption) | exact Nat.succ_le_of_lt (by assumption) | exact Nat.le_of_lt (by assumption) | lia | omega), hF.ch _ |>.ch _, rfl, ?_, O, ?_⟩
                      · (first | assumption | decide | exact Nat.le_trans (by assumption) (by decide) | exact Nat.sub_succ_lt_self _ _ (by assumption) | exact Nat.succ_le_of_lt (by assumption) | exact Nat.le_of_lt (by assumption) | lia | omega)
                      · simp; (first | assumption | decide | exact Nat.le_trans (by assumption) (by decide) | exact Nat.sub_succ_lt_self _ _ (by assumption) | exact Nat.succ_le_of_lt (by assumption) | exact Nat.le_of_lt (by assumption) | lia | omega)
                      · rw [← hl, h92, uLoop_esc, List.drop_of_length_le (by (first | assumption | decide | exact Nat.le_trans (by assumption) (by decide) | exact Nat.sub_succ_lt_self _ _ (by assumption) | exact Nat.succ_le_of_lt (by assumption) | exact Nat.le_of_lt (by assumption) | lia | omega))]; rfl
                  · walk_at "ws"
                    refine ⟨q + 1, _, _, _, [c], _, _, rfl, hlt, by (first | assumption | decide | exact Nat.le_trans (by assumption) (by decide) | exact Nat.sub_succ_lt_self _ _ (by assumption) | exact Nat.succ_le_of_lt (by assumption) | exact Nat.le_of_lt (by assumption) | lia | omega), hF.ch _, rfl, ?_, O.weak (fun o ho => ⟨_, hmd, ho⟩), ?_⟩
                    · simp; (first | assumption | decide | exact Nat.le_trans (by assumption) (by decide) | exact Nat.sub_succ_lt_self _ _ (by assumption) | exact Nat.succ_le_of_lt (by assumption) | exact Nat.le_of_lt (by assumption) | lia | omega)
                    · rw [← hl, uLoop_on _ _ _ (by simpa using hws) h92]
              · rintro s' ⟨q', h, t, m, z, tz, u, rfl, hq', hlt', hF, hch, hz, O, hl'⟩
                walk_at "lt"
                have e1 := hF.self
                have e2 := hF.fiter
                obtain ⟨tt, e3⟩ := hF.token
                walk_at "ws"
                refine x_iaddS (size_tok (by (first | assumption | decide | exact Nat.le_trans (by assumption) (by decide) | exact Nat.sub_succ_lt_self _ _ (by assumption) | exact Nat.succ_le_of_lt (by assumption) | exact Nat.le_of_lt (by assumption) | lia | omega))) ?_
                intro _ _
                walk_at "ws"
                rename Own _ _ _ => O
                refine ⟨_, ?_, q', _, _, _, _, acc ++ z, rfl, hq', rfl, ?_, hF.tok (app_toArray acc z), O, hl'⟩
                · (first | assumption | decide | exact Nat.le_trans (by assumption) (by decide) | exact Nat.sub_succ_lt_self _ _ (by assumption) | exact Nat.succ_le_of_lt (by assumption) | exact Nat.le_of_lt (by assumption) | lia | omega)
                · simp; (first | assumption | decide | exact Nat.le_trans (by assumption) (by decide) | exact Nat.sub_succ_lt_self _ _ (by assumption) | exact Nat.succ_le_of_lt (by assumption) | exact Nat.le_of_lt (by assumption) | lia | omega)
            · intro hqe h' t' O
              walk_at "ws"
              refine ⟨0, by (first | assumption | decide | exact Nat.le_trans (by assumption) (by decide) | exact Nat.sub_succ_lt_self _ _ (by assumption) | exact Nat.succ_le_of_lt (by assumption) | exact Nat.le_of_lt (by assumption) | lia | omega), .inr ⟨rfl, acc, _, _, _, rfl, hF, hqe ▸ O, ?_⟩⟩
              rw [← hl, List.drop_of_length_le (by (first | assumption | decide | exact Nat.le_trans (by assumption) (by decide) | exact Nat.sub_succ_lt_self _ _ (by assumption) | exact Nat.succ_le_of_lt (by assumption) | exact Nat.le_of_lt (by assumption) | lia | omega)), uLoop_nil]
    · intro hqe h' t' O
      walk_at "ws"
      refine k [] [] q ?_ (by simpa using hqe) _ _ _ (((O.cut [_, _, _]).cut [_, _, _]).cut [_, _, _])
      rw [← hl, List.drop_of_length_le (by (first | assumption | decide | exact Nat.le_trans (by assumption) (by decide) | exact Nat.sub_succ_lt_self _ _ (by assumption) | exact Nat.succ_le_of_lt (by assumption) | exact Nat.le_of_lt (by assumption) | lia | omega)), lexT]
  · have e1 := hF.self
    have e2 := hF.fiter
    obtain ⟨tt, e3⟩ := hF.token
    refine pyNext_citEnd (hA.deeper _).handled (O.eq (by walk_at "mem")) (fun h' hs => ?_)
    have O := O.ext hs
    walk_at "ws"
    exact k acc [] cs.length hl (by simp) _ _ _ (((O.cut [_, _, _]).cut [_, _, _]).cut [_, _, _])
end
end Mine
end

/- part AltTwoH -/
section
open PySem PySem.W PyProof.Rows PySem.Calls
set_option Elab.async false
set_option maxRecDepth 100000
set_option maxHeartbeats 4000000
namespace Mine


section
variable {prog : Program} {w : World} {A : Around} {E : Value → Shared → Prop} {h : Heap} {g : Array GenState} {dr : Drawn} {tk : Nat} {os : OsState} {B : Heap} {p : Program} {loose : List Str} {mg mb : Str → Option Value}
  {x d pb pl fs fr it bm : Addr} {cs : List Nat} {ln : Int} {q : Nat} {e2 : Ent} {R : List Ent} {u : Tok}

theorem get_token_pop {R' : Result → Shared → Prop} {v : Value} {vs : List Value} (G : Gr (KH w.params) p loose mg mb B) (hA : Ar A 2) (hx : B.get? x = some ⟨.ref 52, some d, .plain, #[]⟩) (hz : vs.length ≤ 1000000)
    (O : Own B h ((d, LexP ln fs pb) :: (pb, ListP (v :: vs)) :: R))
    (k : ∀ h' t', Own B h' ((d, LexP ln fs pb) :: (pb, ListP vs) :: R) → R' (.ok (.ret v)) ⟨h', g, dr, t', os⟩) :
    codeAny (model prog w) A (.call (.ref 42) ⟨[.ref x], []⟩) R' ⟨h, g, dr, tk, os⟩ := by
  obtain ⟨m, hm, O⟩ := O.open1
  refine x_enterK (pre := [_, _]) G O rfl (by kernel_rfl) hA.room rfl (locs rfl) ?_
  intro L h₁ t1 O
  dsimp only [List.cons_append, List.nil_append] at O
  walk_at "lt"
  walk_at "ws"
  refine x_getattr O G hx (by walk_at "mem") hm.pushback (c_plain _ _) (c_dict _) (c_pushback _) rfl ?_
  intro t1
  refine x_truthyL O (by walk_at "mem") (by rw [sizeLine_eq]; simp; (first | assumption | decide | exact Nat.le_trans (by assumption) (by decide) | exact Nat.sub_succ_lt_self _ _ (by assumption) | exact Nat.succ_le_of_lt (by assumption) | exact Nat.le_of_lt (by assumption) | lia | omega)) ?_
  intro t1
  refine br (c := True) (by simp) (fun _ => ?_) (fun z => (z trivial).elim)
  walk_at "ws"
  refine x_getattr O G hx (by walk_at "mem") hm.pushback (c_plain _ _) (c_dict _) (c_pushback _) rfl ?_
  intro t1
  refine r_listMeth O (by walk_at "mem") PySem.F.slot_list_pop PySem.F.type_list_pop ?_
  walk_at "ws"
  refine x_pop0 O (by walk_at "mem") (Put.tail Put.head) (by rw [sizeLine_eq]; (first | assumption | decide | exact Nat.le_trans (by assumption) (by decide) | exact Nat.sub_succ_lt_self _ _ (by assumption) | exact Nat.succ_le_of_lt (by assumption) | exact Nat.le_of_lt (by assumption) | lia | omega)) ?_
  intro h2 t2 O
  exact k _ _ ((O.cut [_, _]).weak fun o ho => ⟨_, hm, ho⟩)

theorem push_token {R' : Result → Shared → Prop} {v : Value} {vs : List Value} (G : Gr (KH w.params) p loose mg mb B) (hA : Ar A 2) (hx : B.get? x = some ⟨.ref 52, some d, .plain, #[]⟩) (hz : vs.length ≤ 1000000)
    (O : Own B h ((d, LexP ln fs pb) :: (pb, ListP vs) :: R))
    (k : ∀ h' t', Own B h' ((d, LexP ln fs pb) :: (pb, ListP (vs ++ [v])) :: R) → R' (.ok (.ret .none)) ⟨h', g, dr, t', os⟩) :
    codeAny (model prog w) A (.call (.ref 49) ⟨[.ref x, v], []⟩) R' ⟨h, g, dr, tk, os⟩ := by
  obtain ⟨m, hm, O⟩ := O.open1
  refine x_enterK (pre := [_, _]) G O rfl (by kernel_rfl) hA.room rfl (locs rfl) ?_
  intro L h₁ t1 O
  dsimp only [List.cons_append, List.nil_append] at O
  walk_at "lt"
  walk_at "ws"
  refine x_getattr O G hx (by walk_at "mem") hm.pushback (c_plain _ _) (c_dict _) (c_pushback _) rfl ?_
  intro t1
  refine r_listMeth O (by walk_at "mem") slot_list_append PySem.F.type_list_append ?_
  walk_at "ws"
  refine x_append O (by walk_at "mem") (Put.tail Put.head) (by rw [sizeLine_eq]; (first | assumption | decide | exact Nat.le_trans (by assumption) (by decide) | exact Nat.sub_succ_lt_self _ _ (by assumption) | exact Nat.succ_le_of_lt (by assumption) | exact Nat.le_of_lt (by assumption) | lia | omega)) ?_
  intro h2 t2 O
  walk_at "ws"
  exact k _ _ ((O.cut [_, _]).weak fun o ho => ⟨_, hm, ho⟩)
end
end Mine
end

/- part AltTwoJ -/
section
open PySem PySem.W PyProof.Rows PySem.Calls
set_option Elab.async false
set_option maxRecDepth 100000
set_option maxHeartbeats 4000000
namespace Mine


section
variable {prog : Program} {w : World} {A : Around} {E : Value → Shared → Prop} {h : Heap} {g : Array GenState} {dr : Drawn} {tk : Nat} {os : OsState} {B : Heap} {p : Program} {loose : List Str} {mg mb : Str → Option Value}
  {cs : List Nat} {R : List Ent} {u : Tok}

abbrev qnRead : Str := (Str.ofString "_law_stream" ++ Str.ofString ".<locals>.") ++ Str.ofString "read"

theorem g_len (P : Params) : nsIn (KH P) mainGlobals "len" = some none := by kernel_rfl

theorem law_stream {R' : Result → Shared → Prop} {txt : Str} {tt : Tok} (G : Gr (KH w.params) p loose mg mb B) (C : CodeHd B 94 90) (hA : Ar A 2) (hx : txt.cps.toList = cs) (hcs : cs.length ≤ 1000000)
    (O : Own B h ((90, TabP B 70 qnRead) :: R))
    (k : ∀ B' fs fr pl a h' t', Sub B B' → Strm prog w B' fs fr pl cs → IsTup B' a #[.ref fs, .ref pl] → Own B' h' ((90, TabP B' 70 qnRead) :: (pl, PlaceP 0) :: R) → R' (.ok (.ret (.ref a))) ⟨h', g, dr, t', os⟩) :
    codeAny (model prog w) A (.call (.ref 95) ⟨[.str txt tt], []⟩) R' ⟨h, g, dr, tk, os⟩ := by
  refine x_enterC G O rfl (by kernel_rfl) hA.room rfl (kinds fun n => rfl) (cells_nodup (by decide)) ?_
  intro L h₁ t1 O
  have O : Own B h₁ ((L, NsP fun _ => none) :: (L + 1 + 1, CellP none) :: (L + 1, CellP (some (.str txt tt))) :: (90, TabP B 70 qnRead) :: R) := O
  walk_at "lt"
  walk_at "ws"
  rename_i pl h2 t2 O
  refine x_storeC O rfl (by walk_at "mem") (by walk_at "put") ?_
  intro h3 t3 O
  walk_at "w"
  refine nestDef_K rfl rfl rfl ?_
  have O := O.ahead [_, _, _, _]
  refine x_def (ln := 70) (qn := qnRead) G C O rfl rfl ?_
  intro B1 fr c' ctv doc h4 t4 s1 hcr O
  have O : Own B1 h4 ((fr, _) :: (90, TabP B1 70 qnRead) :: (pl, ListP [.int 0 _]) :: (L, NsP fun _ => none) :: (L + 1 + 1, CellP (some (.ref pl))) :: (L + 1, CellP (some (.str txt tt))) :: R) := O
  walk_at "ws"
  rename Own _ _ _ => O
  have O := O.ahead [_]
  refine kla_eval rfl (x_lam (ln := 70) (qn := qnRead) (G.mono s1) (C.keeps s1) O rfl (by decide) ?_)
  intro B2 fs fd h5 t5 s2 O
  walk_at "ws"
  rename Own _ _ _ => O
  refine setattr_fn O (by walk_at "mem") (fun d => Put.head) ?_
  intro dd h6 t6 O
  walk_at "ws"
  refine r_cell (by assumption) rfl (by walk_at "mem") ?_
  walk_at "ws"
  rename Own _ _ _ => O
  have O := O.cut [_, _, _, _, _, _]
  have O := (O.ahead [_, _, _, _, _]).behind [_, _, _, _, _, _, _]
  have O := (O.ahead [_, _, _]).behind [_, _, _, _, _, _]
  obtain ⟨B3, s3, O, hf⟩ := Own.freezeN [_, _, _, _, _, _] O
  obtain ⟨oa, a1, na, a2⟩ := hf _ (.head _)
  obtain ⟨od, d1, d2⟩ := hf _ (.tail _ (.head _))
  obtain ⟨ofs, f1, f2⟩ := hf _ (.tail _ (.tail _ (.head _)))
  obtain ⟨ofr, r1, r2⟩ := hf _ (.tail _ (.tail _ (.tail _ (.head _))))
  obtain ⟨oc2, c1, c2⟩ := hf _ (.tail _ (.tail _ (.tail _ (.tail _ (.head _)))))
  obtain ⟨oc1, c3, c4⟩ := hf _ (.tail _ (.tail _ (.tail _ (.tail _ (.tail _ (.head _))))))
  clear hf
  subst f2 r2 a2
  refine k B3 fs fr pl _ _ _ (s1.trans (s2.trans s3)) ⟨⟨_, dd, od, _, f1, rfl, rfl, ⟨_, rfl⟩, d1, d2.ns, rfl⟩, ⟨_, _, r1, rfl⟩, ?_⟩ ⟨_, a1, rfl, na, rfl⟩ ?_
  · clear O k
    intro A E h g dr tk os B' pre post q t1 Q hA hB O hq k
    have G' := G.mono (s1.trans (s2.trans (s3.trans hB)))
    obtain ⟨tq, O⟩ := (O.ahead pre).open0
    refine r_call (x_enterX (pre := []) O G'.T.nolimit (hB _ _ r1) rfl ((hcr.keeps (s2.trans s3)).keeps hB) hA.room rfl (locs rfl) ?_)
    intro L' h₁ t2 O
    dsimp only [List.nil_append] at O
    have i1 : B'.IsCell (L + 1) (some (.str txt tt)) := ⟨_, hB _ _ c3, c4⟩
    have i2 : B'.IsCell (L + 1 + 1) (some (.ref pl)) := ⟨_, hB _ _ c1, c2⟩
    walk_at "ws"
    refine r_freeB O rfl i1 ?_
    walk_at "ws"
    refine r_freeB O rfl i2 ?_
    walk_at "ws"
    refine r_item (O.list (by walk_at "mem")) (by (first | assumption | decide | exact Nat.le_trans (by assumption) (by decide) | exact Nat.sub_succ_lt_self _ _ (by assumption) | exact Nat.succ_le_of_lt (by assumption) | exact Nat.le_of_lt (by assumption) | lia | omega)) (by (first | assumption | decide | exact Nat.le_trans (by assumption) (by decide) | exact Nat.sub_succ_lt_self _ _ (by assumption) | exact Nat.succ_le_of_lt (by assumption) | exact Nat.le_of_lt (by assumption) | lia | omega)) rfl ?_
    walk_at "ws"
    refine r_freeB O rfl i2 ?_
    walk_at "ws"
    refine r_item (O.list (by walk_at "mem")) (by (first | assumption | decide | exact Nat.le_trans (by assumption) (by decide) | exact Nat.sub_succ_lt_self _ _ (by assumption) | exact Nat.succ_le_of_lt (by assumption) | exact Nat.le_of_lt (by assumption) | lia | omega)) (by (first | assumption | decide | exact Nat.le_trans (by assumption) (by decide) | exact Nat.sub_succ_lt_self _ _ (by assumption) | exact Nat.succ_le_of_lt (by assumption) | exact Nat.le_of_lt (by assumption) | lia | omega)) rfl ?_
    walk_at "ws"
    have hlen : txt.length = cs.length := by rw [← hx]; rfl
    refine x_sliceSS O (by rw [sizeLine_eq]; (first | assumption | decide | exact Nat.le_trans (by assumption) (by decide) | exact Nat.sub_succ_lt_self _ _ (by assumption) | exact Nat.succ_le_of_lt (by assumption) | exact Nat.le_of_lt (by assumption) | lia | omega)) ?_
    intro h2 t3 t4 O
    rw [slice_at hx q]
    walk_at "ws"
    rename Own _ _ _ => O
    refine r_freeB O rfl i2 ?_
    walk_at "ws"
    refine getItem_listL (O.list (by walk_at "mem")) (by (first | assumption | decide | exact Nat.le_trans (by assumption) (by decide) | exact Nat.sub_succ_lt_self _ _ (by assumption) | exact Nat.succ_le_of_lt (by assumption) | exact Nat.le_of_lt (by assumption) | lia | omega)) (by (first | assumption | decide | exact Nat.le_trans (by assumption) (by decide) | exact Nat.sub_succ_lt_self _ _ (by assumption) | exact Nat.succ_le_of_lt (by assumption) | exact Nat.le_of_lt (by assumption) | lia | omega)) rfl ?_
    walk_at "ws"
    refine x_lenS (by show ((cs.drop q).take 1).toArray.size ≤ _; simp; (first | assumption | decide | exact Nat.le_trans (by assumption) (by decide) | exact Nat.sub_succ_lt_self _ _ (by assumption) | exact Nat.succ_le_of_lt (by assumption) | exact Nat.le_of_lt (by assumption) | lia | omega)) ?_
    intro t5 t6
    walk_at "ws"
    refine x_setItem (i := 0) O (by walk_at "mem") (by walk_at "put") (by simp) (by simp [sizeLine_eq]) ?_
    intro h3 t7 O
    walk_at "ws"
    refine k _ _ _ ((O.tail.weak (P' := PlaceP (min (q + 1) cs.length)) fun o ho => ?_).behind pre)
    have e : (q : Int) + ((Str.length (⟨((cs.drop q).take 1).toArray⟩ : Str) : Nat) : Int) = ((min (q + 1) cs.length : Nat) : Int) := by
      show (q : Int) + ((((cs.drop q).take 1).toArray.size : Nat) : Int) = _
      simp; (first | assumption | decide | exact Nat.le_trans (by assumption) (by decide) | exact Nat.sub_succ_lt_self _ _ (by assumption) | exact Nat.succ_le_of_lt (by assumption) | exact Nat.le_of_lt (by assumption) | lia | omega)
    unfold PlaceP
    rw [← e]
    exact ⟨_, ho⟩
  · exact ((O.weak (P' := TabP B3 70 qnRead) fun o ho => ho.mono s3).ahead [_] |>.weak (P' := PlaceP 0) fun o ho => ⟨_, ho⟩).behind [_]
end
end Mine
end

/- part AltTwoK -/
section
open PySem PySem.W PyProof.Rows PySem.Calls
set_option Elab.async false
set_option maxRecDepth 100000
set_option maxHeartbeats 4000000
namespace Mine


theorem Ar.make {A : Around} {n : Nat} (h : Ar A (n + 2)) (C : Addr) (rest : List Value) : Ar (A.under (.builtin "type.__call__" ⟨.ref C :: rest, []⟩)) n := by
  refine ⟨?_, ?_, h.handled⟩
  · have := h.depth
    rw [depth_under_make]; (first | assumption | decide | exact Nat.le_trans (by assumption) (by decide) | exact Nat.sub_succ_lt_self _ _ (by assumption) | exact Nat.succ_le_of_lt (by assumption) | exact Nat.le_of_lt (by assumption) | lia | omega)
  · have := h.units
    rw [units_under_make]; (first | assumption | decide | exact Nat.le_trans (by assumption) (by decide) | exact Nat.sub_succ_lt_self _ _ (by assumption) | exact Nat.succ_le_of_lt (by assumption) | exact Nat.le_of_lt (by assumption) | lia | omega)
theorem m_lex (P : Params) : makesIn (KH P) 52 = true := by kernel_rfl
theorem c_init (P : Params) : findIn (KH P) (.ref 52) "__init__" = some (some (.ref 28)) := by kernel_rfl
theorem t_init (P : Params) : typeIn (KH P) (.ref 28) = some (.type "function") := by kernel_rfl
theorem c_tk_instream (P : Params) : takerIn (KH P) 52 "instream" = some none := by kernel_rfl
theorem c_tk_whitespace (P : Params) : takerIn (KH P) 52 "whitespace" = some none := by kernel_rfl
theorem c_tk_pushback (P : Params) : takerIn (KH P) 52 "pushback" = some none := by kernel_rfl

section
variable {prog : Program} {w : World} {A : Around} {E : Value → Shared → Prop} {h : Heap} {g : Array GenState} {dr : Drawn} {tk : Nat} {os : OsState} {B : Heap} {p : Program} {loose : List Str} {mg mb : Str → Option Value}
  {cs : List Nat} {R : List Ent} {u : Tok}

theorem new_lexer {R' : Result → Shared → Prop} {fs : Addr} (G : Gr (KH w.params) p loose mg mb B) (hA : Ar A 4) (O : Own B h R)
    (k : ∀ B' x d pb h' t', Sub B B' → B'.get? x = some ⟨.ref 52, some d, .plain, #[]⟩ → Own B' h' ((d, LexP 1 fs pb) :: (pb, ListP []) :: R) → R' (.ok (.ret (.ref x))) ⟨h', g, dr, t', os⟩) :
    codeAny (model prog w) A (.call (.ref 52) ⟨[.ref fs], []⟩) R' ⟨h, g, dr, tk, os⟩ := by
  have X : (KH w.params).In h := fun a o e => O.keep a o (G.X a o e)
  have O1 := O.push (P := NsZ 0 fun _ => none) emptyDict ⟨rfl, #[], 0, rfl, (fun e he => by cases he with | mk h => exact nomatch h), (fun _ => rfl), Nat.le_refl _⟩
  have O2 := O1.push (P := EqP (instObj 52 h.objs.size)) (instObj 52 h.objs.size) rfl
  rw [Heap.size_push] at O2
  obtain ⟨B1, s1, O3, ox, hx, e⟩ := O2.freeze1
  cases e
  refine make_core (makes_of X (m_lex _)) (looks_findIn X (c_init _)) (fun self => bind_fn X self (t_init _)) (.inl rfl) ?_
  have G1 := G.mono s1
  refine x_enterK (pre := [_]) G1 O3 rfl (by kernel_rfl) (hA.make (n := 2) _ _ |>.room) rfl (locs rfl) ?_
  intro L h₁ t1 O
  dsimp only [List.cons_append, List.nil_append] at O
  walk_at "lt"
  walk_at "ws"
  refine x_setattr (n := 0) (n' := 1) O G1 hx (by walk_at "mem") rfl Put.head (by (first | assumption | decide | exact Nat.le_trans (by assumption) (by decide) | exact Nat.sub_succ_lt_self _ _ (by assumption) | exact Nat.succ_le_of_lt (by assumption) | exact Nat.le_of_lt (by assumption) | lia | omega)) (c_sa _) (c_over _) (c_tk_lineno _) (c_dict _) ?_
  intro h2 t2 O
  walk_at "ws"
  refine x_setattr (n := 1) (n' := 2) O G1 hx (by walk_at "mem") rfl Put.head (by (first | assumption | decide | exact Nat.le_trans (by assumption) (by decide) | exact Nat.sub_succ_lt_self _ _ (by assumption) | exact Nat.succ_le_of_lt (by assumption) | exact Nat.le_of_lt (by assumption) | lia | omega)) (c_sa _) (c_over _) (c_tk_instream _) (c_dict _) ?_
  intro h2 t2 O
  walk_at "ws"
  refine x_setattr (n := 2) (n' := 3) O G1 hx (by walk_at "mem") rfl Put.head (by (first | assumption | decide | exact Nat.le_trans (by assumption) (by decide) | exact Nat.sub_succ_lt_self _ _ (by assumption) | exact Nat.succ_le_of_lt (by assumption) | exact Nat.le_of_lt (by assumption) | lia | omega)) (c_sa _) (c_over _) (c_tk_whitespace _) (c_dict _) ?_
  intro h2 t2 O
  walk_at "ws"
  rename_i pb _ _ O
  have O := O.behind [_]
  refine x_setattr (n := 3) (n' := 4) O G1 hx (by walk_at "mem") rfl Put.head (by (first | assumption | decide | exact Nat.le_trans (by assumption) (by decide) | exact Nat.sub_succ_lt_self _ _ (by assumption) | exact Nat.succ_le_of_lt (by assumption) | exact Nat.le_of_lt (by assumption) | lia | omega)) (c_sa _) (c_over _) (c_tk_pushback _) (c_dict _) ?_
  intro h2 t2 O
  walk_at "ws"
  have O := O.cut [_, _]
  refine ⟨rfl, k B1 _ _ pb _ _ s1 hx (O.weak fun o ho => ⟨_, ⟨⟨_, rfl⟩, rfl, ⟨_, rfl⟩, rfl, rfl, rfl, rfl⟩, ho⟩)⟩
end
end Mine
end

/- part AltTwoL -/
section
open PySem PySem.W PyProof.Rows PySem.Calls
set_option Elab.async false
set_option maxRecDepth 100000
set_option maxHeartbeats 4000000
namespace Mine


section
variable {prog : Program} {w : World} {A : Around} {E : Value → Shared → Prop} {h : Heap} {g : Array GenState} {dr : Drawn} {tk : Nat} {os : OsState} {B : Heap} {p : Program} {loose : List Str} {mg mb : Str → Option Value}
  {x d pb pl fs fr it bm S : Addr} {cs : List Nat} {ln : Int} {q : Nat} {e2 : Ent} {R l l' : List Ent} {u : Tok}

abbrev word (c : List Nat) : Str := ⟨c.toArray⟩
theorem word_ne {c : List Nat} (h : c ≠ []) : word c ≠ Str.ofString "" := fun e => h (congrArg (fun z : Str => z.cps.toList) e)
theorem f_gt (P : Params) : ∃ o fd, (KH P).lookup 42 = some o ∧ o.data = .func fd := fn_of (by kernel_rfl)

theorem x_push {vs : List Value} {v : Value} {Q : Unit → Shared → Prop} (O : Own B h l) (hm : (S, ListP vs) ∈ l) (hp : Put S (ListP (vs ++ [v])) l l') (hz : vs.length ≤ sizeLine)
    (k : ∀ h' t', Own B h' l' → Q () ⟨h', g, dr, t', os⟩) : wpAny (model prog w) A (Builtin.List.listUpdate (.ref S) (·.push v)) Q E ⟨h, g, dr, tk, os⟩ := by
  obtain ⟨o, ho, n, rfl⟩ := O.get hm
  show wpAny _ _ (updateSeq S (·.push v)) _ _ _
  refine wpAny_updateSeq ho rfl (k _ _ (O.putSame hp (Heap.SameBut.update ..) ⟨_, Heap.get?_update_self _ ho rfl, n + 1, ?_⟩)) (by rw [List.size_toArray]; (first | assumption | decide | exact Nat.le_trans (by assumption) (by decide) | exact Nat.sub_succ_lt_self _ _ (by assumption) | exact Nat.succ_le_of_lt (by assumption) | exact Nat.le_of_lt (by assumption) | lia | omega)) (by show (vs.toArray.push v).size ≤ _; rw [Array.size_push, List.size_toArray]; (first | assumption | decide | exact Nat.le_trans (by assumption) (by decide) | exact Nat.sub_succ_lt_self _ _ (by assumption) | exact Nat.succ_le_of_lt (by assumption) | exact Nat.le_of_lt (by assumption) | lia | omega))
  simp [Obj.mapSeq]

abbrev LX (x d pb pl fs : Addr) (cs : List Nat) (q : Nat) (pbs : List Value) (R : List Ent) : List Ent := (d, LexP (lnAt cs q) fs pb) :: (pb, ListP pbs) :: (pl, PlaceP q) :: R

/-- the next word by the iterator over get_token: read off the text -/
theorem next_lex {Q : Option Value → Shared → Prop} (G : Gr (KH w.params) p loose mg mb B) (St : Strm prog w B fs fr pl cs) (hA : Ar A 8) (hx : B.get? x = some ⟨.ref 52, some d, .plain, #[]⟩) (hcs : cs.length ≤ 1000000)
    (O : Own B h (LX x d pb pl fs cs q [] ((it, EqP (citObj (.ref bm) (.str (Str.ofString "") u))) :: (bm, EqP (methodObj (.ref 42) (.ref x))) :: R))) (hq : q ≤ cs.length)
    (k1 : (lexT (cs.drop q)).1 ≠ [] → ∀ q' h' t' u', q' = cs.length - (lexT (cs.drop q)).2.length → Own B h' (LX x d pb pl fs cs q' [] ((it, EqP (citObj (.ref bm) (.str (Str.ofString "") u))) :: (bm, EqP (methodObj (.ref 42) (.ref x))) :: R)) →
      Q (some (.str (word (lexT (cs.drop q)).1) u')) ⟨h', g, dr, t', os⟩)
    (k2 : (lexT (cs.drop q)).1 = [] → ∀ q' h' t', q' = cs.length - (lexT (cs.drop q)).2.length → Own B h' (LX x d pb pl fs cs q' [] ((it, EqP citEnd) :: (bm, EqP (methodObj (.ref 42) (.ref x))) :: R)) →
      Q none ⟨h', g, dr, t', os⟩) :
    wpAny (model prog w) A (pyNext (.ref it)) Q E ⟨h, g, dr, tk, os⟩ := by
  obtain ⟨o, fd, f1, f2⟩ := f_gt w.params
  have f1 := G.X _ _ f1
  refine pyNext_cit hA.handled (O.eq (by walk_at "mem")) (O.eq (by walk_at "mem")) (O.keep _ _ f1) f2 (get_token_lex G St hA.in1 hx hcs O hq (fun tok rest q' hl hq' h' t' u' O' => ?_))
  have e1 : (lexT (cs.drop q)).1 = tok := by rw [hl]
  have e2 : (lexT (cs.drop q)).2 = rest := by rw [hl]
  rw [e1, e2] at k1 k2
  refine ⟨_, _, rfl, O'.eq (by walk_at "mem"), O'.eq (by walk_at "mem"), O'.keep _ _ f1, fun hn => k1 (fun e => hn (by rw [e]; rfl)) q' h' t' u' hq' O', fun he h'' hex hi => k2 (Classical.byContradiction fun hn => word_ne hn he) q' h'' _ hq' (O'.putExt (Put.tail (Put.tail (Put.tail Put.head))) hex ⟨_, hi, rfl⟩)⟩

/-- the next word by the iterator over get_token: a word that waits -/
theorem next_pop {Q : Option Value → Shared → Prop} {c : List Nat} {u' : Tok} {vs : List Value} (G : Gr (KH w.params) p loose mg mb B) (hA : Ar A 3) (hx : B.get? x = some ⟨.ref 52, some d, .plain, #[]⟩) (hz : vs.length ≤ 1000000)
    (O : Own B h ((d, LexP ln fs pb) :: (pb, ListP (.str (word c) u' :: vs)) :: e2 :: (it, EqP (citObj (.ref bm) (.str (Str.ofString "") u))) :: (bm, EqP (methodObj (.ref 42) (.ref x))) :: R))
    (k1 : c ≠ [] → ∀ h' t', Own B h' ((d, LexP ln fs pb) :: (pb, ListP vs) :: e2 :: (it, EqP (citObj (.ref bm) (.str (Str.ofString "") u))) :: (bm, EqP (methodObj (.ref 42) (.ref x))) :: R) →
      Q (some (.str (word c) u')) ⟨h', g, dr, t', os⟩)
    (k2 : c = [] → ∀ h' t', Own B h' ((d, LexP ln fs pb) :: (pb, ListP vs) :: e2 :: (it, EqP citEnd) :: (bm, EqP (methodObj (.ref 42) (.ref x))) :: R) →
      Q none ⟨h', g, dr, t', os⟩) :
    wpAny (model prog w) A (pyNext (.ref it)) Q E ⟨h, g, dr, tk, os⟩ := by
  obtain ⟨o, fd, f1, f2⟩ := f_gt w.params
  have f1 := G.X _ _ f1
  refine pyNext_cit hA.handled (O.eq (by walk_at "mem")) (O.eq (by walk_at "mem")) (O.keep _ _ f1) f2 (get_token_pop G hA.in1 hx hz O (fun h' t' O' => ?_))
  exact ⟨_, _, rfl, O'.eq (by walk_at "mem"), O'.eq (by walk_at "mem"), O'.keep _ _ f1, fun hn => k1 (fun e => hn (by rw [e]; rfl)) h' t' O', fun he h'' hex hi => k2 (Classical.byContradiction fun hn => word_ne hn he) h'' _ (O'.putExt (Put.tail (Put.tail (Put.tail Put.head))) hex ⟨_, hi, rfl⟩)⟩

/-- all words of the section go into the list -/
theorem ext_lex {R' : Result → Shared → Prop} {res : Value} (G : Gr (KH w.params) p loose mg mb B) (St : Strm prog w B fs fr pl cs) (hA : Ar A 9) (hx : B.get? x = some ⟨.ref 52, some d, .plain, #[]⟩) (hcs : cs.length ≤ 1000000) :
    ∀ (n q : Nat) (vs : List Value) (h : Heap) (tk : Nat), cs.length - q ≤ n → q ≤ cs.length → vs.length + n ≤ 2000000 →
    Own B h (LX x d pb pl fs cs q [] ((it, EqP (citObj (.ref bm) (.str (Str.ofString "") u))) :: (bm, EqP (methodObj (.ref 42) (.ref x))) :: (S, ListP vs) :: R)) →
    (∀ vs' q' h' t', StrsAre vs' ((secT (cs.drop q)).1.map word) → q' = cs.length - (secT (cs.drop q)).2.length →
      Own B h' (LX x d pb pl fs cs q' [] ((it, EqP citEnd) :: (bm, EqP (methodObj (.ref 42) (.ref x))) :: (S, ListP (vs ++ vs')) :: R)) → R' (.ok (.ret res)) ⟨h', g, dr, t', os⟩) →
    codeAny (model prog w) A (.builtin "list.extend.loop" ⟨[.ref S, .ref it, res], []⟩) R' ⟨h, g, dr, tk, os⟩ := by
  intro n
  induction n with
  | zero =>
    intro q vs h tk hn hq hz O k
    refine codeAny_builtin PySem.F.entry_extend_loop ?_
    rw [Around.under_plainId PySem.F.plain_extend_loop _]
    show wpAny _ A.in1 (pyNext (.ref it) >>= _) _ _ _
    have e0 : cs.drop q = [] := List.drop_eq_nil_of_le (by (first | assumption | decide | exact Nat.le_trans (by assumption) (by decide) | exact Nat.sub_succ_lt_self _ _ (by assumption) | exact Nat.succ_le_of_lt (by assumption) | exact Nat.le_of_lt (by assumption) | lia | omega))
    have e1 : lexT [] = ([], []) := by rw [lexT]
    refine wpAny_bind (next_lex G St hA.in1 hx hcs O hq (fun hne => ?_) (fun he q' h' t' hq' O' => ?_))
    · rw [e0, e1] at hne; exact absurd rfl hne
    · refine wpAny_pure (k [] q' h' t' ?_ ?_ ?_)
      · rw [secT_nil he]; exact .nil
      · rw [secT_nil he]; exact hq'
      · rw [List.append_nil]; exact O'
  | succ n ih =>
    intro q vs h tk hn hq hz O k
    refine codeAny_builtin PySem.F.entry_extend_loop ?_
    rw [Around.under_plainId PySem.F.plain_extend_loop _]
    show wpAny _ A.in1 (pyNext (.ref it) >>= _) _ _ _
    refine wpAny_bind (next_lex G St hA.in1 hx hcs O hq (fun hne q' h' t' u' hq' O' => ?_) (fun he q' h' t' hq' O' => ?_))
    · have hlt := lexT_lt hne
      rw [List.length_drop] at hlt
      refine wpAny_bind (x_push O' (by walk_at "mem") (by walk_at "put") (by rw [sizeLine_eq]; (first | assumption | decide | exact Nat.le_trans (by assumption) (by decide) | exact Nat.sub_succ_lt_self _ _ (by assumption) | exact Nat.succ_le_of_lt (by assumption) | exact Nat.le_of_lt (by assumption) | lia | omega)) ?_)
      intro h2 t2 O2
      have ed : cs.drop q' = (lexT (cs.drop q)).2 := by
        rw [hq']; exact lexT_drop cs q
      refine wpAny_pure ⟨plainId_quiet PySem.F.plain_extend_loop _, ih q' (vs ++ [_]) h2 t2 (by (first | assumption | decide | exact Nat.le_trans (by assumption) (by decide) | exact Nat.sub_succ_lt_self _ _ (by assumption) | exact Nat.succ_le_of_lt (by assumption) | exact Nat.le_of_lt (by assumption) | lia | omega)) (by (first | assumption | decide | exact Nat.le_trans (by assumption) (by decide) | exact Nat.sub_succ_lt_self _ _ (by assumption) | exact Nat.succ_le_of_lt (by assumption) | exact Nat.le_of_lt (by assumption) | lia | omega)) (by simp; (first | assumption | decide | exact Nat.le_trans (by assumption) (by decide) | exact Nat.sub_succ_lt_self _ _ (by assumption) | exact Nat.succ_le_of_lt (by assumption) | exact Nat.le_of_lt (by assumption) | lia | omega)) O2 ?_⟩
      intro vs' q'' h3 t3 hs hq'' O3
      rw [ed] at hs hq''
      refine k (.str (word (lexT (cs.drop q)).1) u' :: vs') q'' h3 t3 ?_ ?_ ?_
      · rw [secT_cons hne]; exact .cons _ _ hs
      · rw [secT_cons hne]; exact hq''
      · rw [List.append_cons]; exact O3
    · refine wpAny_pure (k [] q' h' t' ?_ ?_ ?_)
      · rw [secT_nil he]; exact .nil
      · rw [secT_nil he]; exact hq'
      · rw [List.append_nil]; exact O'

/-- a word that waits goes into the list, the loop goes on -/
theorem ext_pop {R' : Result → Shared → Prop} {res : Value} {c : List Nat} {u' : Tok} {pbs vs : List Value} (G : Gr (KH w.params) p loose mg mb B) (hA : Ar A 4) (hx : B.get? x = some ⟨.ref 52, some d, .plain, #[]⟩) (hz : pbs.length ≤ 1000000) (hv : vs.length ≤ 2000000)
    (hc : c ≠ [])
    (O : Own B h ((d, LexP ln fs pb) :: (pb, ListP (.str (word c) u' :: pbs)) :: e2 :: (it, EqP (citObj (.ref bm) (.str (Str.ofString "") u))) :: (bm, EqP (methodObj (.ref 42) (.ref x))) :: (S, ListP vs) :: R))
    (k : ∀ h' t', Own B h' ((d, LexP ln fs pb) :: (pb, ListP pbs) :: e2 :: (it, EqP (citObj (.ref bm) (.str (Str.ofString "") u))) :: (bm, EqP (methodObj (.ref 42) (.ref x))) :: (S, ListP (vs ++ [.str (word c) u'])) :: R) →
      codeAny (model prog w) A (.builtin "list.extend.loop" ⟨[.ref S, .ref it, res], []⟩) R' ⟨h', g, dr, t', os⟩) :
    codeAny (model prog w) A (.builtin "list.extend.loop" ⟨[.ref S, .ref it, res], []⟩) R' ⟨h, g, dr, tk, os⟩ := by
  refine codeAny_builtin PySem.F.entry_extend_loop ?_
  rw [Around.under_plainId PySem.F.plain_extend_loop _]
  show wpAny _ A.in1 (pyNext (.ref it) >>= _) _ _ _
  refine wpAny_bind (next_pop G hA.in1 hx hz O (fun _ h' t' O' => ?_) (fun e => absurd e hc))
  refine wpAny_bind (x_push O' (by walk_at "mem") (by walk_at "put") (by rw [sizeLine_eq]; (first | assumption | decide | exact Nat.le_trans (by assumption) (by decide) | exact Nat.sub_succ_lt_self _ _ (by assumption) | exact Nat.succ_le_of_lt (by assumption) | exact Nat.le_of_lt (by assumption) | lia | omega)) ?_)
  intro h2 t2 O2
  exact wpAny_pure ⟨plainId_quiet PySem.F.plain_extend_loop _, k _ _ O2⟩
/-- the empty word waits: the loop ends -/
theorem ext_popEnd {R' : Result → Shared → Prop} {res : Value} {u' : Tok} {pbs : List Value} (G : Gr (KH w.params) p loose mg mb B) (hA : Ar A 4) (hx : B.get? x = some ⟨.ref 52, some d, .plain, #[]⟩) (hz : pbs.length ≤ 1000000)
    (O : Own B h ((d, LexP ln fs pb) :: (pb, ListP (.str (word []) u' :: pbs)) :: e2 :: (it, EqP (citObj (.ref bm) (.str (Str.ofString "") u))) :: (bm, EqP (methodObj (.ref 42) (.ref x))) :: R))
    (k : ∀ h' t', Own B h' ((d, LexP ln fs pb) :: (pb, ListP pbs) :: e2 :: (it, EqP citEnd) :: (bm, EqP (methodObj (.ref 42) (.ref x))) :: R) → R' (.ok (.ret res)) ⟨h', g, dr, t', os⟩) :
    codeAny (model prog w) A (.builtin "list.extend.loop" ⟨[.ref S, .ref it, res], []⟩) R' ⟨h, g, dr, tk, os⟩ := by
  refine codeAny_builtin PySem.F.entry_extend_loop ?_
  rw [Around.under_plainId PySem.F.plain_extend_loop _]
  show wpAny _ A.in1 (pyNext (.ref it) >>= _) _ _ _
  exact wpAny_bind (next_pop G hA.in1 hx hz O (fun e => absurd rfl e) (fun _ h' t' O' => wpAny_pure (k _ _ O')))

theorem cit_no_len : typeLookup (.type "callable_iterator") "__len__" = pure none := by rw [typeLookup_type, builtinLookup_eq_fast]; kernel_rfl
theorem cit_no_hint : typeLookup (.type "callable_iterator") "__length_hint__" = pure none := by rw [typeLookup_type, builtinLookup_eq_fast]; kernel_rfl

/-- list.extend over such an iterator comes to the loop -/
theorem ext_begin {R' : Result → Shared → Prop} {res a b : Value} (O : Own B h ((S, ListP []) :: l)) (hi : (it, EqP (citObj a b)) ∈ l)
    (k : ∀ h' t', Own B h' ((S, ListP []) :: l) → codeAny (model prog w) A (.builtin "list.extend.loop" ⟨[.ref S, .ref it, res], []⟩) R' ⟨h', g, dr, t', os⟩) :
    wpAny (model prog w) A.in1 (Builtin.List.listExtendWith (.ref S) (.ref it) res)
      (fun fin s' => match fin with | .done f => R' (.ok f) s' | .again c' => c'.quiet = true ∧ codeAny (model prog w) A c' R' s') (fun e s' => R' (.error e) s') ⟨h, g, dr, tk, os⟩ := by
  have ho := O.eq (.tail _ hi)
  have T : (⟨h, g, dr, tk, os⟩ : Shared).TypeIs (.ref it) "callable_iterator" := ⟨_, ho, rfl⟩
  have hne : S ≠ it := fun e => (List.nodup_cons.mp O.nodup).1 (e ▸ List.mem_map_of_mem (f := (·.1)) hi)
  unfold Builtin.List.listExtendWith
  refine wpAny_bind (wpAny_typeOf T ?_)
  have h1 : Builtin.List.listSameRef (.ref S) (.ref it) = false := by simp [Builtin.List.listSameRef, hne]
  have h2 : (Value.type "callable_iterator" == Value.type "list") = false := by decide
  have h3 : (Value.type "callable_iterator" == Value.type "tuple") = false := by decide
  simp only [h1, h2, h3, Bool.or_false, Bool.false_eq_true, if_false]
  refine wpAny_bind (pyIter_cit ho ?_)
  refine wpAny_bind (wpAny_holding ?_)
  unfold Builtin.List.listLengthHint
  refine wpAny_bind (wpAny_specialOf T cit_no_len ?_)
  show wpAny _ A.in1 (specialOf (Value.ref it) (Str.ofString "__length_hint__") >>= _) _ _ _
  refine wpAny_bind (wpAny_specialOf T cit_no_hint ?_)
  refine wpAny_pure ?_
  show wpAny _ A.in1 (rule "list.extend.makes-room" >>= fun _ => Builtin.List.listTouch (.ref S) >>= fun _ =>
    again (.builtin "list.extend.loop" ⟨[.ref S, .ref it, res], []⟩)) _ _ _
  refine wpAny_bind (wpAny_rule ?_)
  refine wpAny_bind ?_
  obtain ⟨o, hS, n, rfl⟩ := O.get (.head _)
  show wpAny _ A.in1 (updateSeq S (·.push .none) >>= fun _ => updateSeq S (·.pop)) _ _ _
  refine wpAny_bind (wpAny_updateSeq hS rfl ?_)
  have hS₂ := Heap.get?_update_self (Obj.mapSeq (·.push Value.none)) hS rfl
  refine wpAny_updateSeq hS₂ rfl ?_
  have hS₃ := Heap.get?_update_self (Obj.mapSeq (·.pop)) hS₂ rfl
  exact wpAny_pure ⟨plainId_quiet PySem.F.plain_extend_loop _, k _ _ (O.putSame Put.head ((Heap.SameBut.update ..).trans (Heap.SameBut.update ..)) ⟨_, hS₃, n + 1 + 1, by simp [Obj.mapSeq]⟩)⟩

/-- collect over such an iterator -/
theorem collect_cit {Q : List Value → Shared → Prop} {a b : Value} (O : Own B h l) (hi : (it, EqP (citObj a b)) ∈ l)
    (k : ∀ S h' t', Own B h' ((S, ListP []) :: l) → codeAny (model prog w) A (.builtin "list.extend.loop" ⟨[.ref S, .ref it, .ref S], []⟩) (fun r s' => r = .ok (.ret (.ref S)) ∧ ∃ vs, (∃ o, s'.heap.get? S = some o ∧ ListP vs o) ∧ Q vs s') ⟨h', g, dr, t', os⟩) :
    wpAny (model prog w) A (collect (.ref it)) Q E ⟨h, g, dr, tk, os⟩ := by
  unfold collect
  refine wpAny_bind (wpAny_runValue (codeAny_builtin PySem.F.entry_proto_collect ?_))
  rw [Around.under_plainId PySem.F.plain_proto_collect _]
  show wpAny _ A.in1 (newList [] >>= fun l => again (.builtin "list.__iadd__" ⟨[l, .ref it], []⟩)) _ _ _
  refine wpAny_bind (x_list O ?_)
  intro S h1 t1 O1
  refine wpAny_pure ⟨plainId_quiet PySem.F.plain_list_iadd _, codeAny_builtin PySem.F.entry_list_iadd ?_⟩
  rw [Around.under_plainId PySem.F.plain_list_iadd _]
  show wpAny _ A.in1 (Builtin.List.listExtendWith (.ref S) (.ref it) (.ref S)) _ _ _
  refine wpAny_mono (ext_begin O1 hi fun h2 t2 O2 => k S h2 t2 O2) (fun fin s' z => ?_) fun e s' z => ?_
  · cases fin with
    | done f =>
      obtain ⟨e, vs, ⟨o, ho, n, rfl⟩, hQ⟩ := z
      cases e
      show wpAny _ A (load S >>= _) _ _ _
      refine wpAny_bind (wpAny_load ho ?_)
      refine wpAny_pure ?_
      simpa using hQ
    | again c =>
      refine ⟨z.1, codeAny_mono z.2 fun r s' z => ?_⟩
      obtain ⟨rfl, vs, ⟨o, ho, n, rfl⟩, hQ⟩ := z
      show wpAny _ A (load S >>= _) _ _ _
      refine wpAny_bind (wpAny_load ho ?_)
      refine wpAny_pure ?_
      simpa using hQ
  · exact nomatch z.1

/-- sorting a list of texts, in place -/
theorem x_sort {a : Addr} {vs : List Value} {ss : List Str} {Q : Value → Shared → Prop} (O : Own B h ((a, ListP vs) :: l)) (hS : StrsAre vs ss) (h64 : vs.length < 64)
    (k : ∀ vs' ss' h' t', StrsAre vs' ss' → ss'.Perm ss → sortedS ss' = true → Own B h' ((a, ListP vs') :: l) → Q .none ⟨h', g, dr, t', os⟩) :
    wpAny (model prog w) A (call (.builtin "list.sort") [.ref a]) Q E ⟨h, g, dr, tk, os⟩ := by
  obtain ⟨o, ho, n, rfl⟩ := O.get (.head _)
  refine wpAny_call_entry PyProof.Rows.slot_list_sort ⟨_, ho, rfl⟩ PyProof.Rows.entry_list_sort (list_sort_treeK strKind_oneLt ho hS.keysOf (fun v₁ v₂ rest e => keyKind_strs (by rw [← e]; exact hS)) h64 fun st' hp hs => ⟨_, rfl, ?_⟩) (args_list_sort _)
  obtain ⟨ss', h1, h2, h3⟩ := sorted_out_str hS hp hs
  obtain ⟨e, he⟩ := sortedHeap_at (out := (arrOf st').map (·.2)) ho
  refine k _ ss' _ _ h1 h2 h3 (O.put Put.head (fun b o hb e => ?_) ⟨_, he, e, by rw [Array.toArray_toList]⟩)
  exact (sortedHeap_old hb (Heap.lt_size e)).trans e

/-- sorted, behind collect -/
theorem x_sorted {v : Value} {Q : Value → Shared → Prop}
    (k : wpAny (model prog w) A.in1 (collect v) (fun vs s' => ∃ (B : Heap) (l : List Ent) (ss : List Str) (h : Heap) (t : Nat), s' = ⟨h, g, dr, t, os⟩ ∧ Own B h l ∧ StrsAre vs ss ∧ vs.length < 64 ∧
      ∀ D vs' ss' h' t', StrsAre vs' ss' → ss'.Perm ss → sortedS ss' = true → Own B h' ((D, ListP vs') :: l) → Q (.ref D) ⟨h', g, dr, t', os⟩) E ⟨h, g, dr, tk, os⟩) :
    wpAny (model prog w) A (call (.builtin "sorted") [v]) Q E ⟨h, g, dr, tk, os⟩ := by
  refine call_function_entry kind_sorted plain_sorted entry_sorted (args_sorted1 _) ?_
  unfold Builtin.«sorted»
  refine wpAny_bind (m := checkCount "sorted" 1 1 _) (wpAny_pure ?_)
  refine wpAny_bind (wpAny_mono k (fun vs s' z => ?_) fun _ _ z => z)
  obtain ⟨B, l, ss, h, t, rfl, O, hS, h64, z⟩ := z
  refine wpAny_bind (x_list O ?_ (by rw [sizeLine_eq]; (first | assumption | decide | exact Nat.le_trans (by assumption) (by decide) | exact Nat.sub_succ_lt_self _ _ (by assumption) | exact Nat.succ_le_of_lt (by assumption) | exact Nat.le_of_lt (by assumption) | lia | omega)))
  intro D h1 t1 O1
  refine wpAny_bind (wpAny_holding (x_sort O1 hS h64 fun vs' ss' h' t' a1 a2 a3 O2 => ?_))
  exact wpAny_pure ⟨_, rfl, z D vs' ss' h' t' a1 a2 a3 O2⟩
end
end Mine
end

/- part TwoBE -/
section
open PySem PySem.W PyProof.Rows PySem.Calls
set_option Elab.async false
set_option maxRecDepth 100000
set_option maxHeartbeats 4000000
namespace Mine
theorem entry_set_len' : entryFor table "set.__len__" = some Builtin.«frozenset.__len__» :=
  entryFor_alias (id' := "frozenset.__len__") (by kernel_rfl) rfl (by decide +kernel) (by kernel_rfl)
section
variable {prog : Program} {w : World} {A : Around} {E : Value → Shared → Prop} {h : Heap} {g : Array GenState} {dr : Drawn} {tk : Nat} {os : OsState} {B : Heap} {l l' : List Ent} {D it S : Addr}

theorem ext_set {R' : Result → Shared → Prop} {res : Value} {Nx : Nat → Obj → Prop} {vs : List Value} {B0 : Heap} (hh : A.handled = none) (st : StepSet prog w B0 it Nx vs) (hz : vs.length ≤ 100000) (hB : Sub B0 B) :
    ∀ (n i : Nat) (h : Heap) (tk : Nat), vs.length - i = n → i ≤ vs.length → Own B h ((it, Nx i) :: (S, ListP (vs.take i)) :: l) →
    (∀ h' t', Own B h' ((S, ListP vs) :: l) → R' (.ok (.ret res)) ⟨h', g, dr, t', os⟩) →
    codeAny (model prog w) A (.builtin "list.extend.loop" ⟨[.ref S, .ref it, res], []⟩) R' ⟨h, g, dr, tk, os⟩ := by
  intro n
  induction n with
  | zero =>
    intro i h tk hn hi O k
    refine codeAny_builtin PySem.F.entry_extend_loop ?_
    rw [Around.under_plainId PySem.F.plain_extend_loop _]
    show wpAny _ A.in1 (pyNext (.ref it) >>= _) _ _ _
    refine wpAny_bind (st _ _ _ _ _ _ _ _ _ _ _ (by show A.handled = none; exact hh) hB O hi (fun v hv _ _ => ?_) (fun _ h' hk => ?_))
    · have := (List.getElem?_eq_some_iff.mp hv).1; (first | assumption | decide | exact Nat.le_trans (by assumption) (by decide) | exact Nat.sub_succ_lt_self _ _ (by assumption) | exact Nat.succ_le_of_lt (by assumption) | exact Nat.le_of_lt (by assumption) | lia | omega)
    · have O := O.drop3 hk
      rw [List.take_of_length_le (by (first | assumption | decide | exact Nat.le_trans (by assumption) (by decide) | exact Nat.sub_succ_lt_self _ _ (by assumption) | exact Nat.succ_le_of_lt (by assumption) | exact Nat.le_of_lt (by assumption) | lia | omega))] at O
      exact wpAny_pure (k _ _ O)
  | succ n ih =>
    intro i h tk hn hi O k
    refine codeAny_builtin PySem.F.entry_extend_loop ?_
    rw [Around.under_plainId PySem.F.plain_extend_loop _]
    show wpAny _ A.in1 (pyNext (.ref it) >>= _) _ _ _
    refine wpAny_bind (st _ _ _ _ _ _ _ _ _ _ _ (by show A.handled = none; exact hh) hB O hi (fun v hv h' O' => ?_) (fun hv _ _ => ?_))
    · refine wpAny_bind (x_push O' (.tail _ (.head _)) (.tail .head) (by rw [sizeLine_eq]; simp; (first | assumption | decide | exact Nat.le_trans (by assumption) (by decide) | exact Nat.sub_succ_lt_self _ _ (by assumption) | exact Nat.succ_le_of_lt (by assumption) | exact Nat.le_of_lt (by assumption) | lia | omega)) ?_)
      intro h2 t2 O2
      refine wpAny_pure ⟨plainId_quiet PySem.F.plain_extend_loop _, ih (i + 1) h2 t2 (by (first | assumption | decide | exact Nat.le_trans (by assumption) (by decide) | exact Nat.sub_succ_lt_self _ _ (by assumption) | exact Nat.succ_le_of_lt (by assumption) | exact Nat.le_of_lt (by assumption) | lia | omega)) (by (first | assumption | decide | exact Nat.le_trans (by assumption) (by decide) | exact Nat.sub_succ_lt_self _ _ (by assumption) | exact Nat.succ_le_of_lt (by assumption) | exact Nat.le_of_lt (by assumption) | lia | omega)) ?_ k⟩
      rw [List.take_add_one, hv]; exact O2
    · rw [List.getElem?_eq_none_iff] at hv; (first | assumption | decide | exact Nat.le_trans (by assumption) (by decide) | exact Nat.sub_succ_lt_self _ _ (by assumption) | exact Nat.succ_le_of_lt (by assumption) | exact Nat.le_of_lt (by assumption) | lia | omega)

theorem collect_set {M : List Str} {o : Obj} {Q : List Value → Shared → Prop} (hh : A.handled = none) (O : Own B h l) (hD : B.get? D = some o) (hS : SetP prog w M o) (hz : M.length < 4000)
    (k : ∀ B' S vs ss h' t' dr', Sub B B' → StrsAre vs ss → (∀ y, y ∈ ss ↔ y ∈ M) → ss.length ≤ M.length → Own B' h' ((S, ListP vs) :: l) → Q vs ⟨h', g, dr', t', os⟩) :
    wpAny (model prog w) A (collect (.ref D)) Q E ⟨h, g, dr, tk, os⟩ := by
  have hcls : o.cls = .type "set" := by obtain ⟨es, ep, t, rfl, _⟩ := hS; rfl
  unfold collect
  refine wpAny_bind (wpAny_runValue (codeAny_builtin PySem.F.entry_proto_collect ?_))
  rw [Around.under_plainId PySem.F.plain_proto_collect _]
  show wpAny _ A.in1 (newList [] >>= fun l => again (.builtin "list.__iadd__" ⟨[l, .ref D], []⟩)) _ _ _
  refine wpAny_bind (x_list O ?_)
  intro S h1 t1 O1
  refine wpAny_pure ⟨plainId_quiet PySem.F.plain_list_iadd _, codeAny_builtin PySem.F.entry_list_iadd ?_⟩
  rw [Around.under_plainId PySem.F.plain_list_iadd _]
  show wpAny _ A.in1 (Builtin.List.listExtendWith (.ref S) (.ref D) (.ref S)) _ _ _
  have hSD : S ≠ D := fun e => by
    have h0 : B.get? S = none := (O1.own _ (.head _)).2
    rw [e, hD] at h0; cases h0
  have T : (⟨h1, g, dr, t1, os⟩ : Shared).TypeIs (.ref D) "set" := ⟨_, O1.keep _ _ hD, hcls⟩
  unfold Builtin.List.listExtendWith
  refine wpAny_bind (wpAny_typeOf T ?_)
  have e1 : Builtin.List.listSameRef (.ref S) (.ref D) = false := by simp [Builtin.List.listSameRef, hSD]
  have e2 : (Value.type "set" == Value.type "list") = false := by decide
  have e3 : (Value.type "set" == Value.type "tuple") = false := by decide
  simp only [e1, e2, e3, Bool.or_false, Bool.false_eq_true, if_false]
  refine wpAny_bind (iter_set O1 hD hS hz ?_)
  intro it B' h2 dr2 t2 Nx vs ss hB' O2 hvs hmem hle st
  refine wpAny_bind (wpAny_holding ?_)
  have T2 : (⟨h2, g, dr2, t2, os⟩ : Shared).TypeIs (.ref D) "set" := ⟨_, O2.keep _ _ (hB' _ _ hD), hcls⟩
  unfold Builtin.List.listLengthHint
  refine wpAny_bind (wpAny_specialOf T2 F.slot_set_len.lookup ?_)
  have hsp : splitId "set.__len__" = some ("set", "__len__") := by decide +kernel
  simp only [hsp]
  refine wpAny_bind (wpAny_isInstance T2 sub_set_self ?_)
  simp only [Bool.not_true, Bool.false_eq_true, if_false]
  rw [if_pos (by decide +kernel)]
  refine wpAny_bind (wpAny_typeOf T2 ?_)
  show wpAny _ _ (pure false) _ _ _
  refine wpAny_pure ?_
  show wpAny _ A.in1 (rule "list.extend.makes-room" >>= fun _ => Builtin.List.listTouch (.ref S) >>= fun _ =>
    again (.builtin "list.extend.loop" ⟨[.ref S, .ref it, .ref S], []⟩)) _ _ _
  refine wpAny_bind (wpAny_rule ?_)
  refine wpAny_bind ?_
  obtain ⟨oS, hoS, n, rfl⟩ := O2.get (.tail _ (.head _))
  show wpAny _ A.in1 (updateSeq S (·.push .none) >>= fun _ => updateSeq S (·.pop)) _ _ _
  refine wpAny_bind (wpAny_updateSeq hoS rfl ?_)
  have hS₂ := Heap.get?_update_self (Obj.mapSeq (·.push Value.none)) hoS rfl
  refine wpAny_updateSeq hS₂ rfl ?_
  have hS₃ := Heap.get?_update_self (Obj.mapSeq (·.pop)) hS₂ rfl
  have O3 := O2.putSame (Put.tail (Put.head (P' := ListP []))) ((Heap.SameBut.update ..).trans (Heap.SameBut.update ..)) ⟨_, hS₃, n + 1 + 1, by simp [Obj.mapSeq]⟩
  have hlen : vs.length ≤ 4000 := by rw [hvs.length]; (first | assumption | decide | exact Nat.le_trans (by assumption) (by decide) | exact Nat.sub_succ_lt_self _ _ (by assumption) | exact Nat.succ_le_of_lt (by assumption) | exact Nat.le_of_lt (by assumption) | lia | omega)
  refine wpAny_pure ⟨plainId_quiet PySem.F.plain_extend_loop _, ext_set (B0 := B') (by show A.handled = none; exact hh) st (by (first | assumption | decide | exact Nat.le_trans (by assumption) (by decide) | exact Nat.sub_succ_lt_self _ _ (by assumption) | exact Nat.succ_le_of_lt (by assumption) | exact Nat.le_of_lt (by assumption) | lia | omega)) (Sub.refl _) (vs.length - 0) 0 _ _ rfl (Nat.zero_le _) O3 fun h3 t3 O4 => ?_⟩
  obtain ⟨oS, hoS, n, rfl⟩ := O4.get (.head _)
  show wpAny _ A (load S >>= _) _ _ _
  refine wpAny_bind (wpAny_load hoS ?_)
  refine wpAny_pure ?_
  have := k B' S vs ss h3 t3 dr2 hB' hvs hmem hle O4
  simpa using this

/-- sorted over a set of texts -/
theorem sorted_set {M : List Str} {o : Obj} {Q : Value → Shared → Prop} (hh : A.handled = none) (O : Own B h l) (hD : B.get? D = some o) (hS : SetP prog w M o) (hz : M.length < 64)
    (k : ∀ B' C vs ss h' t' dr', Sub B B' → StrsAre vs ss → (∀ y, y ∈ ss ↔ y ∈ M) → sortedS ss = true → Own B' h' ((C, ListP vs) :: l) → Q (.ref C) ⟨h', g, dr', t', os⟩) :
    wpAny (model prog w) A (call (.builtin "sorted") [.ref D]) Q E ⟨h, g, dr, tk, os⟩ := by
  refine call_function_entry kind_sorted plain_sorted entry_sorted (args_sorted1 _) ?_
  unfold Builtin.«sorted»
  refine wpAny_bind (m := checkCount "sorted" 1 1 _) (wpAny_pure ?_)
  refine wpAny_bind (collect_set (by show A.handled = none; exact hh) O hD hS (by (first | assumption | decide | exact Nat.le_trans (by assumption) (by decide) | exact Nat.sub_succ_lt_self _ _ (by assumption) | exact Nat.succ_le_of_lt (by assumption) | exact Nat.le_of_lt (by assumption) | lia | omega)) fun B' S vs ss h1 t1 dr1 hB' hvs hmem hle O1 => ?_)
  have hlen : vs.length < 64 := by rw [hvs.length]; (first | assumption | decide | exact Nat.le_trans (by assumption) (by decide) | exact Nat.sub_succ_lt_self _ _ (by assumption) | exact Nat.succ_le_of_lt (by assumption) | exact Nat.le_of_lt (by assumption) | lia | omega)
  refine wpAny_bind (x_list O1 ?_ (by rw [sizeLine_eq]; (first | assumption | decide | exact Nat.le_trans (by assumption) (by decide) | exact Nat.sub_succ_lt_self _ _ (by assumption) | exact Nat.succ_le_of_lt (by assumption) | exact Nat.le_of_lt (by assumption) | lia | omega)))
  intro C h2 t2 O2
  refine wpAny_bind (wpAny_holding (x_sort O2 hvs hlen fun vs' ss' h' t' a1 a2 a3 O3 => ?_))
  exact wpAny_pure ⟨_, rfl, k B' C vs' ss' h' t' dr1 hB' a1 (fun y => (a2.mem_iff).trans (hmem y)) a3 (O3.cut [_])⟩
end
end Mine
end

/- part AltTwoM -/
section
open PySem PySem.W PyProof.Rows PySem.Calls
set_option Elab.async false
set_option maxRecDepth 100000
set_option maxHeartbeats 4000000
namespace Mine

section
variable {prog : Program} {w : World} {A : Around} {E : Value → Shared → Prop} {h : Heap} {g : Array GenState} {dr : Drawn} {tk : Nat} {os : OsState} {B : Heap} {p : Program} {loose : List Str} {mg mb : Str → Option Value}
  {cs : List Nat} {R l l' : List Ent} {u : Tok}

def SgnV (B : Heap) (v : Value) (s : Sgn) : Prop := ∃ a t u, v = .ref a ∧ IsTup B a #[.bool s.1, .str (word s.2.1) t, .int (s.2.2 : Int) u]
theorem SgnV.mono {B B' : Heap} {v : Value} {s : Sgn} (h : SgnV B v s) (k : Sub B B') : SgnV B' v s := by obtain ⟨a, t, u, e, i⟩ := h; exact ⟨a, t, u, e, i.keeps k⟩
structure WM1 (txt : Str) (tt : Tok) (sg : Addr) (q : Nat) (m : Str → Option Value) : Prop where
  text : m "text" = some (.str txt tt)
  signs : m "signs" = some (.ref sg)
  at' : ∃ t, m "at" = some (.int (q : Int) t)

def RowV (B : Heap) (v : Value) (s : List Nat × Nat) : Prop := ∃ a t u, v = .ref a ∧ IsTup B a #[.str (word s.1) t, .int (s.2 : Int) u]
theorem RowV.mono {B B' : Heap} {v : Value} {s : List Nat × Nat} (h : RowV B v s) (k : Sub B B') : RowV B' v s := by obtain ⟨a, t, u, e, i⟩ := h; exact ⟨a, t, u, e, i.keeps k⟩
structure WM2 (txt : Str) (tt : Tok) (sg rw : Addr) (q : Nat) (m : Str → Option Value) : Prop where
  text : m "text" = some (.str txt tt)
  signs : m "signs" = some (.ref sg)
  rows : m "rows" = some (.ref rw)
  at' : ∃ t, m "at" = some (.int (q : Int) t)

theorem test_goes {S : List Sgn} {j : Nat} {qd : Bool} {s : Sgn} (h : S[j]? = some s) : (∃ s, S[j]? = some s ∧ goes qd s = true) ↔ goes qd s = true :=
  ⟨fun ⟨s', h1, h2⟩ => by rw [h] at h1; cases h1; exact h2, fun z => ⟨s, h, z⟩⟩
theorem tup_eq {h : Heap} {a : Addr} {xs ys : Array Value} (x : IsTup h a xs) (y : IsTup h a ys) : xs = ys := by
  obtain ⟨o, h1, _, n, h2⟩ := x
  obtain ⟨o', h3, _, n', h4⟩ := y
  rw [h1] at h3; cases h3
  rw [h2] at h4; cases h4; rfl
theorem Each.strsMap {α : Type} {f : α → Str} : ∀ {vs : List Value} {xs : List α}, Each (fun v x => ∃ t, v = .str (f x) t) vs xs → StrsAre vs (xs.map f)
  | [], [], _ => .nil
  | [], _ :: _, h => absurd h.1 (by simp)
  | _ :: _, [], h => absurd h.1 (by simp)
  | v :: vs, x :: xs, h => by
    obtain ⟨t, rfl⟩ := h.2 0 v x rfl rfl
    exact .cons _ _ (Each.strsMap ⟨by simpa using h.1, fun i v x a b => h.2 (i + 1) v x (by simpa using a) (by simpa using b)⟩)
theorem len_sum_le {α : Type} (f : α → Nat) : ∀ l : List α, (∀ x ∈ l, f x ≤ 1) → (l.map f).sum ≤ l.length
  | [], _ => by simp
  | x :: l, h => by
    have h1 := h x (.head _)
    have h2 := len_sum_le f l fun y hy => h y (.tail _ hy)
    simp; (first | assumption | decide | exact Nat.le_trans (by assumption) (by decide) | exact Nat.sub_succ_lt_self _ _ (by assumption) | exact Nat.succ_le_of_lt (by assumption) | exact Nat.le_of_lt (by assumption) | lia | omega)
theorem join_words' : ∀ l : List (List Nat), Str.join (Str.ofString "") (l.map word) = word l.flatten
  | [] => rfl
  | [x] => by show word x = _; simp
  | x :: y :: l => by
    show word x ++ Str.ofString "" ++ Str.join (Str.ofString "") ((y :: l).map word) = _
    rw [join_words' (y :: l)]
    apply str_ext
    simp [Str.cps_append, show (Str.ofString "").cps = #[] from rfl]
theorem join_words (l : List (List Nat)) : Txt.join (Str.ofString "") (l.map word) = word l.flatten := by
  rw [← join_words']; exact eq_of_beq (join_plain_closes _ _)
theorem x_notInWs {c : Nat} {t u : Tok} {s : Shared} {Q : Value → Shared → Prop} (k : Q (.bool (!isWs c)) s) : wpAny (model prog w) A (compareOp .NotIn (.str (word [c]) u) (.str (Str.ofString " \t\r\n") t)) Q E s := by
  refine notIn_str ?_
  have e := StrLaws.found_one (Str.ofString " \t\r\n") c
  rw [show (word [c]) = (⟨#[c]⟩ : Str) from rfl, e, show decide (c ∈ (Str.ofString " \t\r\n").cps.toList) = isWs c from ?_]
  · exact k
  · rw [Bool.eq_iff_iff, decide_eq_true_iff]
    show c ∈ [32, 9, 13, 10] ↔ _
    simp [isWs]; (first | assumption | decide | exact Nat.le_trans (by assumption) (by decide) | exact Nat.sub_succ_lt_self _ _ (by assumption) | exact Nat.succ_le_of_lt (by assumption) | exact Nat.le_of_lt (by assumption) | lia | omega)
theorem x_inWs {c : Nat} {t u : Tok} {s : Shared} {Q : Value → Shared → Prop} (k : Q (.bool (isWs c)) s) : wpAny (model prog w) A (compareOp .In (.str (word [c]) u) (.str (Str.ofString " \t\r\n") t)) Q E s := by
  refine in_str ?_
  have e := StrLaws.found_one (Str.ofString " \t\r\n") c
  rw [show (word [c]) = (⟨#[c]⟩ : Str) from rfl, e, show decide (c ∈ (Str.ofString " \t\r\n").cps.toList) = isWs c from ?_]
  · exact k
  · rw [Bool.eq_iff_iff, decide_eq_true_iff]
    show c ∈ [32, 9, 13, 10] ↔ _
    simp [isWs]; (first | assumption | decide | exact Nat.le_trans (by assumption) (by decide) | exact Nat.sub_succ_lt_self _ _ (by assumption) | exact Nat.succ_le_of_lt (by assumption) | exact Nat.le_of_lt (by assumption) | lia | omega)
theorem x_inQ {c : Nat} {t u : Tok} {s : Shared} {Q : Value → Shared → Prop} (k : Q (.bool (c == 34)) s) : wpAny (model prog w) A (compareOp .In (.str (word [c]) u) (.str (Str.ofString "\"") t)) Q E s := by
  refine in_str ?_
  have e := StrLaws.found_one (Str.ofString "\"") c
  rw [show (word [c]) = (⟨#[c]⟩ : Str) from rfl, e, show decide (c ∈ (Str.ofString "\"").cps.toList) = (c == 34) from ?_]
  · exact k
  · rw [Bool.eq_iff_iff, decide_eq_true_iff]
    show c ∈ [34] ↔ _
    simp
theorem law_words {R' : Result → Shared → Prop} {txt : Str} {tt : Tok} (G : Gr (KH w.params) p loose mg mb B) (hA : Ar A 4) (hx : txt.cps.toList = cs) (hcs : cs.length ≤ 100000)
    (O : Own B h R)
    (k : ∀ B' rw us h' t', Sub B B' → Own B' h' ((rw, ListP us) :: R) → Each (RowV B') us (rowsT cs.length (sgn cs 0)) → R' (.ok (.ret (.ref rw))) ⟨h', g, dr, t', os⟩) :
    codeAny (model prog w) A (.call (.ref 100) ⟨[.str txt tt], []⟩) R' ⟨h, g, dr, tk, os⟩ := by
  have hlen : txt.length = cs.length := by rw [← hx]; rfl
  refine x_enterK (pre := []) G O rfl (by kernel_rfl) hA.room rfl (locs rfl) ?_
  intro L h₁ t1 O
  dsimp only [List.cons_append, List.nil_append] at O
  walk_at "lt"
  walk_at "ws"
  rename_i sg h2 t2 O h3 t3 O3 _ _ t4 t5 h4 t6 O _ _
  refine codeAny_whileLoop (fun n s' => E7 fun q vs ss h t m B' => C9 (s' = ⟨h, g, dr, t, os⟩) (Sub B B') (n = cs.length + 1 - q) (q ≤ cs.length + 1) (ss.length ≤ q) (WM1 txt tt sg q m) (Each (SgnV B') vs ss) (ss ++ sgn (cs.drop q) q = sgn cs 0) (Own B' h ((sg, ListP vs) :: (L, NsP m) :: R))) ?_ _
    ⟨0, [], [], _, _, _, B, rfl, Sub.refl _, rfl, Nat.zero_le _, Nat.le_refl _, ⟨rfl, rfl, _, rfl⟩, .nil, rfl, O⟩
  clear O O3
  rintro n s' ⟨q, vs, ss, h, t, m, B', rfl, hB, rfl, hq, hss, hM, hE, hsg, O⟩
  walk_at "lt"
  have G' := G.mono hB
  obtain ⟨e1, e2, tq, e3⟩ := hM
  walk_at "ws"
  refine x_lenS (by (first | assumption | decide | exact Nat.le_trans (by assumption) (by decide) | exact Nat.sub_succ_lt_self _ _ (by assumption) | exact Nat.succ_le_of_lt (by assumption) | exact Nat.le_of_lt (by assumption) | lia | omega)) ?_
  intro t7 t8
  walk_at "ws"
  refine br (c := q < cs.length) (by rw [hlen]; simp) (fun hlt => ?_) (fun hge => ?_)
  · walk_at "ws"
    obtain ⟨c, hc⟩ : ∃ c, cs[q]? = some c := ⟨_, List.getElem?_eq_getElem hlt⟩
    refine x_charS (c := c) (by (first | assumption | decide | exact Nat.le_trans (by assumption) (by decide) | exact Nat.sub_succ_lt_self _ _ (by assumption) | exact Nat.succ_le_of_lt (by assumption) | exact Nat.le_of_lt (by assumption) | lia | omega)) (by rw [hx]; exact hc) ?_
    intro t9 t10
    walk_at "ws"
    refine brN (c := c ≠ 92) (by show (([c] : List Nat) != [92]) = true ↔ _; simp) (fun hb => ?_) (fun hb => ?_)
    · walk_at "ws"
      rename Own _ _ _ => O
      refine r_listMeth O (by walk_at "mem") slot_list_append PySem.F.type_list_append ?_
      walk_at "ws"
      rename Own _ _ _ => O
      refine x_sliceSS O (by rw [sizeLine_eq]; (first | assumption | decide | exact Nat.le_trans (by assumption) (by decide) | exact Nat.sub_succ_lt_self _ _ (by assumption) | exact Nat.succ_le_of_lt (by assumption) | exact Nat.le_of_lt (by assumption) | lia | omega)) ?_
      intro h9 t11 t12 O
      walk_at "ws"
      rename Own _ _ _ => O
      refine x_append O (by walk_at "mem") (by walk_at "put") (by rw [sizeLine_eq, hE.1]; (first | assumption | decide | exact Nat.le_trans (by assumption) (by decide) | exact Nat.sub_succ_lt_self _ _ (by assumption) | exact Nat.succ_le_of_lt (by assumption) | exact Nat.le_of_lt (by assumption) | lia | omega)) ?_
      intro h10 t13 O
      walk_at "ws"
      rename Own _ _ _ => O
      obtain ⟨B2, s2, O, ot, ht1, nt, ht2⟩ := O.freeze1
      rw [drop_cons hc, sgn_bare _ _ hb] at hsg
      refine ⟨_, ?_, q + 1, _, ss ++ [(true, [c], q + 1)], _, _, _, B2, rfl, hB.trans s2, rfl, by (first | assumption | decide | exact Nat.le_trans (by assumption) (by decide) | exact Nat.sub_succ_lt_self _ _ (by assumption) | exact Nat.succ_le_of_lt (by assumption) | exact Nat.le_of_lt (by assumption) | lia | omega), by simp; (first | assumption | decide | exact Nat.le_trans (by assumption) (by decide) | exact Nat.sub_succ_lt_self _ _ (by assumption) | exact Nat.succ_le_of_lt (by assumption) | exact Nat.le_of_lt (by assumption) | lia | omega), ?_, (hE.mono fun v s z => z.mono s2).snoc ?_, by rw [List.append_assoc]; exact hsg, O⟩
      · (first | assumption | decide | exact Nat.le_trans (by assumption) (by decide) | exact Nat.sub_succ_lt_self _ _ (by assumption) | exact Nat.succ_le_of_lt (by assumption) | exact Nat.le_of_lt (by assumption) | lia | omega)
      · exact ⟨e1, e2, _, rfl⟩
      · rw [slice_at hx q, drop_cons hc] at ht2
        have hbt : ((one c).cps.toList != (Str.ofString "\\").cps.toList) = true := by show (([c] : List Nat) != [92]) = true; simpa using hb
        rw [hbt] at ht2
        exact ⟨_, _, _, rfl, _, ht1, by rw [ht2], _, by rw [ht2]; rfl⟩
    · walk_at "ws"
      rename Own _ _ _ => O
      refine r_listMeth O (by walk_at "mem") slot_list_append PySem.F.type_list_append ?_
      walk_at "ws"
      rename Own _ _ _ => O
      refine x_sliceSS O (by rw [sizeLine_eq]; (first | assumption | decide | exact Nat.le_trans (by assumption) (by decide) | exact Nat.sub_succ_lt_self _ _ (by assumption) | exact Nat.succ_le_of_lt (by assumption) | exact Nat.le_of_lt (by assumption) | lia | omega)) ?_
      intro h9 t11 t12 O
      walk_at "ws"
      rename Own _ _ _ => O
      refine x_append O (by walk_at "mem") (by walk_at "put") (by rw [sizeLine_eq, hE.1]; (first | assumption | decide | exact Nat.le_trans (by assumption) (by decide) | exact Nat.sub_succ_lt_self _ _ (by assumption) | exact Nat.succ_le_of_lt (by assumption) | exact Nat.le_of_lt (by assumption) | lia | omega)) ?_
      intro h10 t13 O
      walk_at "ws"
      rename Own _ _ _ => O
      obtain ⟨B2, s2, O, ot, ht1, nt, ht2⟩ := O.freeze1
      have hb : c = 92 := Classical.byContradiction hb
      subst hb
      rw [drop_cons hc, sgn_esc] at hsg
      have ed : List.drop 1 (List.drop (q + 1) cs) = cs.drop (q + 2) := by rw [List.drop_drop]
      rw [ed] at hsg
      refine ⟨_, ?_, q + 2, _, ss ++ [(false, (cs.drop (q + 1)).take 1, q + 2)], _, _, _, B2, rfl, hB.trans s2, rfl, by (first | assumption | decide | exact Nat.le_trans (by assumption) (by decide) | exact Nat.sub_succ_lt_self _ _ (by assumption) | exact Nat.succ_le_of_lt (by assumption) | exact Nat.le_of_lt (by assumption) | lia | omega), by simp; (first | assumption | decide | exact Nat.le_trans (by assumption) (by decide) | exact Nat.sub_succ_lt_self _ _ (by assumption) | exact Nat.succ_le_of_lt (by assumption) | exact Nat.le_of_lt (by assumption) | lia | omega), ?_, (hE.mono fun v s z => z.mono s2).snoc ?_, by rw [List.append_assoc]; exact hsg, O⟩
      · (first | assumption | decide | exact Nat.le_trans (by assumption) (by decide) | exact Nat.sub_succ_lt_self _ _ (by assumption) | exact Nat.succ_le_of_lt (by assumption) | exact Nat.le_of_lt (by assumption) | lia | omega)
      · exact ⟨e1, e2, _, by show some (Value.int ((q : Int) + 1 + 1) _) = _; rw [show ((q : Int) + 1 + 1) = ((q + 2 : Nat) : Int) by (first | assumption | decide | exact Nat.le_trans (by assumption) (by decide) | exact Nat.sub_succ_lt_self _ _ (by assumption) | exact Nat.succ_le_of_lt (by assumption) | exact Nat.le_of_lt (by assumption) | lia | omega)]⟩
      · have e4 : ((q : Int) + 1) = ((q + 1 : Nat) : Int) := by (first | assumption | decide | exact Nat.le_trans (by assumption) (by decide) | exact Nat.sub_succ_lt_self _ _ (by assumption) | exact Nat.succ_le_of_lt (by assumption) | exact Nat.le_of_lt (by assumption) | lia | omega)
        rw [e4, slice_at hx (q + 1)] at ht2
        exact ⟨_, _, _, rfl, _, ht1, by rw [ht2], _, by rw [ht2]; rfl⟩
  · walk_at "ws"
    rename Own _ _ _ => O
    rename_i rw h5 t9 O5 h6 t10 O6 _ _ t11 t12 h7 t13 _ _
    have e0 : cs.drop q = [] := List.drop_eq_nil_of_le (by (first | assumption | decide | exact Nat.le_trans (by assumption) (by decide) | exact Nat.sub_succ_lt_self _ _ (by assumption) | exact Nat.succ_le_of_lt (by assumption) | exact Nat.le_of_lt (by assumption) | lia | omega))
    rw [e0, sgn_nil, List.append_nil] at hsg
    obtain ⟨B1, s1, O, osg, hsg1, nsg, hsg2⟩ := Own.freezeAt [_] O
    dsimp only [List.cons_append, List.nil_append] at O
    have hSl : B1.IsList sg vs.toArray := ⟨_, hsg1, by rw [hsg2], _, by rw [hsg2]⟩
    have hE := hE.mono fun v s z => z.mono s1
    rw [hsg] at hE hss
    have hB := hB.trans s1
    have hS : (sgn cs 0).length ≤ 100001 := by (first | assumption | decide | exact Nat.le_trans (by assumption) (by decide) | exact Nat.sub_succ_lt_self _ _ (by assumption) | exact Nat.succ_le_of_lt (by assumption) | exact Nat.le_of_lt (by assumption) | lia | omega)
    clear O5 O6 hsg hss hq
    have hone := sgn_one cs 0
    have hle := sgn_le cs 0
    generalize hSdef : sgn cs 0 = S at hE hS hone hle
    refine codeAny_whileLoop (fun n s' => E7 fun i us rs h t m B' => C9 (s' = ⟨h, g, dr, t, os⟩) (Sub B1 B') (Own B' h ((rw, ListP us) :: (L, NsP m) :: R)) (n = S.length + 1 - i) (i ≤ S.length + 1) (WM2 txt tt sg rw i m) (Each (RowV B') us rs) (rs.length ≤ i) (rs ++ rowsT cs.length (S.drop i) = rowsT cs.length S)) ?_ _
      ⟨0, [], [], _, _, _, B1, rfl, Sub.refl _, O, rfl, Nat.zero_le _, ⟨e1, e2, rfl, _, rfl⟩, .nil, Nat.le_refl _, rfl⟩
    clear O e1 e2 e3
    rintro n s' ⟨i, us, rs, h, t, m, B2, rfl, hB2, O, rfl, hi, hM, hR, hrl, hrs⟩
    walk_at "lt"
    have G2 := G.mono (hB.trans hB2)
    have hSl2 : h.IsList sg vs.toArray := isList_keeps hSl (hB2.trans O.keep)
    have hE2 := hE.mono fun v s z => z.mono hB2
    obtain ⟨e1, e2, e4, tq, e3⟩ := hM
    walk_at "ws"
    refine x_lenL hSl2 (by rw [hE.1]; (first | assumption | decide | exact Nat.le_trans (by assumption) (by decide) | exact Nat.sub_succ_lt_self _ _ (by assumption) | exact Nat.succ_le_of_lt (by assumption) | exact Nat.le_of_lt (by assumption) | lia | omega)) ?_
    intro t14 t15
    walk_at "ws"
    refine br (c := i < S.length) (by rw [hE.1]; simp) (fun hlt => ?_) (fun hge => ?_)
    · walk_at "ws"
      obtain ⟨⟨b, sn, en⟩, hc⟩ : ∃ s, S[i]? = some s := ⟨_, List.getElem?_eq_getElem hlt⟩
      obtain ⟨v, hv, a, ta, ua, rfl, ht⟩ := hE2.get hc
      refine x_itemL hSl2 (by (first | assumption | decide | exact Nat.le_trans (by assumption) (by decide) | exact Nat.sub_succ_lt_self _ _ (by assumption) | exact Nat.succ_le_of_lt (by assumption) | exact Nat.le_of_lt (by assumption) | lia | omega)) (by (first | assumption | decide | exact Nat.le_trans (by assumption) (by decide) | exact Nat.sub_succ_lt_self _ _ (by assumption) | exact Nat.succ_le_of_lt (by assumption) | exact Nat.le_of_lt (by assumption) | lia | omega)) hv ?_
      walk_at "ws"
      refine x_unpack (hA.deeper _).handled O (ht.keeps O.keep) ?_
      intro h8 t16 O _
      walk_at "wsT"
      rename Own _ _ _ => O
      refine x_test (¬ (b = true ∧ sn.all isWs = true)) ?_ (fun t20 hb => ?_) (fun t20 hb => ?_)
      · walk_at "ws"
        show if (!b) = true then _ else _
        refine brN (c := b = true) Iff.rfl (fun hb => ?_) (fun hb => ?_)
        · obtain ⟨c, hcn⟩ := hone _ (List.mem_of_getElem? hc) hb
          have hcn : sn = [c] := hcn
          subst hcn
          walk_at "ws"
          refine x_notInWs ?_
          walk_at "ws"
          refine br (c := isWs c = false) (by simp) (fun hw => ⟨_, rfl, by simp [hw]⟩) (fun hw => ?_)
          walk_at "ws"
          exact ⟨_, rfl, by simp [hb]; simpa using hw⟩
        · exact ⟨_, rfl, by simp [hb]⟩
      · have hb0 := hb
        refine ifT rfl ?_
        refine seq_cut (fun s' => E3 fun h t m => C4 (s' = ⟨h, g, dr, t, os⟩) (Own B2 h ((rw, ListP us) :: (L, NsP m) :: R)) (WM2 txt tt sg rw i m) (m "quoted" = some (.bool (b && sn == [34])))) ?_ ?_
        · cases b with
          | false =>
            walk_at "lt"
            walk_at "ws"
            rw [if_neg (by show ¬ (false = true); exact Bool.false_ne_true)]
            walk_at "ws"
            rename Own _ _ _ => O
            exact ⟨_, _, _, rfl, O, ⟨e1, e2, e4, _, e3⟩, rfl⟩
          | true =>
            obtain ⟨c, hcn⟩ := hone _ (List.mem_of_getElem? hc) rfl
            have hcn : sn = [c] := hcn
            subst hcn
            walk_at "ws"
            rw [if_pos (by show (true = true); rfl)]
            walk_at "ws"
            rename Own _ _ _ => O
            have e : (word [c] == Str.ofString "\"") = ([c] == [34]) := by
              rw [Bool.eq_iff_iff, beq_iff_eq, beq_iff_eq]
              exact ⟨fun z => congrArg (fun y : Str => y.cps.toList) z, fun z => by rw [z]; rfl⟩
            exact ⟨_, _, _, rfl, O, ⟨e1, e2, e4, _, e3⟩, congrArg (fun z => some (Value.bool z)) e⟩
        · clear O
          rintro s' ⟨h, t, m, rfl, O, ⟨e1, e2, e4, tq, e3⟩, hqd⟩
          walk_at "lt"
          generalize hq : (b && sn == [34]) = qd at hqd
          refine seq_cut (fun s' => E3 fun h t m => C5 (s' = ⟨h, g, dr, t, os⟩) (Own B2 h ((rw, ListP us) :: (L, NsP m) :: R)) (WM2 txt tt sg rw i m) (m "quoted" = some (.bool qd)) ((∃ t, m "first" = some (.int ((if qd then i + 1 else i : Nat) : Int) t)))) ?_ ?_
          · cases qd with
            | true =>
              walk_at "lt"
              walk_at "ws"
              refine ifT rfl ?_
              walk_at "ws"
              rename Own _ _ _ => O
              exact ⟨_, _, _, rfl, O, ⟨e1, e2, e4, _, e3⟩, hqd, ⟨_, rfl⟩⟩
            | false =>
              walk_at "ws"
              refine ifF rfl ?_
              walk_at "ws"
              rename Own _ _ _ => O
              exact ⟨_, _, _, rfl, O, ⟨e1, e2, e4, _, e3⟩, hqd, ⟨_, rfl⟩⟩
          clear O
          rintro s' ⟨h, t, m, rfl, O, ⟨e1, e2, e4, tq, e3⟩, hqd, ⟨tf, e5⟩⟩
          walk_at "lt"
          have hf : (if qd then i + 1 else i : Nat) ≤ S.length := by split <;> (first | assumption | decide | exact Nat.le_trans (by assumption) (by decide) | exact Nat.sub_succ_lt_self _ _ (by assumption) | exact Nat.succ_le_of_lt (by assumption) | exact Nat.le_of_lt (by assumption) | lia | omega)
          generalize hfd : (if qd then i + 1 else i : Nat) = f at e5 hf
          have hif : i ≤ f := by rw [← hfd]; split <;> (first | assumption | decide | exact Nat.le_trans (by assumption) (by decide) | exact Nat.sub_succ_lt_self _ _ (by assumption) | exact Nat.succ_le_of_lt (by assumption) | exact Nat.le_of_lt (by assumption) | lia | omega)
          walk_at "ws"
          rename Own _ _ _ => O
          refine codeAny_whileLoop (fun n s' => E4 fun j h t m => C10 (s' = ⟨h, g, dr, t, os⟩) (Own B2 h ((rw, ListP us) :: (L, NsP m) :: R)) (n = S.length - j) (j ≤ S.length) (f ≤ j) (WM2 txt tt sg rw j m) (m "quoted" = some (.bool qd)) ((∃ t, m "first" = some (.int (f : Int) t))) ((S.drop f).takeWhile (goes qd) = (S.drop f).take (j - f) ++ (S.drop j).takeWhile (goes qd)) ((S.drop f).dropWhile (goes qd) = (S.drop j).dropWhile (goes qd))) ?_ _
            ⟨f, _, _, _, rfl, O, rfl, hf, Nat.le_refl _, ⟨e1, e2, e4, _, rfl⟩, hqd, ⟨_, e5⟩, by simp, rfl⟩
          clear O e1 e2 e3 e4 hqd e5
          rintro n s' ⟨j, h, t, m, rfl, O, rfl, hj, hfj, ⟨e1, e2, e4, tq, e3⟩, hqd, ⟨tf, e5⟩, htw, hdw⟩
          walk_at "lt"
          have hSl3 : h.IsList sg vs.toArray := isList_keeps hSl (hB2.trans O.keep)
          refine x_test (∃ s, S[j]? = some s ∧ goes qd s = true) ?_ (fun t21 hb => ?_) (fun t21 hb => ?_)
          · walk_at "ws"
            refine x_lenL hSl3 (by rw [hE.1]; (first | assumption | decide | exact Nat.le_trans (by assumption) (by decide) | exact Nat.sub_succ_lt_self _ _ (by assumption) | exact Nat.succ_le_of_lt (by assumption) | exact Nat.le_of_lt (by assumption) | lia | omega)) ?_
            intro t22 t23
            walk_at "ws"
            refine br (c := j < S.length) (by rw [hE.1]; simp) (fun hjl => ?_) (fun hjl => ⟨_, rfl, ⟨fun z => absurd z Bool.false_ne_true, fun ⟨s, hs, _⟩ => absurd (List.getElem?_eq_some_iff.mp hs).1 hjl⟩⟩)
            obtain ⟨⟨b', sn', en'⟩, hc'⟩ : ∃ s, S[j]? = some s := ⟨_, List.getElem?_eq_getElem hjl⟩
            obtain ⟨v', hv', a', ta', ua', rfl, ht'⟩ := hE2.get hc'
            walk_at "ws"
            refine x_itemL hSl3 (by (first | assumption | decide | exact Nat.le_trans (by assumption) (by decide) | exact Nat.sub_succ_lt_self _ _ (by assumption) | exact Nat.succ_le_of_lt (by assumption) | exact Nat.le_of_lt (by assumption) | lia | omega)) (by (first | assumption | decide | exact Nat.le_trans (by assumption) (by decide) | exact Nat.sub_succ_lt_self _ _ (by assumption) | exact Nat.succ_le_of_lt (by assumption) | exact Nat.le_of_lt (by assumption) | lia | omega)) hv' ?_
            walk_at "ws"
            refine x_itemT (i := 0) (ht'.keeps O.keep) (by (first | assumption | decide | exact Nat.le_trans (by assumption) (by decide) | exact Nat.sub_succ_lt_self _ _ (by assumption) | exact Nat.succ_le_of_lt (by assumption) | exact Nat.le_of_lt (by assumption) | lia | omega)) rfl ?_
            walk_at "ws"
            show if b' = true then _ else _
            refine br (c := b' = true) Iff.rfl (fun hb' => ?_) (fun hb' => ?_)
            · obtain ⟨c', hcn'⟩ := hone _ (List.mem_of_getElem? hc') hb'
              have hcn' : sn' = [c'] := hcn'
              subst hcn'
              walk_at "ws"
              refine x_itemL hSl3 (by (first | assumption | decide | exact Nat.le_trans (by assumption) (by decide) | exact Nat.sub_succ_lt_self _ _ (by assumption) | exact Nat.succ_le_of_lt (by assumption) | exact Nat.le_of_lt (by assumption) | lia | omega)) (by (first | assumption | decide | exact Nat.le_trans (by assumption) (by decide) | exact Nat.sub_succ_lt_self _ _ (by assumption) | exact Nat.succ_le_of_lt (by assumption) | exact Nat.le_of_lt (by assumption) | lia | omega)) hv' ?_
              walk_at "ws"
              refine x_itemT (i := 1) (ht'.keeps O.keep) (by (first | assumption | decide | exact Nat.le_trans (by assumption) (by decide) | exact Nat.sub_succ_lt_self _ _ (by assumption) | exact Nat.succ_le_of_lt (by assumption) | exact Nat.le_of_lt (by assumption) | lia | omega)) rfl ?_
              walk_at "ws"
              cases qd with
              | true =>
                refine ifT rfl ?_
                walk_at "ws"
                refine x_inQ ?_
                walk_at "ws"
                refine br (c := c' = 34) (by simp) (fun hz => ?_) (fun hz => ?_)
                · walk_at "ws"
                  exact ⟨_, rfl, (test_goes hc').trans (by simp [goes, hb', hz]) |>.symm⟩
                · walk_at "ws"
                  refine ifT rfl ?_
                  walk_at "ws"
                  exact ⟨_, rfl, (test_goes hc').trans (by simp [goes, hb', hz]) |>.symm⟩
              | false =>
                refine ifF rfl ?_
                walk_at "ws"
                refine x_inWs ?_
                walk_at "ws"
                refine br (c := isWs c' = true) Iff.rfl (fun hz => ?_) (fun hz => ?_)
                · walk_at "ws"
                  exact ⟨_, rfl, (test_goes hc').trans (by simp [goes, hb', hz]) |>.symm⟩
                · walk_at "ws"
                  refine ifT rfl ?_
                  walk_at "ws"
                  exact ⟨_, rfl, (test_goes hc').trans (by simp [goes, hb', hz]) |>.symm⟩
            · walk_at "ws"
              refine ifT rfl ?_
              walk_at "ws"
              exact ⟨_, rfl, (test_goes hc').trans (by simp [goes, hb']) |>.symm⟩
          · obtain ⟨s, hs, hgo⟩ := hb
            have hjl := (List.getElem?_eq_some_iff.mp hs).1
            refine ifT rfl ?_
            walk_at "ws"
            rename Own _ _ _ => O
            have ed : S.drop j = s :: S.drop (j + 1) := by
              obtain ⟨h1, rfl⟩ := List.getElem?_eq_some_iff.mp hs
              exact List.drop_eq_getElem_cons h1
            rw [ed, List.takeWhile_cons_of_pos hgo] at htw
            rw [ed, List.dropWhile_cons_of_pos hgo] at hdw
            refine ⟨_, ?_, j + 1, _, _, _, rfl, O, rfl, by (first | assumption | decide | exact Nat.le_trans (by assumption) (by decide) | exact Nat.sub_succ_lt_self _ _ (by assumption) | exact Nat.succ_le_of_lt (by assumption) | exact Nat.le_of_lt (by assumption) | lia | omega), by (first | assumption | decide | exact Nat.le_trans (by assumption) (by decide) | exact Nat.sub_succ_lt_self _ _ (by assumption) | exact Nat.succ_le_of_lt (by assumption) | exact Nat.le_of_lt (by assumption) | lia | omega), ⟨e1, e2, e4, _, rfl⟩, hqd, ⟨_, e5⟩, ?_, hdw⟩
            · (first | assumption | decide | exact Nat.le_trans (by assumption) (by decide) | exact Nat.sub_succ_lt_self _ _ (by assumption) | exact Nat.succ_le_of_lt (by assumption) | exact Nat.le_of_lt (by assumption) | lia | omega)
            · rw [htw, show j + 1 - f = (j - f) + 1 by (first | assumption | decide | exact Nat.le_trans (by assumption) (by decide) | exact Nat.sub_succ_lt_self _ _ (by assumption) | exact Nat.succ_le_of_lt (by assumption) | exact Nat.le_of_lt (by assumption) | lia | omega), List.take_add_one, List.getElem?_drop, show f + (j - f) = j by (first | assumption | decide | exact Nat.le_trans (by assumption) (by decide) | exact Nat.sub_succ_lt_self _ _ (by assumption) | exact Nat.succ_le_of_lt (by assumption) | exact Nat.le_of_lt (by assumption) | lia | omega), hs]
              simp
          · refine ifF rfl ?_
            walk_at "ws"
            refine r_strMeth PySem.F.slot_str_join PySem.F.type_str_join ?_
            walk_at "ws"
            have hdj : (S.drop j).takeWhile (goes qd) = [] ∧ (S.drop j).dropWhile (goes qd) = S.drop j := by
              by_cases hjl : j < S.length
              · have e := List.drop_eq_getElem_cons hjl
                have hn : ¬ goes qd S[j] = true := fun z => hb ⟨_, List.getElem?_eq_getElem hjl, z⟩
                rw [e, List.takeWhile_cons_of_neg hn, List.dropWhile_cons_of_neg hn]
                exact ⟨rfl, rfl⟩
              · rw [List.drop_eq_nil_of_le (by (first | assumption | decide | exact Nat.le_trans (by assumption) (by decide) | exact Nat.sub_succ_lt_self _ _ (by assumption) | exact Nat.succ_le_of_lt (by assumption) | exact Nat.le_of_lt (by assumption) | lia | omega))]; exact ⟨rfl, rfl⟩
            rw [hdj.1, List.append_nil] at htw
            rw [hdj.2] at hdw
            refine x_comp (fun _ => true) (fun v y => ∀ a b x t n, v = .ref a → IsTup B2 a #[b, .str x t, n] → y = .str x t) (hA.deeper _).handled (closureFor_none (by decide)) rfl ?_
            walk_at "ws"
            refine x_sliceL O hSl3 (.int _ _) (.int _ _) ?_ (by rw [hE.1]; (first | assumption | decide | exact Nat.le_trans (by assumption) (by decide) | exact Nat.sub_succ_lt_self _ _ (by assumption) | exact Nat.succ_le_of_lt (by assumption) | exact Nat.le_of_lt (by assumption) | lia | omega))
            intro D h9 t24 O9 hs9
            have esl : (slicePick vs.toArray (some (f : Int)) (some (j : Int)) none).toList = (vs.drop f).take (j - f) := by
              rw [slicePick_run _ f j (by simp; rw [hE.1]; exact hj) hfj]
            rw [esl] at O9
            have hE3 := hE2.dropTake f (j - f)
            refine ⟨D, _, h9, t24, B2, _, rfl, rfl, O9, O9.list (by walk_at "mem"), ?_, ?_, ?_, ?_⟩
            · rw [hE3.1]; simp; (first | assumption | decide | exact Nat.le_trans (by assumption) (by decide) | exact Nat.sub_succ_lt_self _ _ (by assumption) | exact Nat.succ_le_of_lt (by assumption) | exact Nat.le_of_lt (by assumption) | lia | omega)
            · intro C v H g' dr' t' os' m' E' hv hH hn hm
              exact wpAny_tests_nil ⟨rfl, _, _, rfl, Sub.refl _⟩
            · intro C v H g' dr' t' os' m' E' hv _ hH hn hm
              have OH := own_all H
              walk_at "w"
              refine r_localB OH hn hm ?_
              walk_at "ws"
              obtain ⟨i', hi'⟩ := List.getElem?_of_mem hv
              obtain ⟨s', hs', a', ta', ua', rfl, ht'⟩ := hE3.got hi'
              refine x_itemT (i := 1) (ht'.keeps (Sub.trans O9.keep hH)) (by (first | assumption | decide | exact Nat.le_trans (by assumption) (by decide) | exact Nat.sub_succ_lt_self _ _ (by assumption) | exact Nat.succ_le_of_lt (by assumption) | exact Nat.le_of_lt (by assumption) | lia | omega)) rfl ?_
              refine ⟨?_, _, _, rfl, Sub.refl _⟩
              intro a b x t n e ht2
              cases e
              have := tup_eq ht' ht2
              simp at this
              rw [this.2.1.1, this.2.1.2]
            · intro D2 h10 t25 ys O10 hP hs10
              rw [List.filter_eq_self.mpr (fun _ _ => rfl)] at hP
              have hY : Each (fun y (s : Sgn) => ∃ t, y = .str (word s.2.1) t) ys ((S.drop f).take (j - f)) := by
                have h1 := each_paired hP
                refine ⟨h1.1.trans hE3.1, fun k y s hy hs => ?_⟩
                obtain ⟨v, hv, a', ta', ua', rfl, ht'⟩ := hE3.get hs
                exact ⟨_, h1.2 k y _ hy hv _ _ _ _ _ rfl ht'⟩
              have hW := hY.strsMap (f := fun s : Sgn => word s.2.1)
              walk_at "ws"
              refine x_joinL (O10.list (by walk_at "mem")) hW ?_ ?_
              · have := len_sum_le (fun s : Sgn => (word s.2.1).length) ((S.drop f).take (j - f)) (fun s hs => by
                  show s.2.1.toArray.size ≤ 1
                  rw [List.size_toArray]
                  exact hle s (List.mem_of_mem_drop (List.mem_of_mem_take hs)))
                rw [List.map_map]
                have h2 : ((S.drop f).take (j - f)).length ≤ S.length := by simp; (first | assumption | decide | exact Nat.le_trans (by assumption) (by decide) | exact Nat.sub_succ_lt_self _ _ (by assumption) | exact Nat.succ_le_of_lt (by assumption) | exact Nat.le_of_lt (by assumption) | lia | omega)
                show (List.map (fun s : Sgn => (word s.2.1).length) _).sum + _ * (Str.ofString "").length ≤ _
                rw [show (Str.ofString "").length = 0 from rfl, Nat.mul_zero, Nat.add_zero]
                (first | assumption | decide | exact Nat.le_trans (by assumption) (by decide) | exact Nat.sub_succ_lt_self _ _ (by assumption) | exact Nat.succ_le_of_lt (by assumption) | exact Nat.le_of_lt (by assumption) | lia | omega)
              · intro t26 t27
                have ej : Txt.join (Str.ofString "") (((S.drop f).take (j - f)).map fun s : Sgn => word s.2.1) = word (joined ((S.drop f).take (j - f))) := by
                  unfold joined; rw [← join_words, List.map_map]; rfl
                rw [ej]
                walk_at "ws"
                rename Own _ _ _ => O
                have hSl4 := isList_keeps hSl (hB2.trans O.keep)
                refine x_lenL hSl4 (by rw [hE.1]; (first | assumption | decide | exact Nat.le_trans (by assumption) (by decide) | exact Nat.sub_succ_lt_self _ _ (by assumption) | exact Nat.succ_le_of_lt (by assumption) | exact Nat.le_of_lt (by assumption) | lia | omega)) ?_
                intro t28 t29
                walk_at "ws"
                refine br (c := j < S.length) (by rw [hE.1]; simp) (fun hjl => ?_) (fun hjl => ?_)
                · obtain ⟨⟨b', sn', en'⟩, hc'⟩ : ∃ s, S[j]? = some s := ⟨_, List.getElem?_eq_getElem hjl⟩
                  obtain ⟨v', hv', a', ta', ua', rfl, ht'⟩ := hE2.get hc'
                  walk_at "ws"
                  refine r_listMeth O (by walk_at "mem") slot_list_append PySem.F.type_list_append ?_
                  walk_at "ws"
                  refine x_itemL hSl4 (by (first | assumption | decide | exact Nat.le_trans (by assumption) (by decide) | exact Nat.sub_succ_lt_self _ _ (by assumption) | exact Nat.succ_le_of_lt (by assumption) | exact Nat.le_of_lt (by assumption) | lia | omega)) (by (first | assumption | decide | exact Nat.le_trans (by assumption) (by decide) | exact Nat.sub_succ_lt_self _ _ (by assumption) | exact Nat.succ_le_of_lt (by assumption) | exact Nat.le_of_lt (by assumption) | lia | omega)) hv' ?_
                  walk_at "ws"
                  refine x_itemT (i := 2) (ht'.keeps O.keep) (by (first | assumption | decide | exact Nat.le_trans (by assumption) (by decide) | exact Nat.sub_succ_lt_self _ _ (by assumption) | exact Nat.succ_le_of_lt (by assumption) | exact Nat.le_of_lt (by assumption) | lia | omega)) rfl ?_
                  walk_at "ws"
                  rename Own _ _ _ => O
                  refine x_append O (by walk_at "mem") (by walk_at "put") (by rw [sizeLine_eq, hR.1]; (first | assumption | decide | exact Nat.le_trans (by assumption) (by decide) | exact Nat.sub_succ_lt_self _ _ (by assumption) | exact Nat.succ_le_of_lt (by assumption) | exact Nat.le_of_lt (by assumption) | lia | omega)) ?_
                  intro h11 t30 O
                  walk_at "ws"
                  rename Own _ _ _ => O
                  obtain ⟨B3, s3, O, hfr⟩ := Own.freezeN [_, _, _] O
                  obtain ⟨ot, ht1, nt, ht2⟩ := hfr _ (.head _)
                  rw [rowsT_on hc hb0 hq hfd hdw hc', htw] at hrs
                  refine ⟨_, ?_, j + 1, _, rs ++ [(joined ((S.drop f).take (j - f)), en')], _, _, _, B3, rfl, hB2.trans s3, O, rfl, by (first | assumption | decide | exact Nat.le_trans (by assumption) (by decide) | exact Nat.sub_succ_lt_self _ _ (by assumption) | exact Nat.succ_le_of_lt (by assumption) | exact Nat.le_of_lt (by assumption) | lia | omega), ⟨e1, e2, e4, _, rfl⟩, (hR.mono fun v s z => z.mono s3).snoc ⟨_, _, _, rfl, _, ht1, by rw [ht2], _, by rw [ht2]⟩, ?_, ?_⟩
                  · (first | assumption | decide | exact Nat.le_trans (by assumption) (by decide) | exact Nat.sub_succ_lt_self _ _ (by assumption) | exact Nat.succ_le_of_lt (by assumption) | exact Nat.le_of_lt (by assumption) | lia | omega)
                  · simp; (first | assumption | decide | exact Nat.le_trans (by assumption) (by decide) | exact Nat.sub_succ_lt_self _ _ (by assumption) | exact Nat.succ_le_of_lt (by assumption) | exact Nat.le_of_lt (by assumption) | lia | omega)
                  · rw [List.append_assoc]; exact hrs
                · walk_at "ws"
                  refine br (c := joined ((S.drop f).take (j - f)) ≠ []) (by show (joined ((S.drop f).take (j - f)) != []) = true ↔ _; simp) (fun hw => ?_) (fun hw => ?_)
                  · walk_at "ws"
                    refine r_listMeth O (by walk_at "mem") slot_list_append PySem.F.type_list_append ?_
                    walk_at "ws"
                    refine x_lenS (by (first | assumption | decide | exact Nat.le_trans (by assumption) (by decide) | exact Nat.sub_succ_lt_self _ _ (by assumption) | exact Nat.succ_le_of_lt (by assumption) | exact Nat.le_of_lt (by assumption) | lia | omega)) ?_
                    intro t31 t32
                    walk_at "ws"
                    rename Own _ _ _ => O
                    refine x_append O (by walk_at "mem") (by walk_at "put") (by rw [sizeLine_eq, hR.1]; (first | assumption | decide | exact Nat.le_trans (by assumption) (by decide) | exact Nat.sub_succ_lt_self _ _ (by assumption) | exact Nat.succ_le_of_lt (by assumption) | exact Nat.le_of_lt (by assumption) | lia | omega)) ?_
                    intro h11 t30 O
                    walk_at "ws"
                    rename Own _ _ _ => O
                    obtain ⟨B3, s3, O, hfr⟩ := Own.freezeN [_, _, _] O
                    obtain ⟨ot, ht1, nt, ht2⟩ := hfr _ (.head _)
                    rw [rowsT_end hc hb0 hq hfd hdw (Nat.not_lt.mp hjl), htw, if_neg hw] at hrs
                    have ed : S.drop (j + 1) = [] := List.drop_eq_nil_of_le (by (first | assumption | decide | exact Nat.le_trans (by assumption) (by decide) | exact Nat.sub_succ_lt_self _ _ (by assumption) | exact Nat.succ_le_of_lt (by assumption) | exact Nat.le_of_lt (by assumption) | lia | omega))
                    refine ⟨_, ?_, j + 1, _, rs ++ [(joined ((S.drop f).take (j - f)), cs.length)], _, _, _, B3, rfl, hB2.trans s3, O, rfl, by (first | assumption | decide | exact Nat.le_trans (by assumption) (by decide) | exact Nat.sub_succ_lt_self _ _ (by assumption) | exact Nat.succ_le_of_lt (by assumption) | exact Nat.le_of_lt (by assumption) | lia | omega), ⟨e1, e2, e4, _, rfl⟩, (hR.mono fun v s z => z.mono s3).snoc ⟨_, _, _, rfl, _, ht1, by rw [ht2], _, by rw [ht2, hlen]⟩, ?_, ?_⟩
                    · (first | assumption | decide | exact Nat.le_trans (by assumption) (by decide) | exact Nat.sub_succ_lt_self _ _ (by assumption) | exact Nat.succ_le_of_lt (by assumption) | exact Nat.le_of_lt (by assumption) | lia | omega)
                    · simp; (first | assumption | decide | exact Nat.le_trans (by assumption) (by decide) | exact Nat.sub_succ_lt_self _ _ (by assumption) | exact Nat.succ_le_of_lt (by assumption) | exact Nat.le_of_lt (by assumption) | lia | omega)
                    · rw [ed, rowsT, List.append_nil]; exact hrs
                  · walk_at "ws"
                    rename Own _ _ _ => O
                    obtain ⟨B3, s3, O, hfr⟩ := Own.freezeN [_, _] O
                    rw [rowsT_end hc hb0 hq hfd hdw (Nat.not_lt.mp hjl), htw, if_pos (Classical.not_not.mp hw)] at hrs
                    have ed : S.drop (j + 1) = [] := List.drop_eq_nil_of_le (by (first | assumption | decide | exact Nat.le_trans (by assumption) (by decide) | exact Nat.sub_succ_lt_self _ _ (by assumption) | exact Nat.succ_le_of_lt (by assumption) | exact Nat.le_of_lt (by assumption) | lia | omega))
                    refine ⟨_, ?_, j + 1, _, rs, _, _, _, B3, rfl, hB2.trans s3, O, rfl, by (first | assumption | decide | exact Nat.le_trans (by assumption) (by decide) | exact Nat.sub_succ_lt_self _ _ (by assumption) | exact Nat.succ_le_of_lt (by assumption) | exact Nat.le_of_lt (by assumption) | lia | omega), ⟨e1, e2, e4, _, rfl⟩, (hR.mono fun v s z => z.mono s3), ?_, ?_⟩
                    · (first | assumption | decide | exact Nat.le_trans (by assumption) (by decide) | exact Nat.sub_succ_lt_self _ _ (by assumption) | exact Nat.succ_le_of_lt (by assumption) | exact Nat.le_of_lt (by assumption) | lia | omega)
                    · (first | assumption | decide | exact Nat.le_trans (by assumption) (by decide) | exact Nat.sub_succ_lt_self _ _ (by assumption) | exact Nat.succ_le_of_lt (by assumption) | exact Nat.le_of_lt (by assumption) | lia | omega)
                    · rw [ed, rowsT]; exact hrs
      · refine ifF rfl ?_
        walk_at "ws"
        rename Own _ _ _ => O
        rw [rowsT_skip hc (Classical.not_not.mp hb)] at hrs
        exact ⟨_, by (first | assumption | decide | exact Nat.le_trans (by assumption) (by decide) | exact Nat.sub_succ_lt_self _ _ (by assumption) | exact Nat.succ_le_of_lt (by assumption) | exact Nat.le_of_lt (by assumption) | lia | omega), i + 1, us, rs, _, _, _, B2, rfl, hB2, O, rfl, by (first | assumption | decide | exact Nat.le_trans (by assumption) (by decide) | exact Nat.sub_succ_lt_self _ _ (by assumption) | exact Nat.succ_le_of_lt (by assumption) | exact Nat.le_of_lt (by assumption) | lia | omega), ⟨e1, e2, e4, _, rfl⟩, hR, by (first | assumption | decide | exact Nat.le_trans (by assumption) (by decide) | exact Nat.sub_succ_lt_self _ _ (by assumption) | exact Nat.succ_le_of_lt (by assumption) | exact Nat.le_of_lt (by assumption) | lia | omega), hrs⟩
    · walk_at "ws"
      rename Own _ _ _ => O
      have ed : S.drop i = [] := List.drop_eq_nil_of_le (by (first | assumption | decide | exact Nat.le_trans (by assumption) (by decide) | exact Nat.sub_succ_lt_self _ _ (by assumption) | exact Nat.succ_le_of_lt (by assumption) | exact Nat.le_of_lt (by assumption) | lia | omega))
      rw [ed, rowsT, List.append_nil] at hrs
      rw [hrs, ← hSdef] at hR
      exact k _ _ _ _ _ (hB.trans hB2) (O.cut [_]) hR
end
end Mine
end

/- part AltTwoO -/
section
open PySem PySem.W PyProof.Rows PySem.Calls
set_option Elab.async false
set_option maxRecDepth 100000
set_option maxHeartbeats 4000000
namespace Mine

theorem sgn_len : ∀ (cs : List Nat) (q : Nat), (sgn cs q).length ≤ cs.length
  | [], q => by rw [sgn_nil]; simp
  | [c], q => by rw [sgn]; split <;> simp
  | c :: c' :: r, q => by
    rw [sgn]
    split
    · have := sgn_len r (q + 2); simp; (first | assumption | decide | exact Nat.le_trans (by assumption) (by decide) | exact Nat.sub_succ_lt_self _ _ (by assumption) | exact Nat.succ_le_of_lt (by assumption) | exact Nat.le_of_lt (by assumption) | lia | omega)
    · have := sgn_len (c' :: r) (q + 1); simp at this ⊢; (first | assumption | decide | exact Nat.le_trans (by assumption) (by decide) | exact Nat.sub_succ_lt_self _ _ (by assumption) | exact Nat.succ_le_of_lt (by assumption) | exact Nat.le_of_lt (by assumption) | lia | omega)
theorem one_row (len : Nat) (w : List Nat) : (if w = [] then [] else [(w, len)] : List (List Nat × Nat)).length ≤ 1 := by split <;> simp
theorem rowsT_len' (len : Nat) : ∀ (n : Nat) (S : List Sgn), S.length ≤ n → (rowsT len S).length ≤ S.length := by
  intro n
  induction n with
  | zero => intro S h; rw [List.length_eq_zero_iff.mp (Nat.le_zero.mp h), rowsT]; simp
  | succ n ih =>
    intro S h
    match S, h with
    | [], _ => rw [rowsT]; simp
    | (b, s, e) :: r, h =>
      rw [List.length_cons] at h
      rw [rowsT]
      split
      · have := ih r (by (first | assumption | decide | exact Nat.le_trans (by assumption) (by decide) | exact Nat.sub_succ_lt_self _ _ (by assumption) | exact Nat.succ_le_of_lt (by assumption) | exact Nat.le_of_lt (by assumption) | lia | omega)); rw [List.length_cons]; (first | assumption | decide | exact Nat.le_trans (by assumption) (by decide) | exact Nat.sub_succ_lt_self _ _ (by assumption) | exact Nat.succ_le_of_lt (by assumption) | exact Nat.le_of_lt (by assumption) | lia | omega)
      · dsimp only
        split
        · exact Nat.le_trans (one_row len _) (by simp)
        · rename_i x rest hm
          have h1 := drop_dropWhile_len (goes (b && s == [34])) (if (b && s == [34]) = true then r else (b, s, e) :: r)
          rw [hm] at h1
          have h2 : (if (b && s == [34]) = true then r else (b, s, e) :: r).length ≤ r.length + 1 := by split <;> simp
          rw [List.length_cons] at h1
          have := ih rest (by (first | assumption | decide | exact Nat.le_trans (by assumption) (by decide) | exact Nat.sub_succ_lt_self _ _ (by assumption) | exact Nat.succ_le_of_lt (by assumption) | exact Nat.le_of_lt (by assumption) | lia | omega))
          rw [List.length_cons, List.length_cons]; (first | assumption | decide | exact Nat.le_trans (by assumption) (by decide) | exact Nat.sub_succ_lt_self _ _ (by assumption) | exact Nat.succ_le_of_lt (by assumption) | exact Nat.le_of_lt (by assumption) | lia | omega)
theorem rowsT_len (len : Nat) (S : List Sgn) : (rowsT len S).length ≤ S.length := rowsT_len' len S.length S (Nat.le_refl _)
section
variable {prog : Program} {w : World} {A : Around} {E : Value → Shared → Prop} {h : Heap} {g : Array GenState} {dr : Drawn} {tk : Nat} {os : OsState} {B : Heap} {p : Program} {loose : List Str} {mg mb : Str → Option Value}
  {cs : List Nat} {R l l' : List Ent} {u : Tok}

abbrev Sec := List (List Nat) × Nat
def secsT (len : Nat) : List (List Nat) → List (List Nat × Nat) → List Sec
  | acc, [] => [(acc, len), ([], len)]
  | acc, (w, e) :: r => if w = [] then (acc, e) :: secsT len [] r else secsT len (acc ++ [w]) r
def SecV (B : Heap) (v : Value) (s : Sec) : Prop := ∃ a ra vs u, v = .ref a ∧ IsTup B a #[.ref ra, .int (s.2 : Int) u] ∧ B.IsList ra (List.toArray vs) ∧ StrsAre vs (s.1.map word)
theorem SecV.mono {B B' : Heap} {v : Value} {s : Sec} (h : SecV B v s) (k : Sub B B') : SecV B' v s := by obtain ⟨a, ra, vs, u, e, i, j, z⟩ := h; exact ⟨a, ra, vs, u, e, i.keeps k, isList_keeps j k, z⟩
structure SM (txt : Str) (tt : Tok) (se ro : Addr) (m : Str → Option Value) : Prop where
  text : m "text" = some (.str txt tt)
  sections : m "sections" = some (.ref se)
  row : m "row" = some (.ref ro)

theorem Own.drop1 {B h h' : Heap} {a : Addr} {P : Obj → Prop} {l : List Ent} (O : Own B h ((a, P) :: l)) (hk : ∀ b o, b ≠ a → h.get? b = some o → h'.get? b = some o) : Own B h' l := by
  have hB := (O.own _ (.head _)).2
  have nd := List.nodup_cons.mp O.nodup
  refine ⟨fun b o e => hk b o (fun z => by rw [z] at e; rw [show B.get? a = none from hB] at e; cases e) (O.keep b o e), fun q hq => ?_, nd.2⟩
  obtain ⟨⟨o, ho, hP⟩, hn⟩ := O.own q (.tail _ hq)
  exact ⟨⟨o, hk _ _ (fun z => nd.1 (z ▸ List.mem_map_of_mem (f := (·.1)) hq)) ho, hP⟩, hn⟩
theorem x_addL {a b : Addr} {vs ws : List Value} {Q : Value → Shared → Prop} (O : Own B h l) (hl : h.IsList a vs.toArray) (hb : h.IsList b ws.toArray) (hz : vs.length + ws.length ≤ 1000000)
    (k : ∀ D h' t', Own B h' ((D, ListP (vs ++ ws)) :: l) → Q (.ref D) ⟨h', g, dr, t', os⟩) : wpAny (model prog w) A (binaryOp .Add (.ref a) (.ref b)) Q E ⟨h, g, dr, tk, os⟩ := by
  obtain ⟨⟨cls, dd, data, sl⟩, ho, hc, n, hd⟩ := id hl
  obtain ⟨⟨cls2, dd2, data2, sl2⟩, ho2, hc2, n2, hd2⟩ := id hb
  simp only at hc hd hc2 hd2
  subst hc hd hc2 hd2
  refine concat_meets (s := ⟨h, g, dr, tk, os⟩) ⟨_, ho, rfl⟩ ⟨_, ho2, rfl⟩ noFill_list_add seq_list_add PySem.F.slot_list_add PySem.F.entry_list_add (PySem.F.args_list_add_2 _ _) (list_addW a b vs.toArray ws.toArray n n2 dd dd2 sl sl2 (by rw [sizeLine_eq]; simp; (first | assumption | decide | exact Nat.le_trans (by assumption) (by decide) | exact Nat.sub_succ_lt_self _ _ (by assumption) | exact Nat.succ_le_of_lt (by assumption) | exact Nat.le_of_lt (by assumption) | lia | omega))) ⟨ho, ho2, ?_⟩
  exact k _ _ _ (O.push _ ⟨0, by simp⟩)
theorem f_words (P : Params) : ∃ o fd, (KH P).lookup 100 = some o ∧ o.data = .func fd := fn_of (by kernel_rfl)
theorem law_sections {R' : Result → Shared → Prop} {txt : Str} {tt : Tok} (G : Gr (KH w.params) p loose mg mb B) (hA : Ar A 6) (hx : txt.cps.toList = cs) (hcs : cs.length ≤ 100000)
    (O : Own B h R)
    (k : ∀ B' a us h' t', Sub B B' → Own B' h' ((a, ListP us) :: R) → Each (SecV B') us (secsT cs.length [] (rowsT cs.length (sgn cs 0))) → R' (.ok (.ret (.ref a))) ⟨h', g, dr, t', os⟩) :
    codeAny (model prog w) A (.call (.ref 107) ⟨[.str txt tt], []⟩) R' ⟨h, g, dr, tk, os⟩ := by
  have hlen : txt.length = cs.length := by rw [← hx]; rfl
  refine x_enterK (pre := []) G O rfl (by kernel_rfl) hA.room rfl (locs rfl) ?_
  intro L h₁ t1 O
  dsimp only [List.cons_append, List.nil_append] at O
  walk_at "lt"
  walk_at "ws"
  rename Own _ _ _ => O
  rename_i se h2 t2 O2 h3 t3 O3 _ _ ro h4 t4 O4 h5 t5 _ _
  refine r_global (v := .ref 100) O G (by kernel_rfl) ?_
  obtain ⟨o, fd, f1, f2⟩ := f_words w.params
  refine r_callWith f2 (G.X _ _ f1) ?_
  walk_at "ws"
  refine ⟨O.keep, r_call (law_words G ((hA.deeper _).le (by (first | assumption | decide | exact Nat.le_trans (by assumption) (by decide) | exact Nat.sub_succ_lt_self _ _ (by assumption) | exact Nat.succ_le_of_lt (by assumption) | exact Nat.le_of_lt (by assumption) | lia | omega))) hx hcs O fun B1 rw us h6 t6 hB1 O hE => ?_)⟩
  clear O2 O3 O4
  have G1 := G.mono hB1
  have hrn : (rowsT cs.length (sgn cs 0)).length ≤ 100000 := Nat.le_trans (rowsT_len _ _) (Nat.le_trans (sgn_len _ _) hcs)
  generalize hrows : rowsT cs.length (sgn cs 0) = rows at hE k hrn
  obtain ⟨B2, s2, O, orw, hrw1, nrw, hrw2⟩ := O.freeze1
  have hrl : B2.IsList rw us.toArray := ⟨_, hrw1, by rw [hrw2], _, by rw [hrw2]⟩
  have hE := hE.mono fun v s z => z.mono s2
  refine x_iterL O (isList_keeps hrl O.keep) ?_
  intro it h7 t7 O _
  refine codeAny_forLoop_any (fun n s' => E10 fun i ro vr acc ss vss h t m B' => C10 (s' = ⟨h, g, dr, t, os⟩) (Sub B2 B') (Own B' h ((it, ItP rw i) :: (ro, ListP vr) :: (se, ListP vss) :: (L, NsP m) :: R)) (n = rows.length + 1 - i) (i ≤ rows.length) (SM txt tt se ro m) (StrsAre vr (acc.map word)) (Each (SecV B') vss ss) (acc.length + ss.length ≤ i) (ss ++ secsT cs.length acc (rows.drop i) = secsT cs.length [] rows)) ?_ _
    ⟨0, ro, [], [], [], [], _, _, _, B2, rfl, Sub.refl _, O, rfl, Nat.zero_le _, ⟨rfl, rfl, rfl⟩, .nil, .nil, Nat.le_refl _, rfl⟩
  clear O
  rintro n s' ⟨i, ro, vr, acc, ss, vss, h, t, m, B3, rfl, hB3, O, rfl, hi, ⟨e1, e2, e3⟩, hvr, hsec, hlen2, hrs⟩
  walk_at "lt"
  have hrl3 : h.IsList rw us.toArray := isList_keeps hrl (hB3.trans O.keep)
  have hne : rw ≠ it := fun e => by
    obtain ⟨o, ho, _⟩ := isList_keeps hrl hB3
    have := (O.own _ (.head _)).2
    rw [e] at ho; rw [ho] at this; cases this
  have hE3 := hE.mono fun v s z => z.mono hB3
  have hul : us.length = rows.length := hE.1
  have G3 := G1.mono (s2.trans hB3)
  refine x_nextL (hA.deeper _).handled O (by walk_at "mem") Put.head hrl3 hne (fun v h8 t8 hv O _ => ?_) (fun hie h8 t8 hk => ?_) (by rw [hul]; exact hi)
  · obtain ⟨⟨wd, en⟩, hx1, a, ta, ua, rfl, ht⟩ := hE3.got hv
    have hlt := (List.getElem?_eq_some_iff.mp hx1).1
    rw [drop_at hx1, secsT] at hrs
    show wpAny _ _ (letOwnedTupleGo _ _ _) _ _ _
    obtain ⟨oi, hoi, hci, hdi⟩ := O.get (.head _)
    refine wpAny_letOwnedTupleGo_listiter ⟨oi, hoi, hci, hdi⟩ ?_
    refine x_unpack (hA.deeper _).handled O (ht.keeps O.keep) ?_
    intro h9 t9 O _
    walk_at "lt"
    walk_at "ws"
    rename Own _ _ _ => O
    refine br (c := wd = []) (by rw [beq_iff_eq]; exact ⟨fun z => congrArg (fun y : Str => y.cps.toList) z, fun z => by show word wd = _; rw [z]; rfl⟩) (fun hw => ?_) (fun hw => ?_)
    · rw [if_pos hw] at hrs
      walk_at "ws"
      refine r_listMeth O (by walk_at "mem") slot_list_append PySem.F.type_list_append ?_
      walk_at "ws"
      rename Own _ _ _ => O
      refine x_append O (by walk_at "mem") (by walk_at "put") (by rw [sizeLine_eq, hsec.1]; (first | assumption | decide | exact Nat.le_trans (by assumption) (by decide) | exact Nat.sub_succ_lt_self _ _ (by assumption) | exact Nat.succ_le_of_lt (by assumption) | exact Nat.le_of_lt (by assumption) | lia | omega)) ?_
      intro h10 t10 O
      walk_at "ws"
      rename Own _ _ _ => O
      obtain ⟨B4, s4, O, hfr⟩ := Own.freezeN [_, _] ((O.ahead [_, _, _]).ahead [_, _])
      obtain ⟨ot, ht1, nt, ht2⟩ := hfr _ (.head _)
      obtain ⟨orr, hr1, nr, hr2⟩ := hfr _ (.tail _ (.head _))
      refine ⟨_, ?_, i + 1, _, [], [], ss ++ [(acc, en)], _, _, _, _, B4, rfl, hB3.trans s4, O.behind [_], rfl, by (first | assumption | decide | exact Nat.le_trans (by assumption) (by decide) | exact Nat.sub_succ_lt_self _ _ (by assumption) | exact Nat.succ_le_of_lt (by assumption) | exact Nat.le_of_lt (by assumption) | lia | omega), ⟨e1, e2, rfl⟩, .nil, (hsec.mono fun v s z => z.mono s4).snoc ⟨_, _, vr, _, rfl, ⟨_, ht1, by rw [ht2], _, by rw [ht2]⟩, ⟨_, hr1, by rw [hr2], _, by rw [hr2]⟩, hvr⟩, ?_, ?_⟩
      · (first | assumption | decide | exact Nat.le_trans (by assumption) (by decide) | exact Nat.sub_succ_lt_self _ _ (by assumption) | exact Nat.succ_le_of_lt (by assumption) | exact Nat.le_of_lt (by assumption) | lia | omega)
      · simp; (first | assumption | decide | exact Nat.le_trans (by assumption) (by decide) | exact Nat.sub_succ_lt_self _ _ (by assumption) | exact Nat.succ_le_of_lt (by assumption) | exact Nat.le_of_lt (by assumption) | lia | omega)
      · rw [List.append_assoc]; exact hrs
    · rw [if_neg hw] at hrs
      walk_at "ws"
      refine r_listMeth O (by walk_at "mem") slot_list_append PySem.F.type_list_append ?_
      walk_at "ws"
      rename Own _ _ _ => O
      refine x_append O (by walk_at "mem") (by walk_at "put") (by rw [sizeLine_eq, hvr.length]; simp; (first | assumption | decide | exact Nat.le_trans (by assumption) (by decide) | exact Nat.sub_succ_lt_self _ _ (by assumption) | exact Nat.succ_le_of_lt (by assumption) | exact Nat.le_of_lt (by assumption) | lia | omega)) ?_
      intro h10 t10 O
      walk_at "ws"
      refine ⟨_, ?_, i + 1, ro, _, acc ++ [wd], ss, _, _, _, _, B3, rfl, hB3, O, rfl, by (first | assumption | decide | exact Nat.le_trans (by assumption) (by decide) | exact Nat.sub_succ_lt_self _ _ (by assumption) | exact Nat.succ_le_of_lt (by assumption) | exact Nat.le_of_lt (by assumption) | lia | omega), ⟨e1, e2, e3⟩, ?_, hsec, ?_, hrs⟩
      · (first | assumption | decide | exact Nat.le_trans (by assumption) (by decide) | exact Nat.sub_succ_lt_self _ _ (by assumption) | exact Nat.succ_le_of_lt (by assumption) | exact Nat.le_of_lt (by assumption) | lia | omega)
      · rw [List.map_append]; exact ((each_strs hvr).snoc ⟨ta, rfl⟩).strs
      · simp; (first | assumption | decide | exact Nat.le_trans (by assumption) (by decide) | exact Nat.sub_succ_lt_self _ _ (by assumption) | exact Nat.succ_le_of_lt (by assumption) | exact Nat.le_of_lt (by assumption) | lia | omega)
  · have O := O.drop1 hk
    walk_at "ws"
    refine x_lenS (by (first | assumption | decide | exact Nat.le_trans (by assumption) (by decide) | exact Nat.sub_succ_lt_self _ _ (by assumption) | exact Nat.succ_le_of_lt (by assumption) | exact Nat.le_of_lt (by assumption) | lia | omega)) ?_
    intro t11 t12
    walk_at "ws"
    refine x_lenS (by (first | assumption | decide | exact Nat.le_trans (by assumption) (by decide) | exact Nat.sub_succ_lt_self _ _ (by assumption) | exact Nat.succ_le_of_lt (by assumption) | exact Nat.le_of_lt (by assumption) | lia | omega)) ?_
    intro t13 t14
    walk_at "ws"
    rename Own _ _ _ => O
    refine x_addL O (O.list (by walk_at "mem")) (O.list (by walk_at "mem")) (by rw [hsec.1]; simp; (first | assumption | decide | exact Nat.le_trans (by assumption) (by decide) | exact Nat.sub_succ_lt_self _ _ (by assumption) | exact Nat.succ_le_of_lt (by assumption) | exact Nat.le_of_lt (by assumption) | lia | omega)) ?_
    intro D h9 t17 O
    walk_at "ws"
    obtain ⟨B4, s4, O, hfr⟩ := Own.freezeN [_, _, _, _, _, _, _] (O.behind [_, _, _, _, _, _, _])
    obtain ⟨o5, a5, n5, b5⟩ := hfr _ (.tail _ (.head _))
    obtain ⟨o6, a6, n6, b6⟩ := hfr _ (.tail _ (.tail _ (.head _)))
    obtain ⟨o7, a7, n7, b7⟩ := hfr _ (.tail _ (.tail _ (.tail _ (.head _))))
    obtain ⟨o8, a8, n8, b8⟩ := hfr _ (.tail _ (.tail _ (.tail _ (.tail _ (.head _)))))
    have ed : rows.drop i = [] := List.drop_eq_nil_of_le (by (first | assumption | decide | exact Nat.le_trans (by assumption) (by decide) | exact Nat.sub_succ_lt_self _ _ (by assumption) | exact Nat.succ_le_of_lt (by assumption) | exact Nat.le_of_lt (by assumption) | lia | omega))
    rw [ed, secsT] at hrs
    refine k B4 D _ _ _ (hB1.trans (s2.trans (hB3.trans s4))) O ?_
    rw [← hrs]
    refine (hsec.mono fun v s z => z.mono s4).append (.cons ⟨_, _, vr, _, rfl, ⟨_, a7, by rw [b7], _, by rw [b7, hlen]⟩, ⟨_, a8, by rw [b8], _, by rw [b8]⟩, hvr⟩
      (.cons ⟨_, _, [], _, rfl, ⟨_, a5, by rw [b5], _, by rw [b5, hlen]⟩, ⟨_, a6, by rw [b6], _, by rw [b6]⟩, .nil⟩ .nil))
end
end Mine
end

/- part AltTwoQ -/
section
open PySem PySem.W PyProof.Rows PySem.Calls
set_option Elab.async false
set_option maxRecDepth 100000
set_option maxHeartbeats 4000000
namespace Mine

section
variable {prog : Program} {w : World} {A : Around} {E : Value → Shared → Prop} {h : Heap} {g : Array GenState} {dr : Drawn} {tk : Nat} {os : OsState} {B : Heap} {p : Program} {loose : List Str} {mg mb : Str → Option Value}
  {cs : List Nat} {R l l' : List Ent} {u : Tok}

theorem r_cellB {x : Str} {pos : Pos} {c : Addr} {v : Value} {env : Env} {s : Shared} {Q : Value → Shared → Prop} (O : Own B s.heap l) (hc : env.cells.lookup x = some c) (hB : B.IsCell c (some v)) (h : Q v s)
    (hk : env.scope.kind = .function := by rfl) (hl : env.kindOf x = some .cell := by rfl) (hd : (x == ("__debug__" : Str)) = false := by decide) :
    wpAny (model prog w) A (eval (.Name x pos) env) Q E s := wpAny_Name (wpAny_loadName_cell hk hl hc (hB.keeps O.keep) h) hd
theorem ints_mem : ∀ {vs : List Value} {ns : List Int}, IntsAre vs ns → ∀ v ∈ vs, ∃ n t, v = .int n t
  | _, _, .nil, v, hv => by cases hv
  | _, _, .cons n t r, v, hv => by
    rcases List.mem_cons.mp hv with rfl | hv
    · exact ⟨n, t, rfl⟩
    · exact ints_mem r v hv
def okT (x : Str) : Bool := decide (x.length ≤ 5) && x.cps.toList.all fun c => decide (c < 128)
theorem paired_words {vs : List Value} : ∀ {ys : List Value}, Paired (fun _ y => ∃ x t, y = .str x t ∧ okT x = true) vs ys → ∃ ws : List (List Nat), StrsAre ys (ws.map word) ∧ ws.length = vs.length ∧ ∀ w ∈ ws, w.length ≤ 5 ∧ ∀ c ∈ w, c < 128 := by
  intro ys h
  induction h with
  | nil => exact ⟨[], .nil, rfl, fun w hw => nomatch hw⟩
  | cons hy _ ih =>
    obtain ⟨x, t, rfl, hx⟩ := hy
    obtain ⟨ws, h1, h2, h3⟩ := ih
    refine ⟨x.cps.toList :: ws, .cons _ _ h1, by simp [h2], fun w hw => ?_⟩
    rcases List.mem_cons.mp hw with rfl | hw
    · unfold okT at hx
      simp only [Bool.and_eq_true, decide_eq_true_eq, List.all_eq_true] at hx
      rw [Array.length_toList]; exact hx
    · exact h3 w hw
theorem flatten_len : ∀ (ws : List (List Nat)), (∀ w ∈ ws, w.length ≤ 5 ∧ ∀ c ∈ w, c < 128) → ws.flatten.length ≤ 5 * ws.length
  | [], _ => by simp
  | w :: ws, h => by
    have h1 := (h w (.head _)).1
    have h2 := flatten_len ws fun v hv => h v (.tail _ hv)
    rw [List.flatten_cons, List.length_append, List.length_cons]; (first | assumption | decide | exact Nat.le_trans (by assumption) (by decide) | exact Nat.sub_succ_lt_self _ _ (by assumption) | exact Nat.succ_le_of_lt (by assumption) | exact Nat.le_of_lt (by assumption) | lia | omega)
theorem law_text {R' : Result → Shared → Prop} {sc : Addr} {vs : List Value} {ns : List Int} (G : Gr (KH w.params) p loose mg mb B) (hA : Ar A 2) (hl : B.IsList sc vs.toArray) (hI : IntsAre vs ns) (hv : vs.length ≤ 1000)
    (O : Own B h R)
    (k : ∀ txt tt h' t', txt.length ≤ 120 → (∀ c ∈ txt.cps.toList, c < 128) → Own B h' R → R' (.ok (.ret (.str txt tt))) ⟨h', g, dr, t', os⟩) :
    codeAny (model prog w) A (.call (.ref 88) ⟨[.ref sc], []⟩) R' ⟨h, g, dr, tk, os⟩ := by
  refine x_enterC G O rfl (by kernel_rfl) hA.room rfl (kinds fun n => rfl) (cells_nodup (by decide)) ?_
  intro L h₁ t1 O
  have O : Own B h₁ ((L, NsP _) :: (L + 1, CellP none) :: R) := O
  walk_at "lt"
  walk_at "ws"
  rename Own _ _ _ => O
  refine x_storeC O rfl (by walk_at "mem") (by walk_at "put") ?_
  intro h3 t3 O
  walk_at "ws"
  refine r_strMeth PySem.F.slot_str_join PySem.F.type_str_join ?_
  walk_at "ws"
  rename Own _ _ _ => O
  refine x_comp (cl := [(Str.ofString "pieces", L + 1)]) (fun _ => true) (fun v y => ∃ x t, y = .str x t ∧ okT x = true) (hA.deeper _).handled rfl rfl ?_
  walk_at "ws"
  refine x_sliceL O (isList_keeps hl O.keep) .none (.int _ _) ?_ (by (first | assumption | decide | exact Nat.le_trans (by assumption) (by decide) | exact Nat.sub_succ_lt_self _ _ (by assumption) | exact Nat.succ_le_of_lt (by assumption) | exact Nat.le_of_lt (by assumption) | lia | omega))
  intro D h4 t4 O4 hs4
  have esl : (slicePick vs.toArray none (some (16 : Int)) none).toList = vs.take 16 := by
    rw [PySem.W.kms_pick_eq]
    simp only [PySem.W.kms_pick, PySem.W.kms_lo, PySem.W.kms_hi, List.drop_zero, Nat.sub_zero]
    rw [if_neg (by decide)]
    exact PySem.W.kmk_take_min vs 16
  rw [esl] at O4
  obtain ⟨pa, ps, ic, ip, ip16, ips⟩ : ∃ pa ps, h4.IsCell (L + 1) (some (.ref pa)) ∧ h4.IsList pa (List.toArray ps) ∧ ps.length = 16 ∧ ∀ v ∈ ps, ∃ x t, v = .str x t ∧ okT x = true := by
    refine ⟨_, _, O4.cell (by walk_at "mem"), O4.list (by walk_at "mem"), rfl, ?_⟩
    intro v hv
    simp only [List.mem_cons, List.not_mem_nil, or_false] at hv
    rcases hv with rfl | rfl | rfl | rfl | rfl | rfl | rfl | rfl | rfl | rfl | rfl | rfl | rfl | rfl | rfl | rfl <;> exact ⟨_, _, rfl, by decide⟩
  refine ⟨D, _, h4, t4, B, _, rfl, rfl, O4, O4.list (by walk_at "mem"), ?_, ?_, ?_, ?_⟩
  · simp; (first | assumption | decide | exact Nat.le_trans (by assumption) (by decide) | exact Nat.sub_succ_lt_self _ _ (by assumption) | exact Nat.succ_le_of_lt (by assumption) | exact Nat.le_of_lt (by assumption) | lia | omega)
  · intro C v H g' dr' t' os' m' E' hv hH hn hm
    exact wpAny_tests_nil ⟨rfl, _, _, rfl, Sub.refl _⟩
  · intro C v H g' dr' t' os' m' E' hv _ hH hn hm
    have OH := own_all H
    walk_at "w"
    refine r_cellB OH rfl (ic.keeps hH) ?_
    walk_at "w"
    refine r_localB OH hn hm ?_
    walk_at "ws"
    obtain ⟨n, t, rfl⟩ := ints_mem hI v (List.mem_of_mem_take hv)
    refine PyProof.Rows.mod_int' (by decide) ?_
    walk_at "ws"
    have hlt : (n.fmod 16).toNat < ps.length := by rw [ip16]; have := Int.fmod_lt_of_pos n (b := 16) (by decide); have := Int.fmod_nonneg_of_pos n (b := 16) (by decide); (first | assumption | decide | exact Nat.le_trans (by assumption) (by decide) | exact Nat.sub_succ_lt_self _ _ (by assumption) | exact Nat.succ_le_of_lt (by assumption) | exact Nat.le_of_lt (by assumption) | lia | omega)
    refine x_itemL (isList_keeps ip hH) (Int.fmod_nonneg_of_pos n (by decide)) (by have := Int.fmod_lt_of_pos n (b := 16) (by decide); (first | assumption | decide | exact Nat.le_trans (by assumption) (by decide) | exact Nat.sub_succ_lt_self _ _ (by assumption) | exact Nat.succ_le_of_lt (by assumption) | exact Nat.le_of_lt (by assumption) | lia | omega)) (List.getElem?_eq_getElem hlt) ?_
    exact ⟨ips _ (List.getElem_mem hlt), _, _, rfl, Sub.refl _⟩
  · intro D2 h10 t25 ys O10 hP hs10
    rw [List.filter_eq_self.mpr (fun _ _ => rfl)] at hP
    obtain ⟨ws, hw1, hw2, hw3⟩ := paired_words hP
    have hfl := flatten_len ws hw3
    have hws : ws.length ≤ 16 := by rw [hw2]; simp; (first | assumption | decide | exact Nat.le_trans (by assumption) (by decide) | exact Nat.sub_succ_lt_self _ _ (by assumption) | exact Nat.succ_le_of_lt (by assumption) | exact Nat.le_of_lt (by assumption) | lia | omega)
    walk_at "ws"
    refine x_joinL (O10.list (by walk_at "mem")) hw1 ?_ ?_
    · rw [show (Str.ofString "").length = 0 from rfl, Nat.mul_zero, Nat.add_zero, List.map_map]
      have : (List.map (Str.length ∘ word) ws).sum = ws.flatten.length := by
        rw [List.length_flatten]; congr 1
      rw [this]; (first | assumption | decide | exact Nat.le_trans (by assumption) (by decide) | exact Nat.sub_succ_lt_self _ _ (by assumption) | exact Nat.succ_le_of_lt (by assumption) | exact Nat.le_of_lt (by assumption) | lia | omega)
    · intro t5 t6
      rw [join_words]
      have hwl : (word ws.flatten).length = ws.flatten.length := by show ws.flatten.toArray.size = _; simp
      walk_at "ws"
      refine x_addS (by rw [sizeLine_eq, hwl, show (Str.ofString " b \"\" c a b a").length = 13 from rfl]; (first | assumption | decide | exact Nat.le_trans (by assumption) (by decide) | exact Nat.sub_succ_lt_self _ _ (by assumption) | exact Nat.succ_le_of_lt (by assumption) | exact Nat.le_of_lt (by assumption) | lia | omega)) ?_
      intro t7 t8
      walk_at "ws"
      refine k _ _ _ _ ?_ ?_ ?_
      · rw [Str.length_append, hwl, show (Str.ofString " b \"\" c a b a").length = 13 from rfl]; (first | assumption | decide | exact Nat.le_trans (by assumption) (by decide) | exact Nat.sub_succ_lt_self _ _ (by assumption) | exact Nat.succ_le_of_lt (by assumption) | exact Nat.le_of_lt (by assumption) | lia | omega)
      · intro c hc
        rw [Str.cps_append, Array.toList_append] at hc
        rcases List.mem_append.mp hc with hc | hc
        · obtain ⟨l, hl, hc⟩ := List.mem_flatten.mp (show c ∈ ws.flatten by simpa using hc)
          exact (hw3 l hl).2 c hc
        · have : (Str.ofString " b \"\" c a b a").cps.toList.all (fun c => decide (c < 128)) = true := by decide
          simpa using List.all_eq_true.mp this c hc
      · rename Own _ _ _ => O

        exact O.tail.tail.tail.tail.tail
end
end Mine
end

/- part TwoBL -/
section
open PySem PyProof.Rows
namespace Mine
/-! ## the law's sections are the lexer's -/
theorem lexT_cut : ∀ r : List Nat, (lexT r).2.length + 2 ≤ r.length ∨ (lexT r).2 = []
  | [] => by rw [lexT]; exact .inr rfl
  | c :: r => by
    rw [lexT]
    split
    · rcases lexT_cut r with h | h
      · exact .inl (by simp; (first | assumption | decide | exact Nat.le_trans (by assumption) (by decide) | exact Nat.sub_succ_lt_self _ _ (by assumption) | exact Nat.succ_le_of_lt (by assumption) | exact Nat.le_of_lt (by assumption) | lia | omega))
      · exact .inr h
    · split
      · rcases qLoop_end_or [] r with h | h
        · exact .inl (by simp; (first | assumption | decide | exact Nat.le_trans (by assumption) (by decide) | exact Nat.sub_succ_lt_self _ _ (by assumption) | exact Nat.succ_le_of_lt (by assumption) | exact Nat.le_of_lt (by assumption) | lia | omega))
        · subst h; exact .inr (by rw [qLoop_nil])
      · split
        · cases r with
          | nil => exact .inr (by simp [uLoop])
          | cons c' r =>
            rcases uLoop_end_or (List.take 1 (c' :: r)) (List.drop 1 (c' :: r)) with h | h
            · exact .inl (by simp at h ⊢; (first | assumption | decide | exact Nat.le_trans (by assumption) (by decide) | exact Nat.sub_succ_lt_self _ _ (by assumption) | exact Nat.succ_le_of_lt (by assumption) | exact Nat.le_of_lt (by assumption) | lia | omega))
            · refine .inr ?_
              rw [h, uLoop_nil]
        · rcases uLoop_end_or [c] r with h | h
          · exact .inl (by simp; (first | assumption | decide | exact Nat.le_trans (by assumption) (by decide) | exact Nat.sub_succ_lt_self _ _ (by assumption) | exact Nat.succ_le_of_lt (by assumption) | exact Nat.le_of_lt (by assumption) | lia | omega))
          · subst h; exact .inr (by rw [uLoop_nil])
theorem lexT_less {r : List Nat} (h : r ≠ []) : (lexT r).2.length < r.length := by
  rcases lexT_cut r with h' | h'
  · (first | assumption | decide | exact Nat.le_trans (by assumption) (by decide) | exact Nat.sub_succ_lt_self _ _ (by assumption) | exact Nat.succ_le_of_lt (by assumption) | exact Nat.le_of_lt (by assumption) | lia | omega)
  · rw [h']; exact List.length_pos_iff.mpr h
def restAt : Nat → List Nat → List Nat
  | 0, r => r
  | k + 1, r => restAt k (secT r).2
theorem restAt_succ : ∀ (k : Nat) (r : List Nat), restAt (k + 1) r = (secT (restAt k r)).2
  | 0, r => rfl
  | k + 1, r => restAt_succ k (secT r).2
theorem lexT_none : lexT [] = ([], []) := by rw [lexT]
theorem secT_none : secT [] = ([], []) := by rw [secT_nil (by rw [lexT_none]), lexT_none]
theorem restAt_none : ∀ k : Nat, restAt k [] = []
  | 0 => rfl
  | k + 1 => by rw [restAt, secT_none]; exact restAt_none k
theorem secs_at {n : Nat} : ∀ (m : Nat) (r : List Nat) (q : Nat) (acc : List (List Nat)), r.length ≤ m → q + r.length = n → ∀ (j : Nat) (s : Sec), (secsT n acc (rowsT n (sgn r q)))[j]? = some s →
    s.1 = (if j = 0 then acc else []) ++ (secT (restAt j r)).1 ∧ s.2 = n - (secT (restAt j r)).2.length := by
  intro m
  induction m with
  | zero =>
    intro r q acc hr hq j s hs
    rw [List.length_eq_zero_iff.mp (Nat.le_zero.mp hr)] at hs ⊢
    rw [sgn_nil, rowsT, secsT] at hs
    rw [restAt_none, secT_none]
    match j, hs with
    | 0, hs => cases hs; simp
    | 1, hs => cases hs; simp
    | j + 2, hs => simp at hs
  | succ m ih =>
    intro r q acc hr hq j s hs
    by_cases hne : r = []
    · subst hne
      exact ih [] q acc (Nat.zero_le _) hq j s hs
    have hlt := lexT_less hne
    obtain ⟨tok, rest, hl, h⟩ := lex_rows r q hq
    have e1 : (lexT r).1 = tok := by rw [hl]
    have e2 : (lexT r).2 = rest := by rw [hl]
    rw [e2] at hlt
    rcases h with h | ⟨h, rfl, rfl⟩
    · rw [h, secsT] at hs
      by_cases ht : tok = []
      · rw [if_pos ht] at hs
        have es : secT r = ([], rest) := by rw [secT_nil (e1.trans ht), e2]
        cases j with
        | zero =>
          cases hs
          simp only [restAt, es]; simp
        | succ j =>
          have := ih rest (n - rest.length) [] (by (first | assumption | decide | exact Nat.le_trans (by assumption) (by decide) | exact Nat.sub_succ_lt_self _ _ (by assumption) | exact Nat.succ_le_of_lt (by assumption) | exact Nat.le_of_lt (by assumption) | lia | omega)) (by (first | assumption | decide | exact Nat.le_trans (by assumption) (by decide) | exact Nat.sub_succ_lt_self _ _ (by assumption) | exact Nat.succ_le_of_lt (by assumption) | exact Nat.le_of_lt (by assumption) | lia | omega)) j s (by simpa using hs)
          simp only [restAt, es]
          simpa using this
      · rw [if_neg ht] at hs
        have es : secT r = (tok :: (secT rest).1, (secT rest).2) := by rw [secT_cons (by rw [e1]; exact ht), e1, e2]
        have := ih rest (n - rest.length) (acc ++ [tok]) (by (first | assumption | decide | exact Nat.le_trans (by assumption) (by decide) | exact Nat.sub_succ_lt_self _ _ (by assumption) | exact Nat.succ_le_of_lt (by assumption) | exact Nat.le_of_lt (by assumption) | lia | omega)) (by (first | assumption | decide | exact Nat.le_trans (by assumption) (by decide) | exact Nat.sub_succ_lt_self _ _ (by assumption) | exact Nat.succ_le_of_lt (by assumption) | exact Nat.le_of_lt (by assumption) | lia | omega)) j s hs
        cases j with
        | zero =>
          simp only [restAt, es] at this ⊢
          simpa using this
        | succ j =>
          simp only [restAt, es] at this ⊢
          simpa using this
    · rw [h, secsT] at hs
      have es : secT r = ([], []) := by rw [secT_nil e1, e2]
      match j, hs with
      | 0, hs => cases hs; simp [restAt, es]
      | 1, hs => cases hs; simp [restAt, es, secT_none]
      | j + 2, hs => simp at hs
theorem rows_few {n : Nat} : ∀ (m : Nat) (r : List Nat) (q : Nat), r.length ≤ m → q + r.length = n → 2 * (rowsT n (sgn r q)).length ≤ r.length + 1 := by
  intro m
  induction m with
  | zero =>
    intro r q hr hq
    rw [List.length_eq_zero_iff.mp (Nat.le_zero.mp hr), sgn_nil, rowsT]; simp
  | succ m ih =>
    intro r q hr hq
    by_cases hne : r = []
    · subst hne; exact ih [] q (Nat.zero_le _) hq
    have hpos := List.length_pos_iff.mpr hne
    have hlt := lexT_less hne
    obtain ⟨tok, rest, hl, h⟩ := lex_rows r q hq
    have hcut := lexT_cut r
    rw [hl] at hlt hcut
    simp only at hlt hcut
    rcases h with h | ⟨h, rfl, rfl⟩
    · rw [h, List.length_cons]
      rcases hcut with hc | hc
      · have := ih rest (n - rest.length) (by (first | assumption | decide | exact Nat.le_trans (by assumption) (by decide) | exact Nat.sub_succ_lt_self _ _ (by assumption) | exact Nat.succ_le_of_lt (by assumption) | exact Nat.le_of_lt (by assumption) | lia | omega)) (by (first | assumption | decide | exact Nat.le_trans (by assumption) (by decide) | exact Nat.sub_succ_lt_self _ _ (by assumption) | exact Nat.succ_le_of_lt (by assumption) | exact Nat.le_of_lt (by assumption) | lia | omega))
        (first | assumption | decide | exact Nat.le_trans (by assumption) (by decide) | exact Nat.sub_succ_lt_self _ _ (by assumption) | exact Nat.succ_le_of_lt (by assumption) | exact Nat.le_of_lt (by assumption) | lia | omega)
      · subst hc
        rw [sgn_nil, rowsT]; simp; (first | assumption | decide | exact Nat.le_trans (by assumption) (by decide) | exact Nat.sub_succ_lt_self _ _ (by assumption) | exact Nat.succ_le_of_lt (by assumption) | exact Nat.le_of_lt (by assumption) | lia | omega)
    · rw [h]; simp
theorem secs_sum {n : Nat} : ∀ (rows : List (List Nat × Nat)) (acc : List (List Nat)), ((secsT n acc rows).map fun s => s.1.length).sum ≤ acc.length + rows.length
  | [], acc => by rw [secsT]; simp
  | (w, e) :: r, acc => by
    rw [secsT]
    split
    · have := secs_sum (n := n) r []
      simp at this ⊢; (first | assumption | decide | exact Nat.le_trans (by assumption) (by decide) | exact Nat.sub_succ_lt_self _ _ (by assumption) | exact Nat.succ_le_of_lt (by assumption) | exact Nat.le_of_lt (by assumption) | lia | omega)
    · have := secs_sum (n := n) r (acc ++ [w])
      simp at this ⊢; (first | assumption | decide | exact Nat.le_trans (by assumption) (by decide) | exact Nat.sub_succ_lt_self _ _ (by assumption) | exact Nat.succ_le_of_lt (by assumption) | exact Nat.le_of_lt (by assumption) | lia | omega)
theorem secs_len {n : Nat} : ∀ (rows : List (List Nat × Nat)) (acc : List (List Nat)), (secsT n acc rows).length ≤ rows.length + 3
  | [], acc => by rw [secsT]; simp
  | (w, e) :: r, acc => by
    rw [secsT]
    split
    · have := secs_len (n := n) r []
      simp at this ⊢; (first | assumption | decide | exact Nat.le_trans (by assumption) (by decide) | exact Nat.sub_succ_lt_self _ _ (by assumption) | exact Nat.succ_le_of_lt (by assumption) | exact Nat.le_of_lt (by assumption) | lia | omega)
    · have := secs_len (n := n) r (acc ++ [w])
      simp at this ⊢; (first | assumption | decide | exact Nat.le_trans (by assumption) (by decide) | exact Nat.sub_succ_lt_self _ _ (by assumption) | exact Nat.succ_le_of_lt (by assumption) | exact Nat.le_of_lt (by assumption) | lia | omega)
theorem qLoop_mem : ∀ (n : Nat) (acc r : List Nat), r.length ≤ n → ∀ c ∈ (qLoop acc r).1, c ∈ acc ∨ c ∈ r
  | _, acc, [], _ => by rw [qLoop_nil]; exact fun c h => .inl h
  | n + 1, acc, c :: r, h => by
    by_cases h1 : c = 92
    · subst h1
      rw [qLoop_esc]
      intro x hx
      rcases qLoop_mem n _ _ (by simp at h ⊢; (first | assumption | decide | exact Nat.le_trans (by assumption) (by decide) | exact Nat.sub_succ_lt_self _ _ (by assumption) | exact Nat.succ_le_of_lt (by assumption) | exact Nat.le_of_lt (by assumption) | lia | omega)) x hx with hx | hx
      · rcases List.mem_append.mp hx with hx | hx
        · exact .inl hx
        · exact .inr (.tail _ (List.mem_of_mem_take hx))
      · exact .inr (.tail _ (List.mem_of_mem_drop hx))
    · by_cases h2 : c = 34
      · subst h2; rw [qLoop_end]; exact fun x hx => .inl hx
      · rw [qLoop_on _ _ _ h2 h1]
        intro x hx
        rcases qLoop_mem n _ _ (by simp at h ⊢; (first | assumption | decide | exact Nat.le_trans (by assumption) (by decide) | exact Nat.sub_succ_lt_self _ _ (by assumption) | exact Nat.succ_le_of_lt (by assumption) | exact Nat.le_of_lt (by assumption) | lia | omega)) x hx with hx | hx
        · rcases List.mem_append.mp hx with hx | hx
          · exact .inl hx
          · rw [List.mem_singleton.mp hx]; exact .inr (.head _)
        · exact .inr (.tail _ hx)
theorem uLoop_mem : ∀ (n : Nat) (acc r : List Nat), r.length ≤ n → ∀ c ∈ (uLoop acc r).1, c ∈ acc ∨ c ∈ r
  | _, acc, [], _ => by rw [uLoop_nil]; exact fun c h => .inl h
  | n + 1, acc, c :: r, h => by
    by_cases h1 : c = 92
    · subst h1
      rw [uLoop_esc]
      intro x hx
      rcases uLoop_mem n _ _ (by simp at h ⊢; (first | assumption | decide | exact Nat.le_trans (by assumption) (by decide) | exact Nat.sub_succ_lt_self _ _ (by assumption) | exact Nat.succ_le_of_lt (by assumption) | exact Nat.le_of_lt (by assumption) | lia | omega)) x hx with hx | hx
      · rcases List.mem_append.mp hx with hx | hx
        · exact .inl hx
        · exact .inr (.tail _ (List.mem_of_mem_take hx))
      · exact .inr (.tail _ (List.mem_of_mem_drop hx))
    · cases h2 : isWs c with
      | true => rw [uLoop_end _ _ _ h2]; exact fun x hx => .inl hx
      | false =>
        rw [uLoop_on _ _ _ h2 h1]
        intro x hx
        rcases uLoop_mem n _ _ (by simp at h ⊢; (first | assumption | decide | exact Nat.le_trans (by assumption) (by decide) | exact Nat.sub_succ_lt_self _ _ (by assumption) | exact Nat.succ_le_of_lt (by assumption) | exact Nat.le_of_lt (by assumption) | lia | omega)) x hx with hx | hx
        · rcases List.mem_append.mp hx with hx | hx
          · exact .inl hx
          · rw [List.mem_singleton.mp hx]; exact .inr (.head _)
        · exact .inr (.tail _ hx)
theorem lexT_mem : ∀ r : List Nat, ∀ c ∈ (lexT r).1, c ∈ r
  | [] => by rw [lexT]; exact fun c h => h
  | a :: r => by
    rw [lexT]
    split
    · exact fun c h => .tail _ (lexT_mem r c h)
    · split
      · intro c h
        rcases qLoop_mem _ _ _ (Nat.le_refl _) c h with h | h
        · cases h
        · exact .tail _ h
      · split
        · intro c h
          rcases uLoop_mem _ _ _ (Nat.le_refl _) c h with h | h
          · exact .tail _ (List.mem_of_mem_take h)
          · exact .tail _ (List.mem_of_mem_drop h)
        · intro c h
          rcases uLoop_mem _ _ _ (Nat.le_refl _) c h with h | h
          · rw [List.mem_singleton.mp h]; exact .head _
          · exact .tail _ h
theorem secT_mem (r : List Nat) : ∀ v ∈ (secT r).1, ∀ c ∈ v, c ∈ r := by
  by_cases h : (lexT r).1 = []
  · rw [secT_nil h]; intro v hv; cases hv
  · rw [secT_cons h]
    have := lexT_lt h
    intro v hv c hc
    rcases List.mem_cons.mp hv with rfl | hv
    · exact lexT_mem r c hc
    · exact (lexT_suf r).subset (secT_mem _ v hv c hc)
termination_by r.length
theorem restAt_suf : ∀ (k : Nat) (r : List Nat), restAt k r <:+ r
  | 0, r => List.suffix_refl _
  | k + 1, r => (restAt_suf k (secT r).2).trans (secT_suf r)
theorem secs_mem {cs : List Nat} {s : Sec} (h : s ∈ secsT cs.length [] (rowsT cs.length (sgn cs 0))) : ∀ v ∈ s.1, ∀ c ∈ v, c ∈ cs := by
  obtain ⟨j, hj⟩ := List.mem_iff_getElem?.mp h
  have h1 := (secs_at _ cs 0 [] (Nat.le_refl _) (Nat.zero_add _) j s hj).1
  rw [ite_self, List.nil_append] at h1
  rw [h1]
  intro v hv c hc
  exact (restAt_suf j cs).subset (secT_mem _ v hv c hc)
end Mine
end

/- part TwoE -/
section
open PySem PySem.Spec PySem.W PyProof.Rows PySem.Calls
set_option Elab.async false
set_option maxRecDepth 100000
set_option maxHeartbeats 4000000
namespace Mine
local macro_rules | `(tactic| walk_at "mem") => `(tactic| (first | exact List.Mem.head _ | (refine List.Mem.tail _ ?_; walk_at "mem")))
section
variable {prog : Program} {w : World} {A : Around} {E : Value → Shared → Prop} {h : Heap} {g : Array GenState} {dr : Drawn} {tk : Nat} {os : OsState} {B : Heap} {p : Program} {loose : List Str} {mg mb : Str → Option Value}
  {x d pb pl fs fr it bm S : Addr} {cs : List Nat} {ln : Int} {q : Nat} {e2 : Ent} {R l l' : List Ent} {u : Tok} {outer : List Env}

/-- list over an iterator of a call and a mark -/
theorem x_listCit {a b : Value} {Q : Value → Shared → Prop} (O : Own B h l) (hi : (it, EqP (citObj a b)) ∈ l)
    (k : ∀ S h' t', Own B h' ((S, ListP []) :: l) → codeAny (model prog w) A.in1 (.builtin "list.extend.loop" ⟨[.ref S, .ref it, .none], []⟩) (fun r s' => r = .ok (.ret .none) ∧ Q (.ref S) s') ⟨h', g, dr, t', os⟩) :
    wpAny (model prog w) A (call (.type "list") [.ref it]) Q E ⟨h, g, dr, tk, os⟩ := by
  refine callType_codes (s := ⟨h, g, dr, tk, os⟩) (Q₁ := fun obj s₁ => obj = .ref h.objs.size ∧ s₁ = ⟨h.push { cls := .type "list", data := .seq #[] }, g, dr, tk, os⟩) F.called_list (F.typeCall_list_1 _) F.entry_list_init
    (code_list_new (s := ⟨h, g, dr, tk, os⟩) _ ⟨rfl, rfl⟩) fun obj s₁ h₁ => ?_
  obtain ⟨rfl, rfl⟩ := h₁
  have O1 := O.push (P := ListP []) { cls := .type "list", dict := none, data := .seq ([] : List Value).toArray } ⟨_, rfl⟩
  have hS : (h.push { cls := .type "list", data := .seq #[] }).get? h.objs.size = some { cls := .type "list", data := .seq #[] } := Heap.get?_push_size _ rfl
  refine ⟨⟨_, hS, rfl⟩, F.args_list_init_2 _ _, ?_⟩
  show wpAny _ A.in1.in1 (do let old ← Builtin.List.listItems (.ref h.objs.size); Builtin.List.listUpdate (.ref h.objs.size) (fun _ => #[]); letGo old.toList.reverse; Builtin.List.listExtendWith (.ref h.objs.size) (.ref it) .none) _ _ _
  refine wpAny_bind ?_
  unfold Builtin.List.listItems
  refine wpAny_bind (wpAny_seqItems hS rfl (wpAny_pure ?_))
  show wpAny _ _ (updateSeq h.objs.size (fun _ => #[]) >>= fun _ => letGo (#[] : Array Value).toList.reverse >>= fun _ => Builtin.List.listExtendWith (.ref h.objs.size) (.ref it) .none) _ _ _
  refine wpAny_bind (wpAny_updateSeq hS rfl ?_)
  refine wpAny_bind (wpAny_letGo ?_)
  have hS₂ := Heap.get?_update_self (Obj.mapSeq (fun _ => (#[] : Array Value))) hS rfl
  have O2 : Own B _ ((h.objs.size, ListP []) :: l) := O1.putSame Put.head (Heap.SameBut.update ..) ⟨_, hS₂, _, rfl⟩
  refine wpAny_mono (ext_begin (A := A.in1) (R' := wants (fun r s₂ => r = .none ∧ Q (.ref h.objs.size) s₂) E) O2 hi fun h2 t2 O3 => codeAny_mono (k _ _ _ O3) fun r s' z => ?_) (fun fin s' z => z) fun e s' z => z
  obtain ⟨rfl, z⟩ := z
  exact ⟨rfl, z⟩

/-- the section's words, read off the text -/
theorem list_lex {Q : Value → Shared → Prop} (G : Gr (KH w.params) p loose mg mb B) (St : Strm prog w B fs fr pl cs) (hA : Ar A 11) (hx : B.get? x = some ⟨.ref 52, some d, .plain, #[]⟩) (hcs : cs.length ≤ 1000000) (hq : q ≤ cs.length)
    (O : Own B h (LX x d pb pl fs cs q [] ((it, EqP (citObj (.ref bm) (.str (Str.ofString "") u))) :: (bm, EqP (methodObj (.ref 42) (.ref x))) :: R)))
    (k : ∀ (S : Addr) (vs : List Value) q' h' t', StrsAre vs ((secT (cs.drop q)).1.map word) → q' = cs.length - (secT (cs.drop q)).2.length →
      Own B h' (LX x d pb pl fs cs q' [] ((S, ListP vs) :: R)) → Q (.ref S) ⟨h', g, dr, t', os⟩) :
    wpAny (model prog w) A (call (.type "list") [.ref it]) Q E ⟨h, g, dr, tk, os⟩ := by
  refine x_listCit O (by walk_at "mem") fun S h1 t1 O1 => ?_
  have O1 := O1.behind [_, _, _, _, _]
  refine ext_lex G St (hA.in1.le (by (first | assumption | decide | exact Nat.le_trans (by assumption) (by decide) | exact Nat.sub_succ_lt_self _ _ (by assumption) | exact Nat.succ_le_of_lt (by assumption) | exact Nat.le_of_lt (by assumption) | lia | omega))) hx hcs (cs.length - q) q [] h1 t1 (Nat.le_refl _) hq (by simp; (first | assumption | decide | exact Nat.le_trans (by assumption) (by decide) | exact Nat.sub_succ_lt_self _ _ (by assumption) | exact Nat.succ_le_of_lt (by assumption) | exact Nat.le_of_lt (by assumption) | lia | omega)) O1 fun vs' q' h' t' hs hq' O' => ⟨rfl, ?_⟩
  exact k S vs' q' h' t' hs hq' (O'.cut [_, _, _] |>.cut [_, _, _])

/-- the words that wait, up to the empty one -/
theorem list_pop {Q : Value → Shared → Prop} (G : Gr (KH w.params) p loose mg mb B) (hA : Ar A 6) (hx : B.get? x = some ⟨.ref 52, some d, .plain, #[]⟩) {ws : List (List Nat)} {pbs : List Value} (hp : StrsAre pbs ((ws ++ [[]]).map word)) (hne : ∀ v ∈ ws, v ≠ []) (hn : ws.length ≤ 10000)
    (O : Own B h ((d, LexP ln fs pb) :: (pb, ListP pbs) :: e2 :: (it, EqP (citObj (.ref bm) (.str (Str.ofString "") u))) :: (bm, EqP (methodObj (.ref 42) (.ref x))) :: R))
    (k : ∀ (S : Addr) (vs : List Value) h' t', StrsAre vs (ws.map word) → Own B h' ((d, LexP ln fs pb) :: (pb, ListP []) :: e2 :: (S, ListP vs) :: R) → Q (.ref S) ⟨h', g, dr, t', os⟩) :
    wpAny (model prog w) A (call (.type "list") [.ref it]) Q E ⟨h, g, dr, tk, os⟩ := by
  refine x_listCit O (by walk_at "mem") fun S h1 t1 O1 => ?_
  have O1 := O1.behind [_, _, _, _, _]
  have key : ∀ (ws : List (List Nat)) (pbs vs : List Value) (h : Heap) (tk : Nat), StrsAre pbs ((ws ++ [[]]).map word) → (∀ v ∈ ws, v ≠ []) → vs.length + ws.length ≤ 10000 →
      Own B h ((d, LexP ln fs pb) :: (pb, ListP pbs) :: e2 :: (it, EqP (citObj (.ref bm) (.str (Str.ofString "") u))) :: (bm, EqP (methodObj (.ref 42) (.ref x))) :: (S, ListP vs) :: R) →
      (∀ vs' h' t', StrsAre vs' (ws.map word) → Own B h' ((d, LexP ln fs pb) :: (pb, ListP []) :: e2 :: (it, EqP citEnd) :: (bm, EqP (methodObj (.ref 42) (.ref x))) :: (S, ListP (vs ++ vs')) :: R) → Q (.ref S) ⟨h', g, dr, t', os⟩) →
      codeAny (model prog w) A.in1 (.builtin "list.extend.loop" ⟨[.ref S, .ref it, .none], []⟩) (fun r s' => r = .ok (.ret .none) ∧ Q (.ref S) s') ⟨h, g, dr, tk, os⟩ := by
    intro ws
    induction ws with
    | nil =>
      intro pbs vs h tk hp _ _ O k
      cases hp with
      | cons _ t hp =>
        cases hp
        refine ext_popEnd G (hA.in1.le (by (first | assumption | decide | exact Nat.le_trans (by assumption) (by decide) | exact Nat.sub_succ_lt_self _ _ (by assumption) | exact Nat.succ_le_of_lt (by assumption) | exact Nat.le_of_lt (by assumption) | lia | omega))) hx (by simp) O fun h' t' O' => ⟨rfl, k [] h' t' .nil (by rw [List.append_nil]; exact O')⟩
    | cons c ws ih =>
      intro pbs vs h tk hp hne hz O k
      rw [List.cons_append, List.map_cons] at hp
      cases hp with
      | cons _ t hp =>
        simp only [List.length_cons] at hz
        refine ext_pop G (hA.in1.le (by (first | assumption | decide | exact Nat.le_trans (by assumption) (by decide) | exact Nat.sub_succ_lt_self _ _ (by assumption) | exact Nat.succ_le_of_lt (by assumption) | exact Nat.le_of_lt (by assumption) | lia | omega))) hx (by rw [hp.length, List.length_map, List.length_append, List.length_singleton]; (first | assumption | decide | exact Nat.le_trans (by assumption) (by decide) | exact Nat.sub_succ_lt_self _ _ (by assumption) | exact Nat.succ_le_of_lt (by assumption) | exact Nat.le_of_lt (by assumption) | lia | omega)) (by (first | assumption | decide | exact Nat.le_trans (by assumption) (by decide) | exact Nat.sub_succ_lt_self _ _ (by assumption) | exact Nat.succ_le_of_lt (by assumption) | exact Nat.le_of_lt (by assumption) | lia | omega)) (hne c (.head _)) O fun h' t' O' => ?_
        refine ih _ _ h' t' hp (fun v hv => hne v (.tail _ hv)) (by simp; (first | assumption | decide | exact Nat.le_trans (by assumption) (by decide) | exact Nat.sub_succ_lt_self _ _ (by assumption) | exact Nat.succ_le_of_lt (by assumption) | exact Nat.le_of_lt (by assumption) | lia | omega)) O' fun vs' h2 t2 hs O2 => ?_
        refine k (.str (word c) t :: vs') h2 t2 (.cons _ _ hs) ?_
        rw [List.append_cons]; exact O2
  exact key ws pbs [] h1 t1 hp hne (by simpa using hn) O1 fun vs' h' t' hs O' => k S vs' h' t' hs (O'.cut [_, _, _] |>.cut [_, _, _])
end
end Mine
end

/- part TwoY -/
section
open PySem PySem.Spec PySem.W PyProof.Rows PySem.Calls
set_option Elab.async false
set_option maxRecDepth 100000
set_option maxHeartbeats 4000000
namespace Mine
local macro_rules | `(tactic| walk_at "mem") => `(tactic| (first | exact List.Mem.head _ | (refine List.Mem.tail _ ?_; walk_at "mem")))
local macro_rules | `(tactic| walk_at "put") => `(tactic| (first | exact Put.head | (apply Put.tail; walk_at "put")))
local macro_rules | `(tactic| walk_at "lk") => `(tactic| (first | exact rfl | assumption))
local macro_rules | `(tactic| walk_at "w") => `(tactic| first
  | ((with_reducible show wpAny _ _ (execs (_ :: _) _) _ _ _); refine wpAny_execs_cons ?_)
  | ((with_reducible show wpAny _ _ (execs [] _) _ _ _); refine wpAny_execs_nil ?_)
  | ((with_reducible show wpAny _ _ (eval (PySem.Expr.Name _ _) _) _ _ _); refine r_local (by assumption) (by walk_at "mem") (by walk_at "lk") ?_)
  | ((with_reducible show wpAny _ _ (eval (PySem.Expr.Name _ _) _) _ _ _); refine r_builtin (by assumption) (by assumption) (by kernel_rfl) (by boot_by_name) ?_)
  | ((with_reducible show wpAny _ _ (loadName _ _) _ _ _); refine r_localN (by assumption) (by walk_at "mem") (by walk_at "lk") ?_)
  | ((with_reducible show wpAny _ _ (eval (PySem.Expr.Constant (PySem.Const.int _) _ _) _) _ _ _); (refine x_cint ?_); intro _ _)
  | ((with_reducible show wpAny _ _ (eval (PySem.Expr.Constant (PySem.Const.str _) _ _) _) _ _ _); (refine x_cstr ?_); intro _ _)
  | ((with_reducible show wpAny _ _ (eval (PySem.Expr.Constant _ _ _) _) _ _ _); refine wpAny_pure ?_)
  | ((with_reducible show wpAny _ _ (storeName _ _ _) _ _ _); (refine x_store (by assumption) (by walk_at "mem") (by walk_at "put") ?_); intro _ _ _)
  | ((with_reducible show wpAny _ _ (assign (PySem.Expr.Name _ _) _ _) _ _ _); refine wpAny_bind (wpAny_standAt (wpAny_bindName ?_)))
  | ((with_reducible show wpAny _ _ (letOwnedTupleGo (PySem.Expr.Name _ _) _ _) _ _ _); refine wpAny_pure ?_)
  | ((with_reducible show wpAny _ _ (exec (PySem.Stmt.Assign [PySem.Expr.Name _ _] _ _) _) _ _ _); refine wpAny_Assign_Name ?_)
  | ((with_reducible show wpAny _ _ (exec (PySem.Stmt.Assign [PySem.Expr.Tuple _ _ _] _ _) _) _ _ _); refine Assign_Tuple ?_)
  | ((with_reducible show wpAny _ _ (exec (PySem.Stmt.Assign [PySem.Expr.Attribute _ _ _] _ _) _) _ _ _); refine plainObj_wpAny_Assign_Attribute ?_)
  | ((with_reducible show wpAny _ _ (exec (PySem.Stmt.Assign [PySem.Expr.Subscript _ _ _] _ _) _) _ _ _); refine wpAny_Assign_Subscript ?_)
  | ((with_reducible show wpAny _ _ (exec (PySem.Stmt.AugAssign (PySem.Expr.Name _ _) _ _ _) _) _ _ _); refine wpAny_AugAssign_Name ?_)
  | ((with_reducible show wpAny _ _ (exec (PySem.Stmt.AugAssign (PySem.Expr.Attribute _ _ _) _ _ _) _) _ _ _); refine wpAny_AugAssign_AttributeAny ?_)
  | ((with_reducible show wpAny _ _ (exec (PySem.Stmt.AugAssign (PySem.Expr.Subscript _ _ _) _ _ _) _) _ _ _); refine wpAny_AugAssign_SubscriptAny ?_)
  | ((with_reducible show wpAny _ _ (exec (PySem.Stmt.If _ _ _ _) _) _ _ _); refine wpAny_If ?_)
  | ((with_reducible show wpAny _ _ (exec (PySem.Stmt.Return (some _) _) _) _ _ _); refine wpAny_Return_some ?_)
  | ((with_reducible show wpAny _ _ (exec (PySem.Stmt.Expr _ _) _) _ _ _); refine wpAny_Expr ?_)
  | ((with_reducible show wpAny _ _ (exec (PySem.Stmt.For _ _ _ _ _) _) _ _ _); refine wpAny_For ?_)
  | ((with_reducible show wpAny _ _ (exec (PySem.Stmt.While _ _ _ _) _) _ _ _); refine wpAny_While ?_)
  | ((with_reducible show wpAny _ _ (exec (PySem.Stmt.Continue _) _) _ _ _); refine wpAny_Continue ?_)
  | ((with_reducible show wpAny _ _ (PySem.isTrue (PySem.Expr.Compare _ [_] [_] _) _ _) _ _ _); refine wpAny_isTrue_Compare1 ?_)
  | ((with_reducible show wpAny _ _ (PySem.isTrue (PySem.Expr.UnaryOp PySem.UnaryOp.Not _ _) _ _) _ _ _); refine isTrue_not ?_)
  | ((with_reducible show wpAny _ _ (PySem.isTrue (PySem.Expr.BoolOp PySem.BoolOp.And [] _) _ _) _ _ _); refine isTrue_and_nil ?_)
  | ((with_reducible show wpAny _ _ (PySem.isTrue (PySem.Expr.BoolOp PySem.BoolOp.Or [] _) _ _) _ _ _); refine isTrue_or_nil ?_)
  | ((with_reducible show wpAny _ _ (PySem.isTrue (PySem.Expr.BoolOp PySem.BoolOp.And (_ :: _) _) _ _) _ _ _); refine isTrue_and ?_)
  | ((with_reducible show wpAny _ _ (PySem.isTrue (PySem.Expr.BoolOp PySem.BoolOp.Or (_ :: _) _) _ _) _ _ _); refine isTrue_or ?_)
  | ((with_reducible show wpAny _ _ (PySem.isTrue _ _ _) _ _ _); refine isTrue_plain ?_)
  | ((with_reducible show wpAny _ _ (truthy (Value.bool _)) _ _ _); refine wpAny_pure ?_)
  | ((with_reducible show wpAny _ _ (truthy Value.none) _ _ _); refine wpAny_pure ?_)
  | ((with_reducible show wpAny _ _ (eval (PySem.Expr.Compare _ [_] [_] _) _) _ _ _); refine wpAny_Compare1 ?_)
  | ((with_reducible show wpAny _ _ (eval (PySem.Expr.BinOp _ _ _ _) _) _ _ _); refine wpAny_BinOp ?_)
  | ((with_reducible show wpAny _ _ (eval (PySem.Expr.UnaryOp _ _ _) _) _ _ _); refine UnaryOp_ ?_)
  | ((with_reducible show wpAny _ _ (eval (PySem.Expr.IfExp _ _ _ _) _) _ _ _); refine IfExp_ ?_)
  | ((with_reducible show wpAny _ _ (eval (PySem.Expr.BoolOp PySem.BoolOp.And (_ :: _ :: _) _) _) _ _ _); refine BoolOp_and ?_)
  | ((with_reducible show wpAny _ _ (eval (PySem.Expr.BoolOp PySem.BoolOp.Or (_ :: _ :: _) _) _) _ _ _); refine BoolOp_or ?_)
  | ((with_reducible show wpAny _ _ (eval (PySem.Expr.BoolOp _ [_] _) _) _ _ _); refine BoolOp_one ?_)
  | ((with_reducible show wpAny _ _ (eval (PySem.Expr.Call (PySem.Expr.Attribute _ _ _) _ _ _) _) _ _ _); refine MethodCall_ ?_)
  | ((with_reducible show wpAny _ _ (eval (PySem.Expr.Call _ _ _ _) _) _ _ _); refine Call_ ?_)
  | ((with_reducible show wpAny _ _ (eval (PySem.Expr.Attribute (PySem.Expr.Name _ _) _ _) _) _ _ _); refine Attribute_Name_ ?_)
  | ((with_reducible show wpAny _ _ (eval (PySem.Expr.Subscript _ _ _) _) _ _ _); refine Subscript_ ?_)
  | ((with_reducible show wpAny _ _ (eval (PySem.Expr.Slice _ _ _ _) _) _ _ _); refine wpAny_Slice ?_)
  | ((with_reducible show wpAny _ _ (eval (PySem.Expr.Tuple _ _ _) _) _ _ _); refine Tuple_ ?_)
  | ((with_reducible show wpAny _ _ (eval (PySem.Expr.List _ _) _) _ _ _); refine List_ ?_)
  | ((with_reducible show wpAny _ _ (evalPart (some _) _) _ _ _); refine evalPart_some_step ?_)
  | ((with_reducible show wpAny _ _ (evalPart none _) _ _ _); refine wpAny_pure ?_)
  | ((with_reducible show wpAny _ _ (spliced (backTo _ (starEach (_ :: _) _))) _ _ _); refine spliced_more ?_)
  | ((with_reducible show wpAny _ _ (spliced (backTo _ (starEach [] _))) _ _ _); refine spliced_none ?_)
  | ((with_reducible show wpAny _ _ (newList _) _ _ _); (refine x_list (by assumption) ?_); intro _ _ _ _)
  | ((with_reducible show wpAny _ _ (newTuple _) _ _ _); (refine x_tuple (by assumption) ?_); intro _ _ _ _)
  | ((with_reducible show wpAny _ _ (binaryOp PySem.Operator.Add (Value.int _ _) (Value.int _ _)) _ _ _); (refine x_addI ?_); intro _ _)
  | ((with_reducible show wpAny _ _ (inplaceOp PySem.Operator.Add (Value.int _ _) (Value.int _ _)) _ _ _); (refine x_iaddI ?_); intro _ _)
  | ((with_reducible show wpAny _ _ (binaryOp PySem.Operator.Sub (Value.int _ _) (Value.int _ _)) _ _ _); (refine x_subI ?_); intro _ _)
  | ((with_reducible show wpAny _ _ (binaryOp PySem.Operator.Mod (Value.int _ _) (Value.int _ _)) _ _ _); (refine x_modI (by decide) ?_); intro _ _)
  | ((with_reducible show wpAny _ _ (binaryOp PySem.Operator.FloorDiv (Value.int _ _) (Value.int _ _)) _ _ _); (refine x_fdivI (by decide) (by decide) ?_); intro _ _)
  | ((with_reducible show wpAny _ _ (compareOp PySem.CmpOp.Eq (Value.str _ _) (Value.str _ _)) _ _ _); refine eq_str ?_)
  | ((with_reducible show wpAny _ _ (compareOp PySem.CmpOp.Lt (Value.int _ _) (Value.int _ _)) _ _ _); refine P.lt_int ?_)
  | ((with_reducible show wpAny _ _ (compareOp PySem.CmpOp.Gt (Value.int _ _) (Value.int _ _)) _ _ _); refine P.gt_int ?_)
  | ((with_reducible show wpAny _ _ (compareOp PySem.CmpOp.Eq (Value.int _ _) (Value.int _ _)) _ _ _); refine P.eq_int ?_)
  | ((with_reducible show wpAny _ _ (compareOp PySem.CmpOp.NotEq (Value.str _ _) (Value.str _ _)) _ _ _); refine P.ne_str ?_)
  | ((with_reducible show wpAny _ _ (assignInOrder _ (_ :: _)) _ _ _); refine assignInOrder_cons ?_)
  | ((with_reducible show wpAny _ _ (assignInOrder _ []) _ _ _); refine assignInOrder_nil ?_)
  | ((with_reducible show wpAny _ _ (callWith _ (Value.builtin _) [] (backTo _ (starEach (_ :: _) _)) []) _ _ _); refine PyProof.Rows.callWith_builtin1 ?_)
  | ((with_reducible show wpAny _ _ (callWith _ (Value.builtin _) _ (backTo _ (starEach (_ :: _) _)) []) _ _ _); refine callWith_method1 ?_)
  | ((with_reducible show wpAny _ _ (callWith _ (Value.builtin _) _ (backTo _ (starEach [] _)) []) _ _ _); refine callWith_method0 ?_)
  | ((with_reducible show wpAny _ _ (callWith _ (Value.type _) [] (backTo _ (starEach (_ :: _) _)) []) _ _ _); refine PyProof.Rows.callWith_type1 ?_))
local macro_rules | `(tactic| walk_at "ws") => `(tactic| repeat (walk_at "w"))
local macro_rules | `(tactic| walk_at "wsT") => `(tactic| repeat ((fail_if_success (with_reducible show wpAny _ _ (PySem.isTrue (PySem.Expr.BoolOp _ _ _) _ _) _ _ _)); walk_at "w"))
theorem str_word (x : Str) : x = word x.cps.toList := by apply str_ext; simp
theorem two_perm {x y a b : W} (h : [x, y].Perm [a, b]) : (x = a ∧ y = b) ∨ (x = b ∧ y = a) := by
  have hx : x ∈ [a, b] := h.mem_iff.mp (.head _)
  rcases List.mem_cons.mp hx with rfl | hx
  · have := (List.perm_cons x).mp h
    exact .inl ⟨rfl, List.singleton_perm_singleton.mp this⟩
  · rw [List.mem_singleton] at hx
    subst hx
    have := (List.perm_cons x).mp (h.trans (List.Perm.swap x a []))
    exact .inr ⟨rfl, List.singleton_perm_singleton.mp this⟩
theorem two_sorted {a b : W} {vs : List Value} {ss : List Str} (hv : StrsAre vs ss) (hp : ss.Perm [word a, word b]) (hs : sortedS ss = true) : ∃ t u, vs = [.str (word (lo2 a b)) t, .str (word (hi2 a b)) u] := by
  have hpair := sorted_pair hs
  have hq := hp.map (·.cps.toList)
  have e : [word a, word b].map (·.cps.toList) = [a, b] := by simp
  rw [e] at hq
  obtain ⟨x, y, hss⟩ : ∃ x y, ss = [x, y] := by
    have := hp.length_eq
    match ss, this with
    | [x, y], _ => exact ⟨x, y, rfl⟩
  subst hss
  simp only [List.map_cons, List.map_nil, List.pairwise_cons, List.mem_singleton, forall_eq, List.not_mem_nil, false_implies, implies_true, List.Pairwise.nil, and_true] at hpair hq
  have hle := hpair
  have hxy : (x.cps.toList = a ∧ y.cps.toList = b) ∨ (x.cps.toList = b ∧ y.cps.toList = a) := two_perm hq
  have key : x = word (lo2 a b) ∧ y = word (hi2 a b) := by
    rcases hxy with ⟨h1, h2⟩ | ⟨h1, h2⟩
    · rw [h1, h2] at hle
      unfold lo2 hi2
      rw [if_neg hle, if_neg hle, ← h1, ← h2]; exact ⟨str_word x, str_word y⟩
    · rw [h1, h2] at hle
      unfold lo2 hi2
      by_cases q : b < a
      · rw [if_pos q, if_pos q, ← h1, ← h2]; exact ⟨str_word x, str_word y⟩
      · have := eq_of_nlt hle q
        rw [if_neg q, if_neg q]
        have e1 : x = word b := h1 ▸ str_word x
        have e2 : y = word a := h2 ▸ str_word y
        rw [e1, e2, this]; exact ⟨rfl, rfl⟩
  cases hv with
  | cons s t hv =>
    cases hv with
    | cons s' t' hv =>
      cases hv
      exact ⟨_, _, by rw [key.1, key.2]⟩
section
variable {prog : Program} {w : World} {A : Around} {E : Value → Shared → Prop} {h : Heap} {g : Array GenState} {dr : Drawn} {tk : Nat} {os : OsState} {B : Heap} {p : Program} {loose : List Str} {mg mb : Str → Option Value} {R l : List Ent}
theorem x_sortedL {D : Addr} {vs : List Value} {ss : List Str} {Q : Value → Shared → Prop} (O : Own B h l) (hm : (D, ListP vs) ∈ l) (hS : StrsAre vs ss) (h64 : vs.length < 64)
    (k : ∀ D vs' ss' h' t', StrsAre vs' ss' → ss'.Perm ss → sortedS ss' = true → Own B h' ((D, ListP vs') :: l) → Q (.ref D) ⟨h', g, dr, t', os⟩) :
    wpAny (model prog w) A (call (.builtin "sorted") [.ref D]) Q E ⟨h, g, dr, tk, os⟩ := by
  refine x_sorted ?_
  obtain ⟨o, ho, n, rfl⟩ := O.get hm
  refine wpAny_collect_seq (s := ⟨h, g, dr, tk, os⟩) D (T := "list") (.inl rfl) ho rfl rfl (fun h' hk => ?_) (by rw [sizeLine_eq]; simp; (first | assumption | decide | exact Nat.le_trans (by assumption) (by decide) | exact Nat.sub_succ_lt_self _ _ (by assumption) | exact Nat.succ_le_of_lt (by assumption) | exact Nat.le_of_lt (by assumption) | lia | omega))
  refine ⟨B, l, ss, h', _, rfl, O.ext hk, by simpa using hS, by simpa using h64, k⟩

theorem median_low_two {R' : Result → Shared → Prop} {pa : Addr} {a b : W} {ta tb : Tok} (G : Gr (KH w.params) p loose mg mb B) (hA : Ar A 4)
    (O : Own B h R) (hm : (pa, ListP [.str (word a) ta, .str (word b) tb]) ∈ R)
    (k : ∀ u h' t', Own B h' R → R' (.ok (.ret (.str (word (lo2 a b)) u))) ⟨h', g, dr, t', os⟩) :
    codeAny (model prog w) A (.call (.ref 76) ⟨[.ref pa], []⟩) R' ⟨h, g, dr, tk, os⟩ := by
  refine x_enterR (pre := []) G O rfl (by kernel_rfl) hA.room rfl (locs rfl) ?_
  intro L h₁ t1 O
  dsimp only [List.cons_append, List.nil_append] at O
  walk_at "ws"
  refine x_sortedL O (.tail _ hm) (ss := [word a, word b]) (.cons _ _ (.cons _ _ .nil)) (by simp) ?_
  intro D vs ss h2 t2 hvs hperm hsort O
  obtain ⟨u1, u2, rfl⟩ := two_sorted hvs hperm hsort
  walk_at "ws"
  rename Own _ _ _ => O
  refine x_lenL (O.list (by walk_at "mem")) (by simp) ?_
  intro t3 t4
  walk_at "ws"
  refine br (c := False) (by simp) (fun z => z.elim) (fun _ => ?_)
  walk_at "ws"
  refine br (c := False) (by simp; try decide) (fun z => z.elim) (fun _ => ?_)
  walk_at "ws"
  try (rename Own _ _ _ => O)
  refine x_itemL (v := .str (word (lo2 a b)) u1) (O.list (by walk_at "mem")) (by simp) (by simp) (by simp only [List.length_cons, List.length_nil]; rw [show (((0 + 1 + 1 : Nat) : Int).fdiv 2 - 1).toNat = 0 from by decide]; rfl) ?_
  walk_at "ws"
  exact k _ _ _ (O.tail.tail)

theorem median_high_two {R' : Result → Shared → Prop} {pa : Addr} {a b : W} {ta tb : Tok} (G : Gr (KH w.params) p loose mg mb B) (hA : Ar A 4)
    (O : Own B h R) (hm : (pa, ListP [.str (word a) ta, .str (word b) tb]) ∈ R)
    (k : ∀ u h' t', Own B h' R → R' (.ok (.ret (.str (word (hi2 a b)) u))) ⟨h', g, dr, t', os⟩) :
    codeAny (model prog w) A (.call (.ref 83) ⟨[.ref pa], []⟩) R' ⟨h, g, dr, tk, os⟩ := by
  refine x_enterR (pre := []) G O rfl (by kernel_rfl) hA.room rfl (locs rfl) ?_
  intro L h₁ t1 O
  dsimp only [List.cons_append, List.nil_append] at O
  walk_at "ws"
  refine x_sortedL O (.tail _ hm) (ss := [word a, word b]) (.cons _ _ (.cons _ _ .nil)) (by simp) ?_
  intro D vs ss h2 t2 hvs hperm hsort O
  obtain ⟨u1, u2, rfl⟩ := two_sorted hvs hperm hsort
  walk_at "ws"
  rename Own _ _ _ => O
  refine x_lenL (O.list (by walk_at "mem")) (by simp) ?_
  intro t3 t4
  walk_at "ws"
  refine br (c := False) (by simp) (fun z => z.elim) (fun _ => ?_)
  walk_at "ws"
  try (rename Own _ _ _ => O)
  refine x_itemL (v := .str (word (hi2 a b)) u2) (O.list (by walk_at "mem")) (by simp) (by simp) (by simp only [List.length_cons, List.length_nil]; rw [show (((0 + 1 + 1 : Nat) : Int).fdiv 2).toNat = 1 from by decide]; rfl) ?_
  walk_at "ws"
  exact k _ _ _ (O.tail.tail)

end

end Mine
end

/- part TwoPA -/
section
open PySem PySem.Spec PySem.W PyProof.Rows PySem.Calls
set_option Elab.async false
set_option maxRecDepth 100000
set_option maxHeartbeats 4000000
namespace Mine

def BoolsP (ms : List Bool) : Obj → Prop := ListP (ms.map Value.bool)
/-- what the loop of the passes keeps: the figure left has at most 5 - n binary figures -/
structure PM (ma : Addr) (f : Int) (m : Str → Option Value) : Prop where
  figures : ∃ t, m "figures" = some (.int f t)
  marks : m "marks" = some (.ref ma)
section
variable {prog : Program} {w : World} {A : Around} {E : Value → Shared → Prop} {h : Heap} {g : Array GenState} {dr : Drawn} {tk : Nat} {os : OsState} {B : Heap} {p : Program} {loose : List Str} {mg mb : Str → Option Value} {R l : List Ent}
theorem x_itemN {a : Addr} {vs : List Value} {i : Int} {u : Tok} {v : Value} {value slice : Expr} {Q : Value → Shared → Prop} (hl : h.IsList a vs.toArray) (h0 : i < 0) (h1 : -(vs.length : Int) ≤ i) (hz : vs.length < 1000000000) (hx : vs[(i + vs.length).toNat]? = some v) (k : Q v ⟨h, g, dr, tk, os⟩)
    (hs : subscripted slice false (.ref a) (.int i u) = operate [.ref a, .int i u] (getItem (.ref a) (.int i u)) := by with_unfolding_all rfl) :
    wpAny (model prog w) A (subscriptTail value slice (.ref a) (.int i u)) Q E ⟨h, g, dr, tk, os⟩ :=
  tail_any (s := ⟨h, g, dr, tk, os⟩) hl.typeIs slot_list_getitem.lookup (wpAny_getItem_list_neg (s := ⟨h, g, dr, tk, os⟩) hl h0 (by simpa using h1) (by (first | assumption | decide | exact Nat.le_trans (by assumption) (by decide) | exact Nat.sub_succ_lt_self _ _ (by assumption) | exact Nat.succ_le_of_lt (by assumption) | exact Nat.le_of_lt (by assumption) | lia | omega)) (by simpa using hx) k) hs
theorem fig_one (x : Int) : 0 ≤ (x.fmod 31) ∧ (x.fmod 31) < 31 := ⟨Int.fmod_nonneg_of_pos _ (by decide), Int.fmod_lt_of_pos _ (by decide)⟩
theorem law_passes {R' : Result → Shared → Prop} {sc : Addr} {vs : List Value} {ns : List Int} {k : Nat} {tk' : Tok} (G : Gr (KH w.params) p loose mg mb B) (hA : Ar A 4) (hl : B.IsList sc vs.toArray) (hI : IntsAre vs ns) (hv : vs.length ≤ 1000) (hk : k ≤ 1000)
    (O : Own B h R)
    (kk : ∀ a ms h' t', ms.length ≤ 4 → Own B h' ((a, BoolsP ms) :: R) → R' (.ok (.ret (.ref a))) ⟨h', g, dr, t', os⟩) :
    codeAny (model prog w) A (.call (.ref 114) ⟨[.ref sc, .int (k : Int) tk'], []⟩) R' ⟨h, g, dr, tk, os⟩ := by
  refine x_enterR (pre := []) G O rfl (by kernel_rfl) hA.room rfl (locs rfl) ?_
  intro L h₁ t1 O
  dsimp only [List.cons_append, List.nil_append] at O
  walk_at "lt"
  refine seq_cut (fun s' => ∃ h t m n u, s' = ⟨h, g, dr, t, os⟩ ∧ Own B h ((L, NsP m) :: R) ∧ m "number" = some (.int n u)) ?_ ?_
  · walk_at "ws"
    refine x_lenL (isList_keeps hl O.keep) (by (first | assumption | decide | exact Nat.le_trans (by assumption) (by decide) | exact Nat.sub_succ_lt_self _ _ (by assumption) | exact Nat.succ_le_of_lt (by assumption) | exact Nat.le_of_lt (by assumption) | lia | omega)) ?_
    intro t2 t3
    walk_at "ws"
    refine br (c := k < vs.length) (by simp) (fun hlt => ?_) (fun hlt => ?_)
    · walk_at "ws"
      refine x_negI ?_
      intro t4 t5
      walk_at "ws"
      obtain ⟨v, hvx⟩ : ∃ v, vs[((-1 - (k : Int)) + vs.length).toNat]? = some v := ⟨_, List.getElem?_eq_getElem (by (first | assumption | decide | exact Nat.le_trans (by assumption) (by decide) | exact Nat.sub_succ_lt_self _ _ (by assumption) | exact Nat.succ_le_of_lt (by assumption) | exact Nat.le_of_lt (by assumption) | lia | omega))⟩
      obtain ⟨n, t, rfl⟩ := ints_mem hI v (List.mem_of_getElem? hvx)
      refine x_itemN (isList_keeps hl O.keep) (by (first | assumption | decide | exact Nat.le_trans (by assumption) (by decide) | exact Nat.sub_succ_lt_self _ _ (by assumption) | exact Nat.succ_le_of_lt (by assumption) | exact Nat.le_of_lt (by assumption) | lia | omega)) (by (first | assumption | decide | exact Nat.le_trans (by assumption) (by decide) | exact Nat.sub_succ_lt_self _ _ (by assumption) | exact Nat.succ_le_of_lt (by assumption) | exact Nat.le_of_lt (by assumption) | lia | omega)) (by (first | assumption | decide | exact Nat.le_trans (by assumption) (by decide) | exact Nat.sub_succ_lt_self _ _ (by assumption) | exact Nat.succ_le_of_lt (by assumption) | exact Nat.le_of_lt (by assumption) | lia | omega)) hvx ?_
      walk_at "ws"
      rename Own _ _ _ => O
      exact ⟨_, _, _, _, _, rfl, O, rfl⟩
    · walk_at "ws"
      rename Own _ _ _ => O
      exact ⟨_, _, _, _, _, rfl, O, rfl⟩
  · clear O
    rintro s' ⟨h, t, m, n, u, rfl, O, e1⟩
    walk_at "ws"
    rename Own _ _ _ => O
    rename Addr => ma0
    obtain ⟨F0, hF0, hF1, hF2⟩ : ∃ F : Nat, (n.fdiv 16 + 12).fmod 31 + 1 = (F : Int) ∧ 1 ≤ F ∧ F < 2 ^ 5 := by
      obtain ⟨q1, q2⟩ := fig_one (n.fdiv 16 + 12)
      exact ⟨((n.fdiv 16 + 12).fmod 31 + 1).toNat, by (first | assumption | decide | exact Nat.le_trans (by assumption) (by decide) | exact Nat.sub_succ_lt_self _ _ (by assumption) | exact Nat.succ_le_of_lt (by assumption) | exact Nat.le_of_lt (by assumption) | lia | omega), by (first | assumption | decide | exact Nat.le_trans (by assumption) (by decide) | exact Nat.sub_succ_lt_self _ _ (by assumption) | exact Nat.succ_le_of_lt (by assumption) | exact Nat.le_of_lt (by assumption) | lia | omega), by simp; (first | assumption | decide | exact Nat.le_trans (by assumption) (by decide) | exact Nat.sub_succ_lt_self _ _ (by assumption) | exact Nat.succ_le_of_lt (by assumption) | exact Nat.le_of_lt (by assumption) | lia | omega)⟩
    refine codeAny_whileLoop (fun n' s' => ∃ F ms ma h t m, s' = ⟨h, g, dr, t, os⟩ ∧ Own B h ((ma, BoolsP ms) :: (L, NsP m) :: R) ∧ n' = F ∧ 1 ≤ F ∧ F < 2 ^ (5 - ms.length) ∧ ms.length ≤ 4 ∧ PM ma (F : Int) m) ?_ _
      ⟨F0, [], _, _, _, _, rfl, O, rfl, hF1, hF2, Nat.zero_le _, ⟨⟨_, by rw [← hF0]; rfl⟩, rfl⟩⟩
    clear O
    rintro n' s' ⟨F, ms, ma, h, t, m, rfl, O, rfl, hf1, hf2, hms, ⟨⟨tf, e2⟩, e3⟩⟩
    walk_at "lt"
    walk_at "ws"
    refine br (c := 1 < n') (by simp; (first | assumption | decide | exact Nat.le_trans (by assumption) (by decide) | exact Nat.sub_succ_lt_self _ _ (by assumption) | exact Nat.succ_le_of_lt (by assumption) | exact Nat.le_of_lt (by assumption) | lia | omega)) (fun hlt => ?_) (fun hlt => ?_)
    · walk_at "ws"
      rename Own _ _ _ => O
      refine x_addL O (O.list (.head _)) (O.list (by walk_at "mem")) (by simp; (first | assumption | decide | exact Nat.le_trans (by assumption) (by decide) | exact Nat.sub_succ_lt_self _ _ (by assumption) | exact Nat.succ_le_of_lt (by assumption) | exact Nat.le_of_lt (by assumption) | lia | omega)) ?_
      intro D h9 t9 O
      walk_at "ws"
      rename Own _ _ _ => O
      have O := (O.cut [_]).cut [_]
      have e : (n' : Int).fdiv 2 = ((n' / 2 : Nat) : Int) := by rw [Int.fdiv_eq_ediv_of_nonneg _ (by decide)]; (first | assumption | decide | exact Nat.le_trans (by assumption) (by decide) | exact Nat.sub_succ_lt_self _ _ (by assumption) | exact Nat.succ_le_of_lt (by assumption) | exact Nat.le_of_lt (by assumption) | lia | omega)
      rw [e] at O
      refine ⟨n' / 2, by (first | assumption | decide | exact Nat.le_trans (by assumption) (by decide) | exact Nat.sub_succ_lt_self _ _ (by assumption) | exact Nat.succ_le_of_lt (by assumption) | exact Nat.le_of_lt (by assumption) | lia | omega), n' / 2, ((n' : Int).fmod 2 == 1) :: ms, D, _, _, _, rfl, O, rfl, by (first | assumption | decide | exact Nat.le_trans (by assumption) (by decide) | exact Nat.sub_succ_lt_self _ _ (by assumption) | exact Nat.succ_le_of_lt (by assumption) | exact Nat.le_of_lt (by assumption) | lia | omega), ?_, ?_, ⟨⟨_, rfl⟩, rfl⟩⟩
      · rw [List.length_cons]
        have h3 : ms.length ≤ 3 := by
          rcases Nat.lt_or_ge ms.length 4 with q | q
          · (first | assumption | decide | exact Nat.le_trans (by assumption) (by decide) | exact Nat.sub_succ_lt_self _ _ (by assumption) | exact Nat.succ_le_of_lt (by assumption) | exact Nat.le_of_lt (by assumption) | lia | omega)
          · have : ms.length = 4 := by (first | assumption | decide | exact Nat.le_trans (by assumption) (by decide) | exact Nat.sub_succ_lt_self _ _ (by assumption) | exact Nat.succ_le_of_lt (by assumption) | exact Nat.le_of_lt (by assumption) | lia | omega)
            rw [this] at hf2; simp at hf2; (first | assumption | decide | exact Nat.le_trans (by assumption) (by decide) | exact Nat.sub_succ_lt_self _ _ (by assumption) | exact Nat.succ_le_of_lt (by assumption) | exact Nat.le_of_lt (by assumption) | lia | omega)
        have e : 5 - ms.length = (5 - (ms.length + 1)) + 1 := by (first | assumption | decide | exact Nat.le_trans (by assumption) (by decide) | exact Nat.sub_succ_lt_self _ _ (by assumption) | exact Nat.succ_le_of_lt (by assumption) | exact Nat.le_of_lt (by assumption) | lia | omega)
        rw [e, Nat.pow_succ] at hf2
        (first | assumption | decide | exact Nat.le_trans (by assumption) (by decide) | exact Nat.sub_succ_lt_self _ _ (by assumption) | exact Nat.succ_le_of_lt (by assumption) | exact Nat.le_of_lt (by assumption) | lia | omega)
      · rw [List.length_cons]
        rcases Nat.lt_or_ge ms.length 4 with q | q
        · (first | assumption | decide | exact Nat.le_trans (by assumption) (by decide) | exact Nat.sub_succ_lt_self _ _ (by assumption) | exact Nat.succ_le_of_lt (by assumption) | exact Nat.le_of_lt (by assumption) | lia | omega)
        · have : ms.length = 4 := by (first | assumption | decide | exact Nat.le_trans (by assumption) (by decide) | exact Nat.sub_succ_lt_self _ _ (by assumption) | exact Nat.succ_le_of_lt (by assumption) | exact Nat.le_of_lt (by assumption) | lia | omega)
          rw [this] at hf2; simp at hf2; (first | assumption | decide | exact Nat.le_trans (by assumption) (by decide) | exact Nat.sub_succ_lt_self _ _ (by assumption) | exact Nat.succ_le_of_lt (by assumption) | exact Nat.le_of_lt (by assumption) | lia | omega)
    · walk_at "ws"
      exact kk ma ms _ _ hms (O.cut [_])
end

end Mine
end

/- part TwoPB -/
section
open PySem PySem.Spec PySem.W PyProof.Rows PySem.Calls
set_option Elab.async false
set_option maxRecDepth 100000
set_option maxHeartbeats 4000000
namespace Mine

theorem t_get2 (P : Params) : typeIn (KH P) (.ref 42) = some (.type "function") := by kernel_rfl
theorem c_get2 (P : Params) : findIn (KH P) (.ref 52) "get_token" = some (some (.ref 42)) := by kernel_rfl
theorem f_get2 (P : Params) : ∃ o fd, (KH P).lookup 42 = some o ∧ o.data = .func fd := fn_of (by kernel_rfl)
theorem t_push2 (P : Params) : typeIn (KH P) (.ref 49) = some (.type "function") := by kernel_rfl
theorem c_push2 (P : Params) : findIn (KH P) (.ref 52) "push_token" = some (some (.ref 49)) := by kernel_rfl
theorem f_push2 (P : Params) : ∃ o fd, (KH P).lookup 49 = some o ∧ o.data = .func fd := fn_of (by kernel_rfl)
theorem f_low2 (P : Params) : ∃ o fd, (KH P).lookup 76 = some o ∧ o.data = .func fd := fn_of (by kernel_rfl)
theorem f_high2 (P : Params) : ∃ o fd, (KH P).lookup 83 = some o ∧ o.data = .func fd := fn_of (by kernel_rfl)
section
variable {prog : Program} {w : World} {A : Around} {E : Value → Shared → Prop} {h : Heap} {g : Array GenState} {dr : Drawn} {tk : Nat} {os : OsState} {B : Heap} {p : Program} {loose : List Str} {mg mb : Str → Option Value} {x d pb fs : Addr} {ln : Int} {R l : List Ent}
/-- what stands in the frame during a pass -/
structure QM (x : Addr) (ct : Nat) (gr : Bool) (m : Str → Option Value) : Prop where
  lexer : m "lexer" = some (.ref x)
  greater : m "greater" = some (.bool gr)
theorem law_pass {R' : Result → Shared → Prop} {ws : List W} {pbs : List Value} {tc : Tok} {gr : Bool} (G : Gr (KH w.params) p loose mg mb B) (hA : Ar A 8) (hx : B.get? x = some ⟨.ref 52, some d, .plain, #[]⟩) (hn : ws.length ≤ 1000)
    (hp : StrsAre pbs ((ws ++ [[]]).map word))
    (O : Own B h ((d, LexP ln fs pb) :: (pb, ListP pbs) :: R))
    (k : ∀ pbs' h' t', StrsAre pbs' ((bub gr ws ++ [[]]).map word) → Own B h' ((d, LexP ln fs pb) :: (pb, ListP pbs') :: R) → R' (.ok (.ret .none)) ⟨h', g, dr, t', os⟩) :
    codeAny (model prog w) A (.call (.ref 121) ⟨[.ref x, .int (ws.length : Int) tc, .bool gr], []⟩) R' ⟨h, g, dr, tk, os⟩ := by
  refine x_enterK (pre := [_, _]) G O rfl (by kernel_rfl) hA.room rfl (locs rfl) ?_
  intro L h₁ t1 O
  dsimp only [List.cons_append, List.nil_append] at O
  walk_at "lt"
  refine seq_cut (fun s' => ∃ pbs h t m, s' = ⟨h, g, dr, t, os⟩ ∧ Own B h ((d, LexP ln fs pb) :: (pb, ListP pbs) :: (L, NsP m) :: R) ∧ m "lexer" = some (.ref x) ∧ StrsAre pbs (([] :: bub gr ws).map word)) ?_ ?_
  · walk_at "ws"
    refine br (c := 0 < ws.length) (by simp) (fun hlt => ?_) (fun hlt => ?_)
    · obtain ⟨hw, r, rfl⟩ : ∃ hw r, ws = hw :: r := by
        cases ws with
        | nil => exact absurd hlt (by simp)
        | cons a b => exact ⟨a, b, rfl⟩
      cases hp with
      | cons sv tv hp =>
      rename_i pbs
      walk_at "ws"
      rename Own _ _ _ => O
      obtain ⟨md, hm, O⟩ := O.open1
      refine r_method O G hx (by walk_at "mem") hm.n2 (c_plain _ _) (c_get2 _) (t_get2 _) ?_
      obtain ⟨o, fd, f1, f2⟩ := f_get2 w.params
      refine r_callWith0 f2 O (G.X _ _ f1) ?_
      have hpl := hp.length
      rw [List.length_map] at hpl
      simp at hpl hn
      refine r_call (get_token_pop G ((hA.deeper _).le (by (first | assumption | decide | exact Nat.le_trans (by assumption) (by decide) | exact Nat.sub_succ_lt_self _ _ (by assumption) | exact Nat.succ_le_of_lt (by assumption) | exact Nat.le_of_lt (by assumption) | lia | omega))) hx (by (first | assumption | decide | exact Nat.le_trans (by assumption) (by decide) | exact Nat.sub_succ_lt_self _ _ (by assumption) | exact Nat.succ_le_of_lt (by assumption) | exact Nat.le_of_lt (by assumption) | lia | omega)) (O.weak fun o ho => ⟨_, hm, ho⟩) fun h2 t2 O => ?_)
      walk_at "ws"
      rename Own _ _ _ => O
      have e : (((hw :: r).length : Nat) : Int) - 1 = (r.length : Int) := by simp
      refine x_range O ?_
      intro rg h3 t3 O
      rw [e] at O
      refine x_iterR O (.head _) (by (first | assumption | decide | exact Nat.le_trans (by assumption) (by decide) | exact Nat.sub_succ_lt_self _ _ (by assumption) | exact Nat.succ_le_of_lt (by assumption) | exact Nat.le_of_lt (by assumption) | lia | omega)) ?_
      intro it h4 t4 O
      have O := O.cut [_]
      have O := O.behind [_, _]
      refine codeAny_forLoop_any (fun n' s' => ∃ i hd out pbs h t m th, s' = ⟨h, g, dr, t, os⟩ ∧ Own B h ((d, LexP ln fs pb) :: (pb, ListP pbs) :: (it, RiP i r.length) :: (L, NsP m) :: R) ∧ n' = r.length - i ∧ i ≤ r.length ∧ out.length = i ∧
        m "lexer" = some (.ref x) ∧ m "greater" = some (.bool gr) ∧ m "hand" = some (.str (word hd) th) ∧ StrsAre pbs ((r.drop i ++ [] :: out).map word) ∧ bubGo gr hw r = out ++ bubGo gr hd (r.drop i)) ?_ _
        ⟨0, hw, [], _, _, _, _, _, rfl, O, rfl, Nat.zero_le _, rfl, rfl, rfl, rfl, by rw [List.drop_zero]; exact hp, by rw [List.drop_zero]; rfl⟩
      clear O hm hp hpl
      rintro n' s' ⟨i, hd, out, pbs, h, t, m, th, rfl, O, rfl, hi, ho, e1, e2, e3, hp, hbub⟩
      walk_at "lt"
      have hpl := hp.length
      simp only [List.length_map, List.length_append, List.length_cons, List.length_drop] at hpl
      refine x_nextR (hA.deeper _).handled O (by walk_at "mem") (by walk_at "put") hi (fun hlt2 h5 t5 t6 O => ?_) (fun hie h5 t5 hk => ?_)
      · walk_at "lt"
        walk_at "ws"
        rename Own _ _ _ => O
        obtain ⟨y, hy⟩ : ∃ y, r[i]? = some y := ⟨_, List.getElem?_eq_getElem hlt2⟩
        have ed := drop_at hy
        rw [ed] at hp
        cases hp with
        | cons sv tv hp =>
        rename_i pbs
        simp only [List.length_cons] at hpl
        obtain ⟨md, hm, O⟩ := O.open1
        refine r_method O G hx (by walk_at "mem") hm.n2 (c_plain _ _) (c_get2 _) (t_get2 _) ?_
        obtain ⟨o, fd, f1, f2⟩ := f_get2 w.params
        refine r_callWith0 f2 O (G.X _ _ f1) ?_
        refine r_call (get_token_pop G ((hA.deeper _).le (by (first | assumption | decide | exact Nat.le_trans (by assumption) (by decide) | exact Nat.sub_succ_lt_self _ _ (by assumption) | exact Nat.succ_le_of_lt (by assumption) | exact Nat.le_of_lt (by assumption) | lia | omega))) hx (by (first | assumption | decide | exact Nat.le_trans (by assumption) (by decide) | exact Nat.sub_succ_lt_self _ _ (by assumption) | exact Nat.succ_le_of_lt (by assumption) | exact Nat.le_of_lt (by assumption) | lia | omega)) (O.weak fun o ho => ⟨_, hm, ho⟩) fun h6 t7 O => ?_)
        clear hm
        walk_at "ws"
        rename Own _ _ _ => O
        refine br (c := gr = true) Iff.rfl (fun hgr => ?_) (fun hgr => ?_)
        · walk_at "ws"
          have O := O.behind [_, _]
          obtain ⟨md, hm, O⟩ := O.open1
          refine r_method O G hx (by walk_at "mem") hm.n3 (c_plain _ _) (c_push2 _) (t_push2 _) ?_
          obtain ⟨o, fd, f1, f2⟩ := f_push2 w.params
          refine r_callWith f2 (G.X _ _ f1) ?_
          walk_at "ws"
          refine r_global (v := .ref 76) O G (by kernel_rfl) ?_
          obtain ⟨o, fd, f1, f2⟩ := f_low2 w.params
          refine r_callWith f2 (G.X _ _ f1) ?_
          walk_at "ws"
          refine ⟨O.keep, r_call (median_low_two G ((hA.deeper _).le (by (first | assumption | decide | exact Nat.le_trans (by assumption) (by decide) | exact Nat.sub_succ_lt_self _ _ (by assumption) | exact Nat.succ_le_of_lt (by assumption) | exact Nat.le_of_lt (by assumption) | lia | omega))) O (by walk_at "mem") fun u h7 t7 O => ?_)⟩
          walk_at "ws"
          refine ⟨O.keep, r_call (push_token G ((hA.deeper _).le (by (first | assumption | decide | exact Nat.le_trans (by assumption) (by decide) | exact Nat.sub_succ_lt_self _ _ (by assumption) | exact Nat.succ_le_of_lt (by assumption) | exact Nat.le_of_lt (by assumption) | lia | omega))) hx (by (first | assumption | decide | exact Nat.le_trans (by assumption) (by decide) | exact Nat.sub_succ_lt_self _ _ (by assumption) | exact Nat.succ_le_of_lt (by assumption) | exact Nat.le_of_lt (by assumption) | lia | omega)) (O.weak fun o ho => ⟨_, hm, ho⟩) fun h8 t8 O => ?_)⟩
          walk_at "ws"
          refine r_global (v := .ref 83) O G (by kernel_rfl) ?_
          obtain ⟨o, fd, f1, f2⟩ := f_high2 w.params
          refine r_callWith f2 (G.X _ _ f1) ?_
          walk_at "ws"
          refine ⟨O.keep, r_call (median_high_two G ((hA.deeper _).le (by (first | assumption | decide | exact Nat.le_trans (by assumption) (by decide) | exact Nat.sub_succ_lt_self _ _ (by assumption) | exact Nat.succ_le_of_lt (by assumption) | exact Nat.le_of_lt (by assumption) | lia | omega))) O (by walk_at "mem") fun u2 h9 t9 O => ?_)⟩
          walk_at "ws"
          rename Own _ _ _ => O
          refine ⟨r.length - (i + 1), by (first | assumption | decide | exact Nat.le_trans (by assumption) (by decide) | exact Nat.sub_succ_lt_self _ _ (by assumption) | exact Nat.succ_le_of_lt (by assumption) | exact Nat.le_of_lt (by assumption) | lia | omega), i + 1, _, out ++ [lo2 hd y], _, _, _, _, _, rfl, O.cut [_, _], rfl, by (first | assumption | decide | exact Nat.le_trans (by assumption) (by decide) | exact Nat.sub_succ_lt_self _ _ (by assumption) | exact Nat.succ_le_of_lt (by assumption) | exact Nat.le_of_lt (by assumption) | lia | omega), by simp [ho], e1, e2, rfl, ?_, ?_⟩
          · have := ((each_strs hp).snoc (v := .str (word (lo2 hd y)) u) (x := word (lo2 hd y)) ⟨u, rfl⟩).strs
            simpa using this
          · rw [hbub, ed, bubGo, if_pos hgr, if_pos hgr]; simp
        · walk_at "ws"
          have O := O.behind [_, _]
          obtain ⟨md, hm, O⟩ := O.open1
          refine r_method O G hx (by walk_at "mem") hm.n3 (c_plain _ _) (c_push2 _) (t_push2 _) ?_
          obtain ⟨o, fd, f1, f2⟩ := f_push2 w.params
          refine r_callWith f2 (G.X _ _ f1) ?_
          walk_at "ws"
          refine r_global (v := .ref 83) O G (by kernel_rfl) ?_
          obtain ⟨o, fd, f1, f2⟩ := f_high2 w.params
          refine r_callWith f2 (G.X _ _ f1) ?_
          walk_at "ws"
          refine ⟨O.keep, r_call (median_high_two G ((hA.deeper _).le (by (first | assumption | decide | exact Nat.le_trans (by assumption) (by decide) | exact Nat.sub_succ_lt_self _ _ (by assumption) | exact Nat.succ_le_of_lt (by assumption) | exact Nat.le_of_lt (by assumption) | lia | omega))) O (by walk_at "mem") fun u h7 t7 O => ?_)⟩
          walk_at "ws"
          refine ⟨O.keep, r_call (push_token G ((hA.deeper _).le (by (first | assumption | decide | exact Nat.le_trans (by assumption) (by decide) | exact Nat.sub_succ_lt_self _ _ (by assumption) | exact Nat.succ_le_of_lt (by assumption) | exact Nat.le_of_lt (by assumption) | lia | omega))) hx (by (first | assumption | decide | exact Nat.le_trans (by assumption) (by decide) | exact Nat.sub_succ_lt_self _ _ (by assumption) | exact Nat.succ_le_of_lt (by assumption) | exact Nat.le_of_lt (by assumption) | lia | omega)) (O.weak fun o ho => ⟨_, hm, ho⟩) fun h8 t8 O => ?_)⟩
          walk_at "ws"
          refine r_global (v := .ref 76) O G (by kernel_rfl) ?_
          obtain ⟨o, fd, f1, f2⟩ := f_low2 w.params
          refine r_callWith f2 (G.X _ _ f1) ?_
          walk_at "ws"
          refine ⟨O.keep, r_call (median_low_two G ((hA.deeper _).le (by (first | assumption | decide | exact Nat.le_trans (by assumption) (by decide) | exact Nat.sub_succ_lt_self _ _ (by assumption) | exact Nat.succ_le_of_lt (by assumption) | exact Nat.le_of_lt (by assumption) | lia | omega))) O (by walk_at "mem") fun u2 h9 t9 O => ?_)⟩
          walk_at "ws"
          rename Own _ _ _ => O
          refine ⟨r.length - (i + 1), by (first | assumption | decide | exact Nat.le_trans (by assumption) (by decide) | exact Nat.sub_succ_lt_self _ _ (by assumption) | exact Nat.succ_le_of_lt (by assumption) | exact Nat.le_of_lt (by assumption) | lia | omega), i + 1, _, out ++ [hi2 hd y], _, _, _, _, _, rfl, O.cut [_, _], rfl, by (first | assumption | decide | exact Nat.le_trans (by assumption) (by decide) | exact Nat.sub_succ_lt_self _ _ (by assumption) | exact Nat.succ_le_of_lt (by assumption) | exact Nat.le_of_lt (by assumption) | lia | omega), by simp [ho], e1, e2, rfl, ?_, ?_⟩
          · have := ((each_strs hp).snoc (v := .str (word (hi2 hd y)) u) (x := word (hi2 hd y)) ⟨u, rfl⟩).strs
            simpa using this
          · rw [hbub, ed, bubGo, if_neg hgr, if_neg hgr]; simp
      · have O := (O.ahead [_, _]).drop1 hk
        dsimp only [List.cons_append, List.nil_append] at O
        walk_at "ws"
        have hir : r.drop i = [] := List.drop_eq_nil_of_le (by (first | assumption | decide | exact Nat.le_trans (by assumption) (by decide) | exact Nat.sub_succ_lt_self _ _ (by assumption) | exact Nat.succ_le_of_lt (by assumption) | exact Nat.le_of_lt (by assumption) | lia | omega))
        rw [hir] at hp hbub
        obtain ⟨md, hm, O⟩ := O.open1
        refine r_method O G hx (by walk_at "mem") hm.n3 (c_plain _ _) (c_push2 _) (t_push2 _) ?_
        obtain ⟨o, fd, f1, f2⟩ := f_push2 w.params
        refine r_callWith f2 (G.X _ _ f1) ?_
        walk_at "ws"
        refine ⟨O.keep, r_call (push_token G ((hA.deeper _).le (by (first | assumption | decide | exact Nat.le_trans (by assumption) (by decide) | exact Nat.sub_succ_lt_self _ _ (by assumption) | exact Nat.succ_le_of_lt (by assumption) | exact Nat.le_of_lt (by assumption) | lia | omega))) hx (by (first | assumption | decide | exact Nat.le_trans (by assumption) (by decide) | exact Nat.sub_succ_lt_self _ _ (by assumption) | exact Nat.succ_le_of_lt (by assumption) | exact Nat.le_of_lt (by assumption) | lia | omega)) (O.weak fun o ho => ⟨_, hm, ho⟩) fun h8 t8 O => ?_)⟩
        walk_at "ws"
        refine ⟨_, _, _, _, rfl, O, e1, ?_⟩
        have := ((each_strs hp).snoc (v := .str (word hd) th) (x := word hd) ⟨th, rfl⟩).strs
        show StrsAre _ (([] :: bubGo gr hw r).map word)
        rw [hbub, bubGo]
        simpa using this
    · have hw : ws = [] := List.length_eq_zero_iff.mp (by (first | assumption | decide | exact Nat.le_trans (by assumption) (by decide) | exact Nat.sub_succ_lt_self _ _ (by assumption) | exact Nat.succ_le_of_lt (by assumption) | exact Nat.le_of_lt (by assumption) | lia | omega))
      subst hw
      walk_at "ws"
      exact ⟨_, _, _, _, rfl, O, rfl, hp⟩
  · clear O hp
    rintro s' ⟨pbs, h, t, m, rfl, O, e1, hp⟩
    walk_at "lt"
    cases hp with
    | cons sv tv hp =>
    rename_i pbs
    have hpl := hp.length
    simp only [List.length_map, bub_len] at hpl
    walk_at "ws"
    obtain ⟨md, hm, O⟩ := O.open1
    refine r_method O G hx (by walk_at "mem") hm.n3 (c_plain _ _) (c_push2 _) (t_push2 _) ?_
    obtain ⟨o, fd, f1, f2⟩ := f_push2 w.params
    refine r_callWith f2 (G.X _ _ f1) ?_
    walk_at "ws"
    refine r_method O G hx (by walk_at "mem") hm.n2 (c_plain _ _) (c_get2 _) (t_get2 _) ?_
    obtain ⟨o, fd, f1, f2⟩ := f_get2 w.params
    refine r_callWith0 f2 O (G.X _ _ f1) ?_
    refine r_call (get_token_pop G ((hA.deeper _).le (by (first | assumption | decide | exact Nat.le_trans (by assumption) (by decide) | exact Nat.sub_succ_lt_self _ _ (by assumption) | exact Nat.succ_le_of_lt (by assumption) | exact Nat.le_of_lt (by assumption) | lia | omega))) hx (by (first | assumption | decide | exact Nat.le_trans (by assumption) (by decide) | exact Nat.sub_succ_lt_self _ _ (by assumption) | exact Nat.succ_le_of_lt (by assumption) | exact Nat.le_of_lt (by assumption) | lia | omega)) (O.weak fun o ho => ⟨_, hm, ho⟩) fun h6 t7 O => ?_)
    walk_at "ws"
    refine ⟨O.keep, r_call (push_token G ((hA.deeper _).le (by (first | assumption | decide | exact Nat.le_trans (by assumption) (by decide) | exact Nat.sub_succ_lt_self _ _ (by assumption) | exact Nat.succ_le_of_lt (by assumption) | exact Nat.le_of_lt (by assumption) | lia | omega))) hx (by (first | assumption | decide | exact Nat.le_trans (by assumption) (by decide) | exact Nat.sub_succ_lt_self _ _ (by assumption) | exact Nat.succ_le_of_lt (by assumption) | exact Nat.le_of_lt (by assumption) | lia | omega)) O fun h8 t8 O => ?_)⟩
    walk_at "ws"
    refine k _ _ _ ?_ (O.cut [_, _])
    have := ((each_strs hp).snoc (v := .str (word []) tv) (x := word []) ⟨tv, rfl⟩).strs
    simpa using this
end

end Mine
end

/- part TwoD -/
section
open PySem PySem.Spec PySem.W PyProof.Rows PySem.Calls
set_option Elab.async false
set_option maxRecDepth 100000
set_option maxHeartbeats 4000000
namespace Mine

def DueV (v : Value) (x : Option W) : Prop := (x = none ∧ v = .none) ∨ ∃ c t, x = some c ∧ v = .str (word c) t
def DueL (vs : List Value) (n : Nat) (f : Nat → Option W) : Prop := vs.length = n ∧ ∀ (j : Nat) v, vs[j]? = some v → DueV v (f j)
theorem DueL.snoc {vs : List Value} {n : Nat} {f : Nat → Option W} {v : Value} (hd : DueL vs n f) (hv : DueV v (f n)) : DueL (vs ++ [v]) (n + 1) f := by
  refine ⟨by simp [hd.1], fun j x hx => ?_⟩
  by_cases hj : j < vs.length
  · rw [List.getElem?_append_left hj] at hx; exact hd.2 j x hx
  · rw [List.getElem?_append_right (by (first | assumption | decide | exact Nat.le_trans (by assumption) (by decide) | exact Nat.sub_succ_lt_self _ _ (by assumption) | exact Nat.succ_le_of_lt (by assumption) | exact Nat.le_of_lt (by assumption) | lia | omega))] at hx
    have : j - vs.length = 0 := by
      have := (List.getElem?_eq_some_iff.mp hx).1
      simp at this; (first | assumption | decide | exact Nat.le_trans (by assumption) (by decide) | exact Nat.sub_succ_lt_self _ _ (by assumption) | exact Nat.succ_le_of_lt (by assumption) | exact Nat.le_of_lt (by assumption) | lia | omega)
    rw [this] at hx
    cases hx
    have hjn : j = n := by have := hd.1; (first | assumption | decide | exact Nat.le_trans (by assumption) (by decide) | exact Nat.sub_succ_lt_self _ _ (by assumption) | exact Nat.succ_le_of_lt (by assumption) | exact Nat.le_of_lt (by assumption) | lia | omega)
    rw [hjn]; exact hv
theorem DueL.nones (n : Nat) (f : Nat → Option W) (h : ∀ j, f j = none) : DueL (List.replicate n .none) n f := by
  refine ⟨by simp, fun j v hv => ?_⟩
  rw [List.getElem?_replicate] at hv
  split at hv
  · cases hv; exact .inl ⟨h j, rfl⟩
  · cases hv
structure DM (wa ma du : Addr) (m : Str → Option Value) : Prop where
  words : m "words" = some (.ref wa)
  marks : m "marks" = some (.ref ma)
  due : m "due" = some (.ref du)
section
variable {prog : Program} {w : World} {A : Around} {E : Value → Shared → Prop} {h : Heap} {g : Array GenState} {dr : Drawn} {tk : Nat} {os : OsState} {B : Heap} {p : Program} {loose : List Str} {mg mb : Str → Option Value}
  {R l l' : List Ent} {u : Tok}
theorem x_isubI {a b : Int} {t u : Tok} {Q : Value → Shared → Prop} (k : ∀ t t', Q (.int (a - b) t) ⟨h, g, dr, t', os⟩) : wpAny (model prog w) A (inplaceOp .Sub (.int a t) (.int b u)) Q E ⟨h, g, dr, tk, os⟩ := P.isub_int (k _ _)
def isOn (v : Value) : Bool := match v with | .bool b => b | _ => false
theorem on_filter : ∀ ms : List Bool, ((ms.map Value.bool).filter isOn).length = ms.count true
  | [] => rfl
  | true :: r => by rw [List.map_cons, List.filter_cons_of_pos rfl, List.length_cons, on_filter r, List.count_cons_self]
  | false :: r => by rw [List.map_cons, List.filter_cons_of_neg (by simp [isOn]), on_filter r, List.count_cons_of_ne (by simp)]
theorem bools_of : ∀ {ys : List Value} {bs : List Bool}, Each (fun y b => y = .bool b) ys bs → ys = bs.map Value.bool
  | [], [], _ => rfl
  | [], _ :: _, h => absurd h.1 (by simp)
  | _ :: _, [], h => absurd h.1 (by simp)
  | y :: ys, b :: bs, h => by
    rw [List.map_cons, ← bools_of (ys := ys) (bs := bs) ⟨by simpa using h.1, fun i v x a b => h.2 (i + 1) v x (by simpa using a) (by simpa using b)⟩, h.2 0 y b rfl rfl]
theorem law_due2 {R' : Result → Shared → Prop} {wa ma : Addr} {vs0 : List Value} {ws : List W} {ms : List Bool} (G : Gr (KH w.params) p loose mg mb B) (hA : Ar A 12) (hl : B.IsList wa vs0.toArray) (hvs0 : StrsAre vs0 (ws.map word)) (hz : ws.length < 64)
    (hm : B.IsList ma (ms.map Value.bool).toArray) (hms : ms.length ≤ 1000)
    (O : Own B h R)
    (k : ∀ B' D vs ts h' t' dr', Sub B B' → Own B' h' ((D, ListP vs) :: R) → ts.Pairwise (fun a b => ¬ b < a) → (∀ y, y ∈ ts ↔ y ∈ ws) → DueL vs ws.length (dueAt ws ms ts) →
      R' (.ok (.ret (.ref D))) ⟨h', g, dr', t', os⟩) :
    codeAny (model prog w) A (.call (.ref 126) ⟨[.ref wa, .ref ma], []⟩) R' ⟨h, g, dr, tk, os⟩ := by
  refine x_enterC G O rfl (by kernel_rfl) hA.room rfl (kinds fun n => rfl) (cells_nodup (by decide)) ?_
  intro L h₁ t1 O
  have O : Own B h₁ ((L, NsP _) :: (L + 1, CellP none) :: R) := O
  have hvl0 : vs0.length = ws.length := by rw [hvs0.length, List.length_map]
  walk_at "ws"
  rename Own _ _ _ => O
  refine x_lenL (isList_keeps hl O.keep) (by (first | assumption | decide | exact Nat.le_trans (by assumption) (by decide) | exact Nat.sub_succ_lt_self _ _ (by assumption) | exact Nat.succ_le_of_lt (by assumption) | exact Nat.le_of_lt (by assumption) | lia | omega)) ?_
  intro t8 t9
  walk_at "ws"
  refine x_mulL1 O (.head _) (by (first | assumption | decide | exact Nat.le_trans (by assumption) (by decide) | exact Nat.sub_succ_lt_self _ _ (by assumption) | exact Nat.succ_le_of_lt (by assumption) | exact Nat.le_of_lt (by assumption) | lia | omega)) ?_
  intro du h8 t10 O
  walk_at "ws"
  rename Own _ _ _ => O
  have O := O.cut [_]
  refine x_setOf (hA.deeper _).handled O hl hvs0 (by simp; (first | assumption | decide | exact Nat.le_trans (by assumption) (by decide) | exact Nat.sub_succ_lt_self _ _ (by assumption) | exact Nat.succ_le_of_lt (by assumption) | exact Nat.le_of_lt (by assumption) | lia | omega)) ?_
  intro S h6 t6 O
  walk_at "ws"
  obtain ⟨B2, s2, O, oS, hS1, hS2⟩ := O.freeze1
  refine sorted_set (hA.deeper _).handled O hS1 hS2 (by simpa using hz) ?_
  intro B3 wo vs ss h7 t7 dr2 s3 hvs hmem hsort O
  obtain ⟨B4, s4, O, oW, hW1, nW, rfl⟩ := O.freeze1
  have hB := s2.trans (s3.trans s4)
  have G4 := G.mono hB
  have hW : B4.IsList wo vs.toArray := ⟨_, hW1, rfl, nW, rfl⟩
  have hl4 := isList_keeps hl hB
  have hm4 := isList_keeps hm hB
  refine x_iterL O (isList_keeps hW O.keep) ?_
  intro itW h9 t11 O _
  have hts : ss = (ss.map (·.cps.toList)).map word := by
    rw [List.map_map]
    conv => lhs; rw [← List.map_id ss]
    apply List.map_congr_left
    intro s _
    apply str_ext; simp
  generalize hT : ss.map (·.cps.toList) = ts at hts
  have hsort2 : ts.Pairwise (fun a b => ¬ b < a) := by rw [← hT]; exact sorted_pair hsort
  have hmem2 : ∀ y, y ∈ ts ↔ y ∈ ws := by
    intro y
    have h1 : y ∈ ts ↔ word y ∈ ss := by
      rw [hts]
      exact ⟨fun h => List.mem_map_of_mem h, fun h => by
        obtain ⟨z, hz, e⟩ := List.mem_map.mp h
        have : z = y := congrArg (fun q : Str => q.cps.toList) e
        rw [← this]; exact hz⟩
    rw [h1, hmem]
    exact ⟨fun h => by
        obtain ⟨z, hz, e⟩ := List.mem_map.mp h
        have : z = y := congrArg (fun q : Str => q.cps.toList) e
        rw [← this]; exact hz, fun h => List.mem_map_of_mem h⟩
  have hvs2 : StrsAre vs (ts.map word) := by rw [← hts]; exact hvs
  have hvl : vs.length = ts.length := by rw [hvs2.length, List.length_map]
  refine codeAny_forLoop_any (fun n' s' => ∃ i du vd cv h t m B5, s' = ⟨h, g, dr2, t, os⟩ ∧ Own B5 h ((itW, ItP wo i) :: (du, ListP vd) :: (L, NsP m) :: (L + 1, CellP cv) :: R) ∧ Sub B4 B5 ∧ n' = ts.length - i ∧ i ≤ ts.length ∧ DM wa ma du m ∧ DueL vd ws.length (dueAt ws ms (ts.take i))) ?_ _
    ⟨0, _, _, none, _, _, _, B4, rfl, O, Sub.refl _, rfl, Nat.zero_le _, ⟨rfl, rfl, rfl⟩, by rw [hvl0]; exact DueL.nones _ _ fun j => rfl⟩
  clear O
  rintro n' s' ⟨i, du, vd, cv, h, t, m, B5, rfl, O, s5, rfl, hi, ⟨e1, e2, e3⟩, hdue⟩
  walk_at "lt"
  have hne2 : wo ≠ itW := fun e => by
    have h0 : B5.get? itW = none := (O.own _ (.head _)).2
    have := s5 _ _ hW1
    rw [e, h0] at this; cases this
  have hl5 := isList_keeps hl4 s5
  have G5 := G4.mono s5
  have hm5 := isList_keeps hm4 s5
  refine x_nextL (hA.deeper _).handled O (by walk_at "mem") (by walk_at "put") (isList_keeps hW s5 |> fun q => isList_keeps q O.keep) hne2 (fun v h10 t12 hv O _ => ?_) (fun hie h10 t12 hk => ?_) (by (first | assumption | decide | exact Nat.le_trans (by assumption) (by decide) | exact Nat.sub_succ_lt_self _ _ (by assumption) | exact Nat.succ_le_of_lt (by assumption) | exact Nat.le_of_lt (by assumption) | lia | omega))
  · obtain ⟨c, hc, u, rfl⟩ := (each_strs hvs2).got hv
    rw [List.getElem?_map, Option.map_eq_some_iff] at hc
    obtain ⟨tw, htw, rfl⟩ := hc
    have hlt : i < ts.length := (List.getElem?_eq_some_iff.mp htw).1
    walk_at "lt"
    walk_at "w"
    walk_at "w"
    refine x_storeC O rfl (by walk_at "mem") (by walk_at "put") ?_
    intro h11 t13 O
    walk_at "ws"
    rename Own _ _ _ => O
    refine x_comp (cl := []) isOn (fun _ _ => True) (hA.deeper _).handled (closureFor_none (by decide)) rfl ?_
    walk_at "ws"
    rename Own _ _ _ => O
    refine ⟨ma, _, _, _, B5, _, rfl, rfl, O, isList_keeps hm5 O.keep, by simp; (first | assumption | decide | exact Nat.le_trans (by assumption) (by decide) | exact Nat.sub_succ_lt_self _ _ (by assumption) | exact Nat.succ_le_of_lt (by assumption) | exact Nat.le_of_lt (by assumption) | lia | omega), ?_, ?_, ?_⟩
    · intro C v H g' dr' t' os' m' E' hv hH hn hm
      have OH := own_all H
      obtain ⟨b, _, rfl⟩ := List.mem_map.mp hv
      refine wpAny_tests_one ?_
      walk_at "w"
      refine r_localB OH hn hm ?_
      walk_at "ws"
      exact ⟨rfl, _, _, rfl, Sub.refl _⟩
    · intro C v H g' dr' t' os' m' E' hv _ hH hn hm
      have OH := own_all H
      refine r_localB OH hn hm ?_
      exact ⟨trivial, _, _, rfl, Sub.refl _⟩
    intro D h14 t14 ys O hP _
    have hyl : ys.length = ms.count true := by
      have := (each_paired hP).1
      rw [this, on_filter]
    walk_at "ws"
    rename Own _ _ _ => O
    refine x_lenL (O.list (.head _)) (by have := List.count_le_length (a := true) (l := ms); (first | assumption | decide | exact Nat.le_trans (by assumption) (by decide) | exact Nat.sub_succ_lt_self _ _ (by assumption) | exact Nat.succ_le_of_lt (by assumption) | exact Nat.le_of_lt (by assumption) | lia | omega)) ?_
    intro t15 t16
    have O := O.tail
    walk_at "ws"
    rename Own _ _ _ => O
    refine x_lenL (isList_keeps hm5 O.keep) (by simp; (first | assumption | decide | exact Nat.le_trans (by assumption) (by decide) | exact Nat.sub_succ_lt_self _ _ (by assumption) | exact Nat.succ_le_of_lt (by assumption) | exact Nat.le_of_lt (by assumption) | lia | omega)) ?_
    intro t17 t18
    walk_at "ws"
    rename_i le _ _ _ _ _ O _ _
    refine x_comp (cl := [(Str.ofString "t", L + 1)]) (fun _ => true) (fun v y => ∀ c u, v = .str (word c) u → y = .bool (ge tw c)) (hA.deeper _).handled rfl rfl ?_
    walk_at "ws"
    rename Own _ _ _ => O
    have ic := O.cell (a := L + 1) (v := some (.str (word tw) u)) (by walk_at "mem")
    refine ⟨wa, vs0, _, _, B5, _, rfl, rfl, O, isList_keeps hl5 O.keep, by (first | assumption | decide | exact Nat.le_trans (by assumption) (by decide) | exact Nat.sub_succ_lt_self _ _ (by assumption) | exact Nat.succ_le_of_lt (by assumption) | exact Nat.le_of_lt (by assumption) | lia | omega), ?_, ?_, ?_⟩
    · intro C v H g' dr' t' os' m' E' hv hH hn hm
      exact wpAny_tests_nil ⟨rfl, _, _, rfl, Sub.refl _⟩
    · intro C v H g' dr' t' os' m' E' hv _ hH hn hm
      have OH := own_all H
      obtain ⟨iv, hiv⟩ := List.getElem?_of_mem hv
      obtain ⟨x, hx, ux, rfl⟩ := (each_strs hvs0).got hiv
      rw [List.getElem?_map, Option.map_eq_some_iff] at hx
      obtain ⟨cx, hcx, rfl⟩ := hx
      walk_at "w"
      refine r_localB OH hn hm ?_
      refine r_cellB OH rfl (ic.keeps hH) ?_
      refine P.ge_str ?_
      refine ⟨fun c u' e => ?_, _, _, rfl, Sub.refl _⟩
      have e2 : c = cx := congrArg (fun q : Str => q.cps.toList) (Value.str.inj e).1.symm
      subst e2
      unfold ge
      simp only [decide_not]
    intro D1 h20 t25 ys1 O hP1 _
    have hY : ys1 = (ws.map (ge tw)).map Value.bool := by
      rw [List.filter_eq_self.mpr (fun _ _ => rfl)] at hP1
      have h1 := each_paired hP1
      refine bools_of ⟨by rw [h1.1, hvl0, List.length_map], fun q y b hy hb => ?_⟩
      rw [List.getElem?_map, Option.map_eq_some_iff] at hb
      obtain ⟨c, hc, rfl⟩ := hb
      obtain ⟨v, hv, uv, rfl⟩ := (each_strs hvs0).get (i := q) (x := word c) (by rw [List.getElem?_map, hc]; rfl)
      exact h1.2 q y _ hy hv c uv rfl
    subst hY
    walk_at "ws"
    refine x_addL O (O.list (.head _)) (isList_keeps hm5 O.keep) (by simp; (first | assumption | decide | exact Nat.le_trans (by assumption) (by decide) | exact Nat.sub_succ_lt_self _ _ (by assumption) | exact Nat.succ_le_of_lt (by assumption) | exact Nat.le_of_lt (by assumption) | lia | omega)) ?_
    intro D2 h21 t26 O
    obtain ⟨B6, s6, O, oD2, hD2, nD2, rfl⟩ := O.freeze1
    have hD2 : B6.IsList D2 (((ws.map (ge tw) ++ ms).map Value.bool)).toArray := ⟨_, hD2, rfl, nD2, by rw [List.map_append]⟩
    refine x_iterL O (isList_keeps hD2 O.keep) ?_
    intro itM h22 t27 O _
    have hlenM : ((ws.map (ge tw) ++ ms).map Value.bool).length = ws.length + ms.length := by simp
    have hneM : D2 ≠ itM := fun e => by
      have h0 : B6.get? itM = none := (O.own _ (.head _)).2
      obtain ⟨o, ho, _⟩ := hD2
      rw [← e, ho] at h0; cases h0
    have hcnt : (ms.length : Int) - (ms.count true : Int) = (ms.count false : Int) := by
      have : ∀ l : List Bool, l.count true + l.count false = l.length := fun l => by
        induction l with
        | nil => rfl
        | cons b l ih => cases b <;> simp <;> (first | assumption | decide | exact Nat.le_trans (by assumption) (by decide) | exact Nat.sub_succ_lt_self _ _ (by assumption) | exact Nat.succ_le_of_lt (by assumption) | exact Nat.le_of_lt (by assumption) | lia | omega)
      have := this ms
      (first | assumption | decide | exact Nat.le_trans (by assumption) (by decide) | exact Nat.sub_succ_lt_self _ _ (by assumption) | exact Nat.succ_le_of_lt (by assumption) | exact Nat.le_of_lt (by assumption) | lia | omega)
    have O := O.cut [_]
    have e9 : (((ms.map Value.bool).length : Nat) : Int) - (ys.length : Int) = (ms.count false : Int) := by rw [List.length_map, hyl]; exact hcnt
    rw [e9, hyl] at O
    refine codeAny_forLoop_any (fun n' s' => ∃ (j gr ls : Nat) (lf : List Bool) (h : Heap) (t : Nat) (m : Str → Option Value) (tg tl : Tok), s' = ⟨h, g, dr2, t, os⟩ ∧ Own B6 h ((itM, ItP D2 j) :: (le, ListP (lf.map Value.bool)) :: (itW, ItP wo (i + 1)) :: (du, ListP vd) :: (L, NsP m) :: (L + 1, CellP (some (.str (word tw) u))) :: R) ∧ n' = ws.length + ms.length - j ∧ j ≤ ws.length + ms.length ∧
      DM wa ma du m ∧ m "left" = some (.ref le) ∧ m "greater" = some (.int (gr : Int) tg) ∧ m "lesser" = some (.int (ls : Int) tl) ∧ lf.length ≤ j ∧ markT ws ms tw = lf ++ leftT gr ls ((ws.map (ge tw) ++ ms).drop j)) ?_ _
      ⟨0, ms.count true, ms.count false, [], _, _, _, _, _, rfl, O, rfl, Nat.zero_le _, ⟨e1, e2, e3⟩, rfl, rfl, rfl, Nat.zero_le _, rfl⟩
    clear O e1 e2 e3
    rintro n' s' ⟨j, gr, ls, lf, h, t, m, tg, tl, rfl, O, rfl, hj, ⟨e1, e2, e3⟩, e4, e5, e6, hlf, hmark⟩
    walk_at "lt"
    refine x_nextL (hA.deeper _).handled O (by walk_at "mem") (by walk_at "put") (isList_keeps hD2 O.keep) hneM (fun v h23 t28 hv O _ => ?_) (fun hje h23 t28 hk => ?_) (by (first | assumption | decide | exact Nat.le_trans (by assumption) (by decide) | exact Nat.sub_succ_lt_self _ _ (by assumption) | exact Nat.succ_le_of_lt (by assumption) | exact Nat.le_of_lt (by assumption) | lia | omega))
    · rw [List.getElem?_map, Option.map_eq_some_iff] at hv
      obtain ⟨b, hb, rfl⟩ := hv
      have hjl : j < ws.length + ms.length := by
        have := (List.getElem?_eq_some_iff.mp hb).1
        simpa using this
      have ed := drop_at hb
      rw [ed] at hmark
      walk_at "lt"
      walk_at "wsT"
      refine x_test (b = true ∧ 0 < gr) ?_ (fun t29 hc => ?_) (fun t29 hc => ?_)
      · walk_at "ws"
        refine br (c := b = true) Iff.rfl (fun hb1 => ?_) (fun hb1 => ?_)
        · walk_at "ws"
          refine br (c := 0 < gr) (by simp) (fun hg => ?_) (fun hg => ?_)
          · walk_at "ws"
            exact ⟨_, rfl, by simp [hb1, hg]⟩
          · walk_at "ws"
            exact ⟨_, rfl, by simp [hg]⟩
        · walk_at "ws"
          exact ⟨_, rfl, by simp [hb1]⟩
      · obtain ⟨rfl, hg⟩ := hc
        refine ifT rfl ?_
        walk_at "ws"
        refine x_isubI ?_
        intro t30 t31
        walk_at "ws"
        rename Own _ _ _ => O
        have eg : (gr : Int) - 1 = ((gr - 1 : Nat) : Int) := by (first | assumption | decide | exact Nat.le_trans (by assumption) (by decide) | exact Nat.sub_succ_lt_self _ _ (by assumption) | exact Nat.succ_le_of_lt (by assumption) | exact Nat.le_of_lt (by assumption) | lia | omega)
        rw [eg] at O
        obtain ⟨g1, rfl⟩ : ∃ g1, gr = g1 + 1 := ⟨gr - 1, by (first | assumption | decide | exact Nat.le_trans (by assumption) (by decide) | exact Nat.sub_succ_lt_self _ _ (by assumption) | exact Nat.succ_le_of_lt (by assumption) | exact Nat.le_of_lt (by assumption) | lia | omega)⟩
        rw [leftT_tt] at hmark
        refine ⟨ws.length + ms.length - (j + 1), by (first | assumption | decide | exact Nat.le_trans (by assumption) (by decide) | exact Nat.sub_succ_lt_self _ _ (by assumption) | exact Nat.succ_le_of_lt (by assumption) | exact Nat.le_of_lt (by assumption) | lia | omega), j + 1, g1, ls, lf, _, _, _, _, _, rfl, O, rfl, by (first | assumption | decide | exact Nat.le_trans (by assumption) (by decide) | exact Nat.sub_succ_lt_self _ _ (by assumption) | exact Nat.succ_le_of_lt (by assumption) | exact Nat.le_of_lt (by assumption) | lia | omega), ⟨e1, e2, e3⟩, e4, rfl, e6, by (first | assumption | decide | exact Nat.le_trans (by assumption) (by decide) | exact Nat.sub_succ_lt_self _ _ (by assumption) | exact Nat.succ_le_of_lt (by assumption) | exact Nat.le_of_lt (by assumption) | lia | omega), hmark⟩
      · refine ifF rfl ?_
        walk_at "wsT"
        refine x_test (b = false ∧ 0 < ls) ?_ (fun t29 hc2 => ?_) (fun t29 hc2 => ?_)
        · walk_at "ws"
          refine br (c := b = false) (by simp) (fun hb1 => ?_) (fun hb1 => ?_)
          · walk_at "ws"
            refine br (c := 0 < ls) (by simp) (fun hg => ?_) (fun hg => ?_)
            · walk_at "ws"
              exact ⟨_, rfl, by simp [hb1, hg]⟩
            · walk_at "ws"
              exact ⟨_, rfl, by simp [hg]⟩
          · walk_at "ws"
            exact ⟨_, rfl, by simp [hb1]⟩
        · obtain ⟨rfl, hg⟩ := hc2
          refine ifT rfl ?_
          walk_at "ws"
          refine x_isubI ?_
          intro t30 t31
          walk_at "ws"
          rename Own _ _ _ => O
          have eg : (ls : Int) - 1 = ((ls - 1 : Nat) : Int) := by (first | assumption | decide | exact Nat.le_trans (by assumption) (by decide) | exact Nat.sub_succ_lt_self _ _ (by assumption) | exact Nat.succ_le_of_lt (by assumption) | exact Nat.le_of_lt (by assumption) | lia | omega)
          rw [eg] at O
          obtain ⟨g1, rfl⟩ : ∃ g1, ls = g1 + 1 := ⟨ls - 1, by (first | assumption | decide | exact Nat.le_trans (by assumption) (by decide) | exact Nat.sub_succ_lt_self _ _ (by assumption) | exact Nat.succ_le_of_lt (by assumption) | exact Nat.le_of_lt (by assumption) | lia | omega)⟩
          rw [leftT_ff] at hmark
          refine ⟨ws.length + ms.length - (j + 1), by (first | assumption | decide | exact Nat.le_trans (by assumption) (by decide) | exact Nat.sub_succ_lt_self _ _ (by assumption) | exact Nat.succ_le_of_lt (by assumption) | exact Nat.le_of_lt (by assumption) | lia | omega), j + 1, gr, g1, lf, _, _, _, _, _, rfl, O, rfl, by (first | assumption | decide | exact Nat.le_trans (by assumption) (by decide) | exact Nat.sub_succ_lt_self _ _ (by assumption) | exact Nat.succ_le_of_lt (by assumption) | exact Nat.le_of_lt (by assumption) | lia | omega), ⟨e1, e2, e3⟩, e4, e5, rfl, by (first | assumption | decide | exact Nat.le_trans (by assumption) (by decide) | exact Nat.sub_succ_lt_self _ _ (by assumption) | exact Nat.succ_le_of_lt (by assumption) | exact Nat.le_of_lt (by assumption) | lia | omega), hmark⟩
        · refine ifF rfl ?_
          walk_at "ws"
          rename Own _ _ _ => O
          refine r_listMeth O (by walk_at "mem") slot_list_append PySem.F.type_list_append ?_
          walk_at "ws"
          rename Own _ _ _ => O
          refine x_append O (by walk_at "mem") (by walk_at "put") (by rw [sizeLine_eq, List.length_map]; (first | assumption | decide | exact Nat.le_trans (by assumption) (by decide) | exact Nat.sub_succ_lt_self _ _ (by assumption) | exact Nat.succ_le_of_lt (by assumption) | exact Nat.le_of_lt (by assumption) | lia | omega)) ?_
          intro h24 t32 O
          walk_at "ws"
          rw [leftT, if_neg hc, if_neg hc2] at hmark
          rw [show List.map Value.bool lf ++ [Value.bool b] = (lf ++ [b]).map Value.bool from by simp] at O
          refine ⟨ws.length + ms.length - (j + 1), by (first | assumption | decide | exact Nat.le_trans (by assumption) (by decide) | exact Nat.sub_succ_lt_self _ _ (by assumption) | exact Nat.succ_le_of_lt (by assumption) | exact Nat.le_of_lt (by assumption) | lia | omega), j + 1, gr, ls, lf ++ [b], _, _, _, _, _, rfl, O, rfl, by (first | assumption | decide | exact Nat.le_trans (by assumption) (by decide) | exact Nat.sub_succ_lt_self _ _ (by assumption) | exact Nat.succ_le_of_lt (by assumption) | exact Nat.le_of_lt (by assumption) | lia | omega), ⟨e1, e2, e3⟩, e4, e5, e6, by simp; (first | assumption | decide | exact Nat.le_trans (by assumption) (by decide) | exact Nat.sub_succ_lt_self _ _ (by assumption) | exact Nat.succ_le_of_lt (by assumption) | exact Nat.le_of_lt (by assumption) | lia | omega), by rw [hmark]; simp⟩
    · have O := O.drop1 hk
      have hjn : (ws.map (ge tw) ++ ms).drop j = [] := by
        rw [List.length_map] at hje
        exact List.drop_eq_nil_of_le (Nat.le_of_eq hje.symm)
      rw [hjn, leftT, List.append_nil] at hmark
      walk_at "ws"
      obtain ⟨B7, s7, O, oLe, hLe, nLe, rfl⟩ := O.freeze1
      have O := O.ahead [_]
      obtain ⟨B8, s8, O, oDu, hDu, nDu, rfl⟩ := O.freeze1
      have hLe8 : B8.IsList le (lf.map Value.bool).toArray := ⟨_, s8 _ _ hLe, rfl, nLe, rfl⟩
      have hDu8 : B8.IsList du vd.toArray := ⟨_, hDu, rfl, nDu, rfl⟩
      have hlfn : lf.length = ws.length := by rw [← hmark]; exact mark_len ws ms tw
      have G8 := G5.mono (s6.trans (s7.trans s8))
      refine x_compA (cl := [(Str.ofString "t", L + 1)]) (by rfl) rfl ?_
      walk_at "ws"
      refine x_zip O hLe8 hDu8 ?_
      intro z TI TO i1 i2 h25 t33 O
      refine wpAny_pyIter_zip (s := ⟨h25, g, dr2, t33, os⟩) (O.eq (.head _)) ?_
      refine ⟨h25, t33, B8, _, rfl, O, fun C D h26 t34 _ O => ?_⟩
      refine ⟨fun E' Q' q => wpAny_pyIter_zip (s := ⟨h26, g, dr2, t34, os⟩) (O.eq (.tail _ (.tail _ (.head _)))) q, ?_⟩
      have O := ((O.behind [_, _, _, _, _, _]).behind [_, _, _, _, _, _]).ahead [_, _, _, _, _]
      have O := O.behind [_, _, _, _, _]
      refine loop_comp (fun n' s' => ∃ k ys h t m1, s' = ⟨h, g, dr2, t, os⟩ ∧ Own B8 h (ZZ z TI TO i1 i2 le du k .none ((C, NsP m1) :: (D, ListP ys) :: (itW, ItP wo (i + 1)) :: (L, NsP m) :: (L + 1, CellP (some (.str (word tw) u))) :: R)) ∧ n' = ws.length - k ∧ k ≤ ws.length ∧
        DueL ys k (dueAt ws ms (ts.take i ++ [tw]))) ?_ ws.length ⟨0, [], _, _, _, rfl, O, rfl, Nat.zero_le _, rfl, fun j v hv => by simp at hv⟩
      clear O
      rintro n' s' ⟨k1, ys, h, t, m1, rfl, O, rfl, hk1, hys⟩
      refine x_nextZ (hA.deeper _).handled O hLe8 hDu8 (fun xx yy TT h27 t35 hx hy O => ?_) (fun hend h27 t35 O => ?_)
      · rw [List.getElem?_map, Option.map_eq_some_iff] at hx
        obtain ⟨b, hb, rfl⟩ := hx
        have hlt : k1 < lf.length := (List.getElem?_eq_some_iff.mp hb).1
        have hdv := hdue.2 k1 yy hy
        have hsn := dueAt_snoc ws ms (ts.take i) tw k1
        rw [hmark, hb] at hsn
        refine x_goZ O ?_
        intro h28 t36 O
        have hTT : IsTup h28 TT [.bool b, yy].toArray := by
          obtain ⟨o, ho, n, rfl⟩ := O.get (.head _)
          exact ⟨_, ho, rfl, n, rfl⟩
        refine x_unpack (vs := [.bool b, yy]) (hA.deeper _).handled O hTT ?_
        intro h29 t37 O _
        have O := O.tail
        walk_at "ws"
        rename Own _ _ _ => O
        refine br (c := b = true) Iff.rfl (fun hb1 => ?_) (fun hb1 => ?_)
        · subst hb1
          refine r_cellB (own_all _) rfl (O.cell (by walk_at "mem")) ?_
          walk_at "ws"
          refine x_append O (by walk_at "mem") (by walk_at "put") (by rw [sizeLine_eq, hys.1]; (first | assumption | decide | exact Nat.le_trans (by assumption) (by decide) | exact Nat.sub_succ_lt_self _ _ (by assumption) | exact Nat.succ_le_of_lt (by assumption) | exact Nat.le_of_lt (by assumption) | lia | omega)) ?_
          intro h30 t38 O
          rw [if_pos rfl] at hsn
          exact ⟨ws.length - (k1 + 1), by (first | assumption | decide | exact Nat.le_trans (by assumption) (by decide) | exact Nat.sub_succ_lt_self _ _ (by assumption) | exact Nat.succ_le_of_lt (by assumption) | exact Nat.le_of_lt (by assumption) | lia | omega), k1 + 1, _, _, _, _, rfl, O, rfl, by (first | assumption | decide | exact Nat.le_trans (by assumption) (by decide) | exact Nat.sub_succ_lt_self _ _ (by assumption) | exact Nat.succ_le_of_lt (by assumption) | exact Nat.le_of_lt (by assumption) | lia | omega), hys.snoc (.inr ⟨tw, u, hsn, rfl⟩)⟩
        · walk_at "ws"
          refine x_append O (by walk_at "mem") (by walk_at "put") (by rw [sizeLine_eq, hys.1]; (first | assumption | decide | exact Nat.le_trans (by assumption) (by decide) | exact Nat.sub_succ_lt_self _ _ (by assumption) | exact Nat.succ_le_of_lt (by assumption) | exact Nat.le_of_lt (by assumption) | lia | omega)) ?_
          intro h30 t38 O
          rw [if_neg (by simpa using hb1)] at hsn
          exact ⟨ws.length - (k1 + 1), by (first | assumption | decide | exact Nat.le_trans (by assumption) (by decide) | exact Nat.sub_succ_lt_self _ _ (by assumption) | exact Nat.succ_le_of_lt (by assumption) | exact Nat.le_of_lt (by assumption) | lia | omega), k1 + 1, _, _, _, _, rfl, O, rfl, by (first | assumption | decide | exact Nat.le_trans (by assumption) (by decide) | exact Nat.sub_succ_lt_self _ _ (by assumption) | exact Nat.succ_le_of_lt (by assumption) | exact Nat.le_of_lt (by assumption) | lia | omega), hys.snoc (hsn ▸ hdv)⟩
      · have hk2 : k1 = ws.length := by
          rcases hend with q | q
          · rw [List.getElem?_eq_none_iff, List.length_map, hlfn] at q; (first | assumption | decide | exact Nat.le_trans (by assumption) (by decide) | exact Nat.sub_succ_lt_self _ _ (by assumption) | exact Nat.succ_le_of_lt (by assumption) | exact Nat.le_of_lt (by assumption) | lia | omega)
          · rw [List.getElem?_eq_none_iff, hdue.1] at q; (first | assumption | decide | exact Nat.le_trans (by assumption) (by decide) | exact Nat.sub_succ_lt_self _ _ (by assumption) | exact Nat.succ_le_of_lt (by assumption) | exact Nat.le_of_lt (by assumption) | lia | omega)
        rw [hk2] at hys
        refine ⟨rfl, _, _, _, _, B8, _, _, _, rfl, O, by walk_at "mem", by walk_at "put", fun h3 t3 O => ?_⟩
        walk_at "ws"
        have O := O.behind [_]
        rw [show ts.take i ++ [tw] = ts.take (i + 1) from by rw [List.take_add_one, htw]; rfl] at hys
        refine ⟨ts.length - (i + 1), by (first | assumption | decide | exact Nat.le_trans (by assumption) (by decide) | exact Nat.sub_succ_lt_self _ _ (by assumption) | exact Nat.succ_le_of_lt (by assumption) | exact Nat.le_of_lt (by assumption) | lia | omega), i + 1, _, _, _, _, _, _, B8, rfl, O, s5.trans (s6.trans (s7.trans s8)), rfl, by (first | assumption | decide | exact Nat.le_trans (by assumption) (by decide) | exact Nat.sub_succ_lt_self _ _ (by assumption) | exact Nat.succ_le_of_lt (by assumption) | exact Nat.le_of_lt (by assumption) | lia | omega), ⟨e1, e2, rfl⟩, hys⟩
  · have O := O.drop1 hk
    walk_at "ws"
    refine k _ _ _ _ _ _ _ (hB.trans s5) ?_ hsort2 hmem2 (by rw [List.take_of_length_le (by (first | assumption | decide | exact Nat.le_trans (by assumption) (by decide) | exact Nat.sub_succ_lt_self _ _ (by assumption) | exact Nat.succ_le_of_lt (by assumption) | exact Nat.le_of_lt (by assumption) | lia | omega))] at hdue; exact hdue)
    exact (O.cut [_] |>.cut [_])
end

end Mine
end

/- part TwoC -/
section
open PySem PySem.Spec PySem.W PyProof.Rows PySem.Calls
set_option Elab.async false
set_option maxRecDepth 100000
set_option maxHeartbeats 4000000
namespace Mine
theorem cnt_list (c : Nat) : ∀ l : List Nat, cnt c l = ((l.count c : Nat) : Int)
  | [] => by rw [cnt_nil]; rfl
  | a :: l => by
    rw [cnt_cons, cnt_list c l, List.count_cons]
    by_cases h : a = c
    · subst h; simp; (first | assumption | decide | exact Nat.le_trans (by assumption) (by decide) | exact Nat.sub_succ_lt_self _ _ (by assumption) | exact Nat.succ_le_of_lt (by assumption) | exact Nat.le_of_lt (by assumption) | lia | omega)
    · simp [h]
theorem txt_sliceN (x : Str) (b : Nat) : Txt.slice x none (some (b : Int)) = ⟨(x.cps.toList.take b).toArray⟩ := by
  have := txt_slice x 0 b
  have e : Txt.slice x none (some (b : Int)) = Txt.slice x (some ((0 : Nat) : Int)) (some (b : Int)) := by
    unfold Txt.slice
    rfl
  rw [e, this]; simp
theorem count_lines {x : Str} {cs : List Nat} (hx : x.cps.toList = cs) (q : Nat) : 1 + Txt.count (Txt.slice x none (some (q : Int))) (Str.ofString "\n") = lnAt cs q := by
  rw [txt_sliceN, hx]
  have e : (Str.ofString "\n") = ⟨#[10]⟩ := by rfl
  rw [e, count_cnt, cnt_list]; rfl
theorem word_ok {v : W} (h : ∀ c ∈ v, c < 128) : PyData.strOk (word v) = true := by
  unfold PyData.strOk
  rw [Array.all_eq_true']
  intro c hc
  have := h c (by simpa using hc)
  simp; (first | assumption | decide | exact Nat.le_trans (by assumption) (by decide) | exact Nat.sub_succ_lt_self _ _ (by assumption) | exact Nat.succ_le_of_lt (by assumption) | exact Nat.le_of_lt (by assumption) | lia | omega)
theorem Ar.units64 {A : Around} {n : Nat} (h : Ar A n) (hn : 7 ≤ n) : A.units + 64 < cLine := by have := h.units; show A.units + 64 < 9900; (first | assumption | decide | exact Nat.le_trans (by assumption) (by decide) | exact Nat.sub_succ_lt_self _ _ (by assumption) | exact Nat.succ_le_of_lt (by assumption) | exact Nat.le_of_lt (by assumption) | lia | omega)
abbrev Tell2 := List W × List W × Nat
def strD (c : W) : PyData := .str (word c)
def tell2 (cs : List Nat) (x : Tell2) : PyData := .tuple [.list (x.1.map strD), .list (x.2.1.map strD), .int 0, .int (x.2.2 : Int), .int (lnAt cs x.2.2)]
/-- a tuple told: the section's words, the words that the passes left, nothing waits, the place, the line -/
def Tell2V (cs : List Nat) (h : Heap) (v : Value) (x : Tell2) : Prop := ∃ a l1 l2 vs1 vs2 t1 t2 t3, v = .ref a ∧ IsTup h a #[.ref l1, .ref l2, .int 0 t1, .int (x.2.2 : Int) t2, .int (lnAt cs x.2.2) t3] ∧
  h.IsList l1 (List.toArray vs1) ∧ StrsAre vs1 (x.1.map word) ∧ h.IsList l2 (List.toArray vs2) ∧ StrsAre vs2 (x.2.1.map word)
theorem Tell2V.mono {cs : List Nat} {B B' : Heap} {v : Value} {x : Tell2} (h : Tell2V cs B v x) (k : Sub B B') : Tell2V cs B' v x := by obtain ⟨a, l1, l2, vs1, vs2, t1, t2, t3, e, i, r1, s1, r2, s2⟩ := h; exact ⟨a, l1, l2, vs1, vs2, t1, t2, t3, e, i.keeps k, isList_keeps r1 k, s1, isList_keeps r2 k, s2⟩
theorem strs_reads {h : Heap} : ∀ {vs : List Value} {ws : List W}, StrsAre vs (ws.map word) → ∃ as, ReadsAll h vs (ws.map strD) as
  | [], [], _ => ⟨_, .nil⟩
  | [], _ :: _, e => nomatch e
  | _ :: _, [], e => nomatch e
  | v :: vs, c :: ws, e => by
    rw [List.map_cons] at e
    cases e with
    | cons _ t e =>
      obtain ⟨as, r⟩ := strs_reads (h := h) e
      exact ⟨_, .cons (.str _ _) r⟩
theorem tell2_reads {cs : List Nat} {h : Heap} {v : Value} {x : Tell2} (t : Tell2V cs h v x) : ∃ as, Reads h v (tell2 cs x) as := by
  obtain ⟨a, l1, l2, vs1, vs2, t1, t2, t3, rfl, ⟨o, ho, hc, n, hd⟩, ⟨o1, ho1, hc1, n1, hd1⟩, s1, ⟨o2, ho2, hc2, n2, hd2⟩, s2⟩ := t
  obtain ⟨as1, r1⟩ := strs_reads (h := h) s1
  obtain ⟨as2, r2⟩ := strs_reads (h := h) s2
  exact ⟨_, reads_tuple_at ho hc hd (.cons (reads_list_at ho1 hc1 hd1 (by simpa using r1)) (.cons (reads_list_at ho2 hc2 hd2 (by simpa using r2)) (.cons (.int _ _) (.cons (.int _ _) (.cons (.int _ _) .nil)))))⟩
theorem tells2_reads {cs : List Nat} {h : Heap} : ∀ {vs : List Value} {xs : List Tell2}, Each (Tell2V cs h) vs xs → ∃ as, ReadsAll h vs (xs.map (tell2 cs)) as
  | [], [], _ => ⟨_, .nil⟩
  | [], _ :: _, e => absurd e.1 (by simp)
  | _ :: _, [], e => absurd e.1 (by simp)
  | v :: vs, x :: xs, e => by
    obtain ⟨a1, r1⟩ := tell2_reads (e.2 0 v x rfl rfl)
    obtain ⟨a2, r2⟩ := tells2_reads (vs := vs) (xs := xs) ⟨by simpa using e.1, fun i v x a b => e.2 (i + 1) v x (by simpa using a) (by simpa using b)⟩
    exact ⟨_, .cons r1 r2⟩
def okW (ws : List W) : Prop := ∀ c ∈ ws, PyData.strOk (word c) = true
theorem strs_lay : ∀ {ws : List W}, okW ws → PyData.canLayAll0 (ws.map strD) = true ∧ PyData.depthAll (ws.map strD) ≤ 1
  | [], _ => ⟨rfl, by simp [PyData.depthAll]⟩
  | c :: ws, h => by
    obtain ⟨h1, h2⟩ := strs_lay (ws := ws) fun y hy => h y (.tail _ hy)
    simp only [List.map_cons, PyData.canLayAll0, PyData.depthAll, h1, strD, PyData.canLay0, PyData.depth, h c (.head _), Bool.and_self, true_and]
    (first | assumption | decide | exact Nat.le_trans (by assumption) (by decide) | exact Nat.sub_succ_lt_self _ _ (by assumption) | exact Nat.succ_le_of_lt (by assumption) | exact Nat.le_of_lt (by assumption) | lia | omega)
theorem tell2_lay {cs : List Nat} {x : Tell2} (h1 : okW x.1) (h2 : okW x.2.1) : (tell2 cs x).canLay0 = true ∧ (tell2 cs x).depth ≤ 3 := by
  obtain ⟨a1, a2⟩ := strs_lay h1
  obtain ⟨b1, b2⟩ := strs_lay h2
  simp only [tell2, PyData.canLay0, PyData.canLayAll0, PyData.depth, PyData.depthAll, a1, b1, Bool.and_self, true_and]
  (first | assumption | decide | exact Nat.le_trans (by assumption) (by decide) | exact Nat.sub_succ_lt_self _ _ (by assumption) | exact Nat.succ_le_of_lt (by assumption) | exact Nat.le_of_lt (by assumption) | lia | omega)
theorem tells2_lay {cs : List Nat} : ∀ {xs : List Tell2}, (∀ x ∈ xs, okW x.1 ∧ okW x.2.1) → PyData.canLayAll0 (xs.map (tell2 cs)) = true ∧ PyData.depthAll (xs.map (tell2 cs)) ≤ 3
  | [], _ => ⟨rfl, by simp [PyData.depthAll]⟩
  | x :: xs, h => by
    obtain ⟨h1, h2⟩ := tell2_lay (cs := cs) (h x (.head _)).1 (h x (.head _)).2
    obtain ⟨h3, h4⟩ := tells2_lay (cs := cs) (xs := xs) fun y hy => h y (.tail _ hy)
    simp only [List.map_cons, PyData.canLayAll0, PyData.depthAll, h1, h3, Bool.and_self, true_and]
    exact Nat.max_le.mpr ⟨h2, h4⟩
section
variable {prog : Program} {w : World} {A : Around} {E : Value → Shared → Prop} {h : Heap} {g : Array GenState} {dr : Drawn} {tk : Nat} {os : OsState} {B : Heap} {l : List Ent}
theorem x_eqTells {a b : Addr} {cs : List Nat} {vs us : List Value} {xs : List Tell2} {Q : Value → Shared → Prop} (hl : h.IsList a vs.toArray) (hv : Each (Tell2V cs h) vs xs) (hl' : h.IsList b us.toArray) (hu' : Each (Tell2V cs h) us xs)
    (hok : ∀ x ∈ xs, okW x.1 ∧ okW x.2.1) (hu : A.units + 64 < cLine) (k : Q (.bool true) ⟨h, g, dr, tk, os⟩) : wpAny (model prog w) A (compareOp .Eq (.ref a) (.ref b)) Q E ⟨h, g, dr, tk, os⟩ := by
  obtain ⟨o, ho, hc, n, hd⟩ := hl
  obtain ⟨o', ho', hc', n', hd'⟩ := hl'
  obtain ⟨as, ra⟩ := tells2_reads hv
  obtain ⟨bs, rb⟩ := tells2_reads hu'
  obtain ⟨l1, l2⟩ := tells2_lay (cs := cs) hok
  have hs : SeqAt.shaped (.list (xs.map (tell2 cs))) = true := by
    refine Bool.and_eq_true_iff.mpr ⟨by rw [PyData.canLay0]; exact l1, decide_eq_true ?_⟩
    rw [PyData.depth]; (first | assumption | decide | exact Nat.le_trans (by assumption) (by decide) | exact Nat.sub_succ_lt_self _ _ (by assumption) | exact Nat.succ_le_of_lt (by assumption) | exact Nat.le_of_lt (by assumption) | lia | omega)
  refine eq_dataH (s := ⟨h, g, dr, tk, os⟩) (reads_list_at ho hc hd (by simpa using ra)) (reads_list_at ho' hc' hd' (by simpa using rb)) hs hs hu ?_
  rw [SeqAt.eqv_refl _ (by simpa [PyData.canLay0] using l1)]
  exact k
theorem x_count {x y : Str} {t u : Tok} {Q : Value → Shared → Prop} (k : ∀ t t', Q (.int (Txt.count x y) t) ⟨h, g, dr, t', os⟩) : wpAny (model prog w) A (call (.builtin "str.count") [.str x t, .str y u]) Q E ⟨h, g, dr, tk, os⟩ :=
  SC.count (s := ⟨h, g, dr, tk, os⟩) (k _ _)
end
theorem strs_each : ∀ (vs : List Value) (ps : List W), vs.length = ps.length → (∀ (j : Nat) v c, vs[j]? = some v → ps[j]? = some c → ∃ t, v = .str (word c) t) → StrsAre vs (ps.map word)
  | [], [], _, _ => .nil
  | [], _ :: _, h, _ => absurd h (by simp)
  | _ :: _, [], h, _ => absurd h (by simp)
  | v :: vs, c :: ps, h, k => by
    obtain ⟨t, rfl⟩ := k 0 v c rfl rfl
    exact .cons _ _ (strs_each vs ps (by simpa using h) fun j v c a b => k (j + 1) v c (by simpa using a) (by simpa using b))
/-- the law's table of a section is what the passes leave -/
theorem dueL_words {ws ts : List W} {ms : List Bool} {vs : List Value} (hd : DueL vs ws.length (dueAt ws ms ts)) (hs : ts.Pairwise fun a b => ¬ b < a) (ht : ∀ y, y ∈ ts ↔ y ∈ ws) : StrsAre vs ((passes ws ms).map word) := by
  refine strs_each _ _ (by rw [hd.1, passes_len]) fun j v c hv hc => ?_
  have e := due_passes hs ht hc
  rcases hd.2 j v hv with ⟨q, _⟩ | ⟨c', t, q, rfl⟩
  · rw [e] at q; cases q
  · rw [e] at q; cases q
    exact ⟨t, rfl⟩

end Mine
end

/- part TwoW -/
section
open PySem PySem.Spec PySem.W PyProof.Rows PySem.Calls
set_option Elab.async false
set_option maxRecDepth 100000
set_option maxHeartbeats 4000000
namespace Mine

local macro_rules | `(tactic| walk_at "wsS") => `(tactic| repeat ((fail_if_success (with_reducible show wpAny _ _ (execs (_ :: _) _) _ _ _)); walk_at "w"))
theorem Strm.mono {prog : Program} {w : World} {B B' : Heap} {fs fr pl : Addr} {cs : List Nat} (S : Strm prog w B fs fr pl cs) (k : Sub B B') : Strm prog w B' fs fr pl cs := by
  obtain ⟨⟨o, d, od, md, f1, f2, f3, f4, f5, f6, f7⟩, ⟨o', fd', g1, g2⟩, r⟩ := S
  exact ⟨⟨o, d, od, md, k _ _ f1, f2, f3, f4, k _ _ f5, f6, f7⟩, ⟨o', fd', k _ _ g1, g2⟩, fun A E h g dr tk os B'' pre post p t1 Q hA hs O hp h' => r A E h g dr tk os B'' pre post p t1 Q hA (k.trans hs) O hp h'⟩
theorem r_callWithK {M : Model} {A : Around} {E : Value → Shared → Prop} {s : Shared} {env : Env} {B : Heap} {K : Frag} {p : Program} {loose : List Str} {mg mb : Str → Option Value} {pos : Pos} {f : Value} {first : List Value} {e : Expr} {rest : List Expr} {Q : Value → Shared → Prop} (G : Gr K p loose mg mb B) (hk : keepIn K f = true)
    (h : wpAny M A (spliced (backTo pos (starEach (e :: rest) env))) (fun vs s₁ => Sub B s₁.heap ∧ wpAny M A (call f (first ++ vs)) Q E s₁) E s)
    (he : starEach (e :: rest) env = (false, eval e env) :: starEach rest env := by rfl) (hplain : (backTo pos (starEach rest env)).any (·.1) = false := by rfl) :
    wpAny M A (callWith pos f first (backTo pos (starEach (e :: rest) env)) []) Q E s :=
  callWith_K G.X hk (wpAny_mono h (fun _ _ z => ⟨fun a o q => z.1 _ _ (G.X a o q), z.2⟩) fun _ _ z => z) he hplain
theorem i_gettoken (P : Params) : isFn (KH P) (.ref 42) = true := by kernel_rfl
theorem s_gettoken (P : Params) : specialIn (KH P) (.ref 42) "__get__" = some (some (.builtin "function.__get__")) := by kernel_rfl
theorem k_gettoken (P : Params) : takesIn (KH P) (.ref 42) = some false := by kernel_rfl
theorem kp_lex (P : Params) : keepIn (KH P) (.ref 52) = true := by kernel_rfl
theorem f_stream (P : Params) : ∃ o fd, (KH P).lookup 95 = some o ∧ o.data = .func fd := fn_of (by kernel_rfl)
theorem f_text (P : Params) : ∃ o fd, (KH P).lookup 88 = some o ∧ o.data = .func fd := fn_of (by kernel_rfl)
theorem f_sections (P : Params) : ∃ o fd, (KH P).lookup 107 = some o ∧ o.data = .func fd := fn_of (by kernel_rfl)
theorem f_passes (P : Params) : ∃ o fd, (KH P).lookup 114 = some o ∧ o.data = .func fd := fn_of (by kernel_rfl)
theorem f_pass (P : Params) : ∃ o fd, (KH P).lookup 121 = some o ∧ o.data = .func fd := fn_of (by kernel_rfl)
theorem f_due (P : Params) : ∃ o fd, (KH P).lookup 126 = some o ∧ o.data = .func fd := fn_of (by kernel_rfl)
theorem Ar.caller : Ar callerA 30 := ⟨by decide, by decide, rfl⟩
structure WM (txt : Str) (tt : Tok) (sc x pl sa to du : Addr) (m : Str → Option Value) : Prop where
  script : m "script" = some (.ref sc)
  text : m "text" = some (.str txt tt)
  lexer : m "lexer" = some (.ref x)
  place : m "place" = some (.ref pl)
  sections : m "sections" = some (.ref sa)
  told : m "told" = some (.ref to)
  due : m "due" = some (.ref du)
structure WN (ra : Addr) (en : Nat) (ue : Tok) (ma ro : Addr) (m : Str → Option Value) : Prop where
  words : m "words" = some (.ref ra)
  end_ : m "end" = some (.int (en : Int) ue)
  marks : m "marks" = some (.ref ma)
  row : m "row" = some (.ref ro)
theorem strs_snoc {u : Tok} : ∀ {vs : List Value} {ws : List W}, StrsAre vs (ws.map word) → StrsAre (vs ++ [.str (Str.ofString "") u]) (ws.map word ++ [[]].map word)
  | [], [], _ => .cons _ _ .nil
  | [], _ :: _, e => nomatch e
  | _ :: _, [], e => nomatch e
  | v :: vs, c :: ws, e => by
    rw [List.map_cons] at e
    cases e with
    | cons _ t e => exact .cons _ _ (strs_snoc e)
theorem passes_snoc (ws : List W) (ms : List Bool) (b : Bool) : passes ws (ms ++ [b]) = bub b (passes ws ms) := by unfold passes; rw [List.foldl_append]; rfl
section
variable {prog : Program} {w : World} {A : Around} {E : Value → Shared → Prop} {h : Heap} {g : Array GenState} {dr : Drawn} {tk : Nat} {os : OsState}
theorem x_lenLn {a : Addr} {vs : List Value} {n : Nat} {Q : Value → Shared → Prop} (hl : h.IsList a vs.toArray) (hz : vs.length ≤ 1000000000) (e : vs.length = n) (k : ∀ t t', Q (.int (n : Int) t) ⟨h, g, dr, t', os⟩) :
    wpAny (model prog w) A (call (.builtin "len") [.ref a]) Q E ⟨h, g, dr, tk, os⟩ := by subst e; exact x_lenL hl hz k
end
theorem mem_le_sum : ∀ {l : List Nat} {x : Nat}, x ∈ l → x ≤ l.sum
  | a :: l, x, h => by
    rw [List.sum_cons]
    rcases List.mem_cons.mp h with rfl | h
    · (first | assumption | decide | exact Nat.le_trans (by assumption) (by decide) | exact Nat.sub_succ_lt_self _ _ (by assumption) | exact Nat.succ_le_of_lt (by assumption) | exact Nat.le_of_lt (by assumption) | lia | omega)
    · have := mem_le_sum h; (first | assumption | decide | exact Nat.le_trans (by assumption) (by decide) | exact Nat.sub_succ_lt_self _ _ (by assumption) | exact Nat.succ_le_of_lt (by assumption) | exact Nat.le_of_lt (by assumption) | lia | omega)
/-- the place behind k sections -/
theorem rest_drop (cs : List Nat) (k : Nat) : cs.drop (cs.length - (restAt k cs).length) = restAt k cs := (List.suffix_iff_eq_drop.mp (restAt_suf k cs)).symm
theorem MineLaw : PySem.Challenge.rw_re0021_02.Holds := kHead (by
  k_fill
  intro w s₀ s₁ mg mb G Y fa o pm cd doc dV kV ho hd hcd hD hmg hg args vals as hpre hlay hrd hwl hlo
  dsimp only [kD] at hd hcd hD hmg
  have KX := km_in_of Y
  km_tabs Y
  have X := (Ground.X G).1
  have V := (Ground.X G).2
  refine Ground.open G ?_
  intro T B D TE TW
  try (refine guard_noD D (by decide +kernel) ?_; clear D)
  km_lay T hmg ho hd cd
  clear hmg
  wrow_args hpre hlay hrd hwl hlo
  all_goals (
    first | refine callC_kw (enter_call ?_) | refine enter_call ?_
    w_top on
    kn_posts
    w_call any ho hd hcd hD T F
    clear hd
    kn_ghosts F T
    k_drop
    skip)
  rename Fr _ _ _ _ => F
  rename News _ _ _ _ => N
  rename Frag.In _ _ => X
  rename Top topProg _ _ _ _ _ => T
  rename Below _ _ _ _ => KB
  rename IntsAre _ _ => hI
  rename ¬ _ < _ => hlen
  rename Heap.IsList _ _ _ => hl
  rename CodeHd _ _ _ => C
  rename World => w
  rename Shared => sh1
  rename Addr => sc
  have hl : Heap.IsList _ sc _ := hl
  have G := Gr.mk X (topRead_of T) T.bmain
  have O := Own.mk (l := [(90, EqP (tabObj #[])), (_, NsP _)]) F.keep (fun p hp => by
    rcases List.mem_cons.mp hp with rfl | hp
    · exact ⟨⟨_, (N _ (.head _)).1, rfl⟩, (N _ (.head _)).2.2⟩
    · rw [List.mem_singleton.mp hp]
      exact ⟨nsP_of F.ns, Heap.get?_none_of_le F.above⟩) (by
    simp only [List.map_cons, List.map_nil, List.nodup_cons, List.mem_singleton, List.not_mem_nil, not_false_eq_true, List.nodup_nil, and_self, and_true]
    exact (N _ (.head _)).2.1)
  have hA : ∀ env, Ar (callerA.deeper env) 29 := fun env => Ar.caller.deeper env
  have O := O.weak (P' := TabP _ 70 qnRead) (fun o ho => by rw [show o = _ from ho]; exact TabP.empty (ghostOf sh1.heap [(94, 90)]) _ _)
  have hvl : ∀ {vs : List Value} {ns : List Int}, IntsAre vs ns → vs.length = ns.length := fun h => h.length
  walk_at "ws"
  refine r_global (v := .ref 88) O G (by kernel_rfl) ?_
  obtain ⟨o, fd, f1, f2⟩ := f_text w.params
  refine r_callWith f2 (G.X _ _ f1) ?_
  walk_at "ws"
  refine ⟨O.keep, r_call (law_text G ((hA _).le (by (first | assumption | decide | exact Nat.le_trans (by assumption) (by decide) | exact Nat.sub_succ_lt_self _ _ (by assumption) | exact Nat.succ_le_of_lt (by assumption) | exact Nat.le_of_lt (by assumption) | lia | omega))) hl hI (by have := hI.length; (first | assumption | decide | exact Nat.le_trans (by assumption) (by decide) | exact Nat.sub_succ_lt_self _ _ (by assumption) | exact Nat.succ_le_of_lt (by assumption) | exact Nat.le_of_lt (by assumption) | lia | omega)) O fun txt tt h2 t2 htl hascii O => ?_)⟩
  walk_at "ws"
  rename Own _ _ _ => O
  refine r_global (v := .ref 95) O G (by kernel_rfl) ?_
  obtain ⟨o, fd, f1, f2⟩ := f_stream w.params
  refine r_callWith f2 (G.X _ _ f1) ?_
  walk_at "ws"
  have hcs : txt.cps.toList.length ≤ 120 := htl
  refine ⟨O.keep, r_call (law_stream G C ((hA _).le (by (first | assumption | decide | exact Nat.le_trans (by assumption) (by decide) | exact Nat.sub_succ_lt_self _ _ (by assumption) | exact Nat.succ_le_of_lt (by assumption) | exact Nat.le_of_lt (by assumption) | lia | omega))) rfl (by (first | assumption | decide | exact Nat.le_trans (by assumption) (by decide) | exact Nat.sub_succ_lt_self _ _ (by assumption) | exact Nat.succ_le_of_lt (by assumption) | exact Nat.le_of_lt (by assumption) | lia | omega)) O fun B1 fs fr pl a h2 t2 hB1 St hT O => ?_)⟩
  have G1 := G.mono hB1
  walk_at "ws"
  refine x_unpack (hA _).handled O (hT.keeps O.keep) ?_
  intro h3 t3 O _
  walk_at "ws"
  rename Own _ _ _ => O
  refine r_global (v := .ref 52) O G1 (by kernel_rfl) ?_
  refine r_callWithK G1 (kp_lex _) ?_
  walk_at "ws"
  rename Own _ _ _ => O
  refine ⟨O.keep, r_call (new_lexer G1 ((hA _).le (by (first | assumption | decide | exact Nat.le_trans (by assumption) (by decide) | exact Nat.sub_succ_lt_self _ _ (by assumption) | exact Nat.succ_le_of_lt (by assumption) | exact Nat.le_of_lt (by assumption) | lia | omega))) O fun B2 x d pb h4 t4 hB2 hx2 O => ?_)⟩
  have St := St.mono hB2
  have G2 := G1.mono hB2
  walk_at "ws"
  rename Own _ _ _ => O
  refine r_global (v := .ref 107) O G2 (by kernel_rfl) ?_
  obtain ⟨o, fd, f1, f2⟩ := f_sections w.params
  refine r_callWith f2 (G2.X _ _ f1) ?_
  walk_at "ws"
  refine ⟨O.keep, r_call (law_sections G2 ((hA _).le (by (first | assumption | decide | exact Nat.le_trans (by assumption) (by decide) | exact Nat.sub_succ_lt_self _ _ (by assumption) | exact Nat.succ_le_of_lt (by assumption) | exact Nat.le_of_lt (by assumption) | lia | omega))) rfl (by (first | assumption | decide | exact Nat.le_trans (by assumption) (by decide) | exact Nat.sub_succ_lt_self _ _ (by assumption) | exact Nat.succ_le_of_lt (by assumption) | exact Nat.le_of_lt (by assumption) | lia | omega)) O fun B3 sa us h5 t5 s3 O hsec => ?_)⟩
  obtain ⟨B4, s4, O, oS, hS1, nS, rfl⟩ := O.freeze1
  generalize hsecs : secsT txt.cps.toList.length [] (rowsT txt.cps.toList.length (sgn txt.cps.toList 0)) = secs at hsec
  have G4 := G2.mono (s3.trans s4)
  have St := St.mono (s3.trans s4)
  have hx4 := (s3.trans s4) _ _ hx2
  have hS4 : B4.IsList sa us.toArray := ⟨_, hS1, rfl, nS, rfl⟩
  have hsec4 := hsec.mono fun v s z => z.mono s4
  walk_at "ws"
  rename Own _ _ _ => O
  rename_i to _ _ _ _ _ _ _ _ du _ _ _ _ _ _ _
  have hn0 : us.length = secs.length := hsec4.1
  have hsn : secs.length ≤ 1000 := by
    have h1 := rowsT_len txt.cps.toList.length (sgn txt.cps.toList 0)
    have h2 := sgn_len txt.cps.toList 0
    have h3 := secs_len (n := txt.cps.toList.length) (rowsT txt.cps.toList.length (sgn txt.cps.toList 0)) []
    rw [hsecs] at h3; (first | assumption | decide | exact Nat.le_trans (by assumption) (by decide) | exact Nat.sub_succ_lt_self _ _ (by assumption) | exact Nat.succ_le_of_lt (by assumption) | exact Nat.le_of_lt (by assumption) | lia | omega)
  have hz : (secs.map fun s => s.1.length).sum < 64 := by
    have h1 := rows_few (n := txt.cps.toList.length) _ txt.cps.toList 0 (Nat.le_refl _) (Nat.zero_add _)
    have h3 := secs_sum (n := txt.cps.toList.length) (rowsT txt.cps.toList.length (sgn txt.cps.toList 0)) []
    rw [hsecs, List.length_nil] at h3; (first | assumption | decide | exact Nat.le_trans (by assumption) (by decide) | exact Nat.sub_succ_lt_self _ _ (by assumption) | exact Nat.succ_le_of_lt (by assumption) | exact Nat.le_of_lt (by assumption) | lia | omega)
  have hok : ∀ s ∈ secs, okW s.1 := fun s hs v hv => by
    rw [← hsecs] at hs
    exact word_ok fun c hc => hascii c (secs_mem hs v hv c hc)
  refine x_lenL (isList_keeps hS4 O.keep) (by (first | assumption | decide | exact Nat.le_trans (by assumption) (by decide) | exact Nat.sub_succ_lt_self _ _ (by assumption) | exact Nat.succ_le_of_lt (by assumption) | exact Nat.le_of_lt (by assumption) | lia | omega)) ?_
  intro t31 t32
  walk_at "ws"
  refine x_range O ?_
  intro rg h6 t6 O
  refine x_iterR O (.head _) (by (first | assumption | decide | exact Nat.le_trans (by assumption) (by decide) | exact Nat.sub_succ_lt_self _ _ (by assumption) | exact Nat.succ_le_of_lt (by assumption) | exact Nat.le_of_lt (by assumption) | lia | omega)) ?_
  intro it h7 t7 O
  have O := (((O.cut [_]).ahead [_, _, _, _, _, _]).ahead [_, _, _, _, _]).ahead [_, _, _, _, _]
  dsimp only [List.cons_append, List.nil_append] at O
  generalize hcsq : txt.cps.toList = cs at *
  rw [hn0] at O
  refine codeAny_forLoop_any (fun n' s' => ∃ k tds dds xs h t m dr B', s' = ⟨h, sh1.gens, dr, t, sh1.os⟩ ∧ Sub B4 B' ∧ Own B' h (LX x d pb pl fs cs (cs.length - (restAt k cs).length) [] ((it, RiP k secs.length) :: (du, ListP dds) :: (to, ListP tds) :: (90, TabP B1 70 qnRead) :: (sh1.heap.objs.toList.length, NsP m) :: [])) ∧
    n' = secs.length - k ∧ k ≤ secs.length ∧ WM txt tt _ x pl sa to du m ∧ Each (Tell2V cs B') tds xs ∧ Each (Tell2V cs B') dds xs ∧ xs.length = k ∧ (∀ x ∈ xs, okW x.1 ∧ okW x.2.1)) ?_ _
    ⟨0, [], [], [], _, _, _, _, B4, rfl, Sub.refl _, by rw [restAt, Nat.sub_self]; exact O, rfl, Nat.zero_le _, ⟨rfl, rfl, rfl, rfl, rfl, rfl, rfl⟩, .nil, .nil, rfl, fun _ z => nomatch z⟩
  clear O
  rintro n' s' ⟨k, tds, dds, xs, h, t, m, dr, B5, rfl, s5, O, rfl, hk, ⟨e1, e2, e3, e4, e5, e6, e7⟩, htds, hdds, hxl, hoks⟩
  walk_at "lt"
  have hB5 := hB1.trans (hB2.trans (s3.trans (s4.trans s5)))
  have G5 := G4.mono s5
  have St5 := St.mono s5
  have hx5 := s5 _ _ hx4
  have hS5 := isList_keeps hS4 s5
  have hsec5 := hsec4.mono fun v s z => z.mono s5
  refine x_nextR (hA _).handled O (by walk_at "mem") (by walk_at "put") hk (fun hlt h8 t8 t9 O => ?_) (fun hie h8 t8 hkk => ?_)
  · obtain ⟨v, hv⟩ : ∃ v, us[k]? = some v := ⟨_, List.getElem?_eq_getElem (by (first | assumption | decide | exact Nat.le_trans (by assumption) (by decide) | exact Nat.sub_succ_lt_self _ _ (by assumption) | exact Nat.succ_le_of_lt (by assumption) | exact Nat.le_of_lt (by assumption) | lia | omega))⟩
    obtain ⟨⟨ws, en⟩, hx1, a, ra, rvs, ue, rfl, ht, hra, hrs⟩ := hsec5.got hv
    walk_at "lt"
    walk_at "ws"
    rename Own _ _ _ => O
    refine x_itemL (isList_keeps hS5 O.keep) (by (first | assumption | decide | exact Nat.le_trans (by assumption) (by decide) | exact Nat.sub_succ_lt_self _ _ (by assumption) | exact Nat.succ_le_of_lt (by assumption) | exact Nat.le_of_lt (by assumption) | lia | omega)) (by (first | assumption | decide | exact Nat.le_trans (by assumption) (by decide) | exact Nat.sub_succ_lt_self _ _ (by assumption) | exact Nat.succ_le_of_lt (by assumption) | exact Nat.le_of_lt (by assumption) | lia | omega)) (by simpa using hv) ?_
    walk_at "ws"
    rename Own _ _ _ => O
    refine x_unpack (x1 := 0) (vs := [.ref ra, .int (en : Int) ue]) (hA _).handled O (ht.keeps O.keep) ?_
    intro h9 t10 O _
    walk_at "ws"
    rename Own _ _ _ => O
    refine r_global (v := .ref 114) O G5 (by kernel_rfl) ?_
    obtain ⟨o, fd, f1, f2⟩ := f_passes w.params
    refine r_callWith f2 (G5.X _ _ f1) ?_
    walk_at "ws"
    refine ⟨O.keep, r_call (law_passes G5 ((hA _).le (by (first | assumption | decide | exact Nat.le_trans (by assumption) (by decide) | exact Nat.sub_succ_lt_self _ _ (by assumption) | exact Nat.succ_le_of_lt (by assumption) | exact Nat.le_of_lt (by assumption) | lia | omega))) (isList_keeps hl hB5) hI (by have := hI.length; (first | assumption | decide | exact Nat.le_trans (by assumption) (by decide) | exact Nat.sub_succ_lt_self _ _ (by assumption) | exact Nat.succ_le_of_lt (by assumption) | exact Nat.le_of_lt (by assumption) | lia | omega)) (by (first | assumption | decide | exact Nat.le_trans (by assumption) (by decide) | exact Nat.sub_succ_lt_self _ _ (by assumption) | exact Nat.succ_le_of_lt (by assumption) | exact Nat.le_of_lt (by assumption) | lia | omega)) O fun ma ms h10 t11 hms O => ?_)⟩
    obtain ⟨B6, s6, O, oM, hM1, nM, rfl⟩ := O.freeze1
    have G6 := G5.mono s6
    have St6 := St5.mono s6
    have hx6 := s6 _ _ hx5
    walk_at "ws"
    rename Own _ _ _ => O
    obtain ⟨md, hm, O⟩ := O.open1
    refine x_bound O G6 hx6 (by walk_at "mem") hm.n2 (c_plain _ _) (c_dict _) (c_gettoken _) (i_gettoken _) (s_gettoken _) (k_gettoken _) (by decide +kernel) ?_
    intro bm h11 t12 O
    walk_at "ws"
    refine x_iter2 O (by walk_at "mem") ?_
    intro itc h12 t13 O
    walk_at "ws"
    have O := (((O.ahead [_]).behind [_, _, _, _]).behind [_, _, _]).weak (P' := LexP (lnAt cs (cs.length - (restAt k cs).length)) fs pb) fun o ho => ⟨_, hm, ho⟩
    refine list_lex G6 St6 ((hA _).le (by (first | assumption | decide | exact Nat.le_trans (by assumption) (by decide) | exact Nat.sub_succ_lt_self _ _ (by assumption) | exact Nat.succ_le_of_lt (by assumption) | exact Nat.le_of_lt (by assumption) | lia | omega))) hx6 (by (first | assumption | decide | exact Nat.le_trans (by assumption) (by decide) | exact Nat.sub_succ_lt_self _ _ (by assumption) | exact Nat.succ_le_of_lt (by assumption) | exact Nat.le_of_lt (by assumption) | lia | omega)) (Nat.sub_le _ _) O ?_
    intro S vs q' h13 t14 hvs hq' O
    have O := O.ahead [_, _, _]
    obtain ⟨B7, s7, O, oR, hR1, nR, rfl⟩ := O.freeze1
    walk_at "wsS"
    rename Own _ _ _ => O
    have G7 := G6.mono s7
    have St7 := St6.mono s7
    have hx7 := s7 _ _ hx6
    have hR7 : B7.IsList S vs.toArray := ⟨_, hR1, rfl, nR, rfl⟩
    have hM7 : B7.IsList ma (ms.map Value.bool).toArray := ⟨_, s7 _ _ hM1, rfl, nM, rfl⟩
    obtain ⟨hw1, hw2⟩ := secs_at _ cs 0 [] (Nat.le_refl _) (Nat.zero_add _) k (ws, en) (by rw [hsecs]; exact hx1)
    rw [ite_self, List.nil_append] at hw1
    dsimp only at hw1 hw2
    rw [rest_drop, ← hw1] at hvs
    rw [rest_drop, ← hw2] at hq'
    subst hq'
    have hwn : ws.length < 64 := by
      exact Nat.lt_of_le_of_lt (mem_le_sum (List.mem_map_of_mem (f := fun s : Sec => s.1.length) (List.mem_of_getElem? hx1))) hz
    have hvn : vs.length = ws.length := by rw [hvs.length, List.length_map]
    have hne : ∀ v ∈ ws, v ≠ [] := fun v hv => secT_ne _ v (hw1 ▸ hv)
    refine seq_cut (fun s' => ∃ B8 h t m pbs, s' = ⟨h, sh1.gens, dr, t, sh1.os⟩ ∧ Sub B7 B8 ∧ Own B8 h (LX x d pb pl fs cs q' pbs ((it, RiP (k + 1) secs.length) :: (du, ListP dds) :: (to, ListP tds) :: (90, TabP B1 70 qnRead) :: (sh1.heap.objs.toList.length, NsP m) :: [])) ∧
      WM txt tt sc x pl sa to du m ∧ WN ra q' ue ma S m ∧ StrsAre pbs ((ws ++ [[]]).map word)) ?_ ?_
    · walk_at "ws"
      rename Own _ _ _ => O
      refine x_addL O (isList_keeps hR7 O.keep) (O.list (.head _)) (by simp; (first | assumption | decide | exact Nat.le_trans (by assumption) (by decide) | exact Nat.sub_succ_lt_self _ _ (by assumption) | exact Nat.succ_le_of_lt (by assumption) | exact Nat.le_of_lt (by assumption) | lia | omega)) ?_
      intro D h15 t16 O
      have O := O.cut [_]
      obtain ⟨B8, s8, O, oD, hD1, nD, rfl⟩ := O.freeze1
      have G8 := G7.mono s8
      have hx8 := s8 _ _ hx7
      generalize hvD : vs ++ _ = vD at hD1
      have hvsD : StrsAre vD ((ws ++ [[]]).map word) := by
        rw [← hvD, List.map_append]
        exact strs_snoc hvs
      have hvDn : vD.length = ws.length + 1 := by rw [hvsD.length]; simp
      have hD8 : B8.IsList D vD.toArray := ⟨_, hD1, rfl, nD, rfl⟩
      refine x_iterL O (isList_keeps hD8 O.keep) ?_
      intro itD h16 t17 O _
      have hneD : D ≠ itD := fun e => by
        have h0 : B8.get? itD = none := (O.own _ (.head _)).2
        rw [← e, hD1] at h0; cases h0
      have O := O.behind [_, _, _]
      refine codeAny_forLoop_any (fun n' s' => ∃ i h t m, s' = ⟨h, sh1.gens, dr, t, sh1.os⟩ ∧ Own B8 h (LX x d pb pl fs cs q' (vD.take i) ((itD, ItP D i) :: (it, RiP (k + 1) secs.length) :: (du, ListP dds) :: (to, ListP tds) :: (90, TabP B1 70 qnRead) :: (sh1.heap.objs.toList.length, NsP m) :: [])) ∧
        n' = ws.length + 1 - i ∧ i ≤ ws.length + 1 ∧ WM txt tt sc x pl sa to du m ∧ WN ra q' ue ma S m) ?_ _
        ⟨0, _, _, _, rfl, O, rfl, Nat.zero_le _, ⟨e1, e2, e3, e4, e5, e6, e7⟩, ⟨rfl, rfl, rfl, rfl⟩⟩
      clear O hm e1 e2 e3 e4 e5 e6 e7
      rintro n' s' ⟨i, h, t, m, rfl, O, rfl, hi, ⟨e1, e2, e3, e4, e5, e6, e7⟩, ⟨w1, w2, w3, w4⟩⟩
      walk_at "lt"
      refine x_nextL (hA _).handled O (by walk_at "mem") (by walk_at "put") (isList_keeps hD8 O.keep) hneD (fun v h17 t18 hv O _ => ?_) (fun hie h17 t18 hkk => ?_) (by (first | assumption | decide | exact Nat.le_trans (by assumption) (by decide) | exact Nat.sub_succ_lt_self _ _ (by assumption) | exact Nat.succ_le_of_lt (by assumption) | exact Nat.le_of_lt (by assumption) | lia | omega))
      · have hil : i < vD.length := (List.getElem?_eq_some_iff.mp hv).1
        obtain ⟨md, hm, O⟩ := O.open1
        walk_at "ws"
        rename Own _ _ _ => O
        refine r_method O G8 hx8 (by walk_at "mem") hm.n3 (c_plain _ _) (c_push2 _) (t_push2 _) ?_
        obtain ⟨o, fd, f1, f2⟩ := f_push2 w.params
        refine r_callWith f2 (G8.X _ _ f1) ?_
        walk_at "ws"
        refine ⟨O.keep, r_call (push_token G8 ((hA _).le (by (first | assumption | decide | exact Nat.le_trans (by assumption) (by decide) | exact Nat.sub_succ_lt_self _ _ (by assumption) | exact Nat.succ_le_of_lt (by assumption) | exact Nat.le_of_lt (by assumption) | lia | omega))) hx8 (by rw [List.length_take]; (first | assumption | decide | exact Nat.le_trans (by assumption) (by decide) | exact Nat.sub_succ_lt_self _ _ (by assumption) | exact Nat.succ_le_of_lt (by assumption) | exact Nat.le_of_lt (by assumption) | lia | omega)) (O.weak (P' := LexP (lnAt cs q') fs pb) fun o ho => ⟨_, hm, ho⟩) fun h18 t19 O => ?_)⟩
        walk_at "ws"
        rw [show vD.take i ++ [v] = vD.take (i + 1) from by rw [List.take_add_one, hv]; rfl] at O
        exact ⟨ws.length + 1 - (i + 1), by (first | assumption | decide | exact Nat.le_trans (by assumption) (by decide) | exact Nat.sub_succ_lt_self _ _ (by assumption) | exact Nat.succ_le_of_lt (by assumption) | exact Nat.le_of_lt (by assumption) | lia | omega), i + 1, _, _, _, rfl, O, rfl, by (first | assumption | decide | exact Nat.le_trans (by assumption) (by decide) | exact Nat.sub_succ_lt_self _ _ (by assumption) | exact Nat.succ_le_of_lt (by assumption) | exact Nat.le_of_lt (by assumption) | lia | omega), ⟨e1, e2, e3, e4, e5, e6, e7⟩, ⟨w1, w2, w3, w4⟩⟩
      · have O := ((O.ahead [_, _, _]).drop1 hkk)
        rw [List.take_of_length_le (by (first | assumption | decide | exact Nat.le_trans (by assumption) (by decide) | exact Nat.sub_succ_lt_self _ _ (by assumption) | exact Nat.succ_le_of_lt (by assumption) | exact Nat.le_of_lt (by assumption) | lia | omega))] at O
        walk_at "ws"
        exact ⟨B8, _, _, _, _, rfl, s8, O, ⟨e1, e2, e3, e4, e5, e6, e7⟩, ⟨w1, w2, w3, w4⟩, hvsD⟩
    · clear O hm e1 e2 e3 e4 e5 e6 e7
      rintro s' ⟨B8, h, t, m, pbs, rfl, s8, O, ⟨e1, e2, e3, e4, e5, e6, e7⟩, ⟨w1, w2, w3, w4⟩, hpbs⟩
      have G8 := G7.mono s8
      have St8 := St7.mono s8
      have hx8 := s8 _ _ hx7
      have hR8 := isList_keeps hR7 s8
      have hM8 := isList_keeps hM7 s8
      refine seq_cut (fun s' => ∃ h t m pbs, s' = ⟨h, sh1.gens, dr, t, sh1.os⟩ ∧ Own B8 h (LX x d pb pl fs cs q' pbs ((it, RiP (k + 1) secs.length) :: (du, ListP dds) :: (to, ListP tds) :: (90, TabP B1 70 qnRead) :: (sh1.heap.objs.toList.length, NsP m) :: [])) ∧
        WM txt tt sc x pl sa to du m ∧ WN ra q' ue ma S m ∧ StrsAre pbs ((passes ws ms ++ [[]]).map word)) ?_ ?_
      · walk_at "ws"
        refine x_iterL O (isList_keeps hM8 O.keep) ?_
        intro itM h16 t17 O _
        have hneM : ma ≠ itM := fun e => by
          have h0 : B8.get? itM = none := (O.own _ (.head _)).2
          obtain ⟨o, ho, _⟩ := hM8
          rw [← e, ho] at h0; cases h0
        have O := O.behind [_, _, _]
        refine codeAny_forLoop_any (fun n' s' => ∃ i h t m pbs, s' = ⟨h, sh1.gens, dr, t, sh1.os⟩ ∧ Own B8 h (LX x d pb pl fs cs q' pbs ((itM, ItP ma i) :: (it, RiP (k + 1) secs.length) :: (du, ListP dds) :: (to, ListP tds) :: (90, TabP B1 70 qnRead) :: (sh1.heap.objs.toList.length, NsP m) :: [])) ∧
          n' = ms.length - i ∧ i ≤ ms.length ∧ WM txt tt sc x pl sa to du m ∧ WN ra q' ue ma S m ∧ StrsAre pbs ((passes ws (ms.take i) ++ [[]]).map word)) ?_ _
          ⟨0, _, _, _, _, rfl, O, rfl, Nat.zero_le _, ⟨e1, e2, e3, e4, e5, e6, e7⟩, ⟨w1, w2, w3, w4⟩, by rw [List.take_zero]; exact hpbs⟩
        clear O e1 e2 e3 e4 e5 e6 e7 w1 w2 w3 w4 hpbs
        rintro n' s' ⟨i, h, t, m, pbs, rfl, O, rfl, hi, ⟨e1, e2, e3, e4, e5, e6, e7⟩, ⟨w1, w2, w3, w4⟩, hpbs⟩
        walk_at "lt"
        refine x_nextL (hA _).handled O (by walk_at "mem") (by walk_at "put") (isList_keeps hM8 O.keep) hneM (fun v h17 t18 hv O _ => ?_) (fun hie h17 t18 hkk => ?_) (by rw [List.length_map]; (first | assumption | decide | exact Nat.le_trans (by assumption) (by decide) | exact Nat.sub_succ_lt_self _ _ (by assumption) | exact Nat.succ_le_of_lt (by assumption) | exact Nat.le_of_lt (by assumption) | lia | omega))
        · rw [List.getElem?_map, Option.map_eq_some_iff] at hv
          obtain ⟨b, hb, rfl⟩ := hv
          have hil : i < ms.length := (List.getElem?_eq_some_iff.mp hb).1
          walk_at "ws"
          rename Own _ _ _ => O
          refine r_global (v := .ref 121) O G8 (by kernel_rfl) ?_
          obtain ⟨o, fd, f1, f2⟩ := f_pass w.params
          refine r_callWith f2 (G8.X _ _ f1) ?_
          walk_at "ws"
          refine x_lenLn (n := (passes ws (ms.take i)).length) (isList_keeps hR8 O.keep) (by (first | assumption | decide | exact Nat.le_trans (by assumption) (by decide) | exact Nat.sub_succ_lt_self _ _ (by assumption) | exact Nat.succ_le_of_lt (by assumption) | exact Nat.le_of_lt (by assumption) | lia | omega)) (by rw [hvn, passes_len]) ?_
          intro t20 t21
          walk_at "ws"
          refine ⟨O.keep, r_call (law_pass G8 ((hA _).le (by (first | assumption | decide | exact Nat.le_trans (by assumption) (by decide) | exact Nat.sub_succ_lt_self _ _ (by assumption) | exact Nat.succ_le_of_lt (by assumption) | exact Nat.le_of_lt (by assumption) | lia | omega))) hx8 (by rw [passes_len]; (first | assumption | decide | exact Nat.le_trans (by assumption) (by decide) | exact Nat.sub_succ_lt_self _ _ (by assumption) | exact Nat.succ_le_of_lt (by assumption) | exact Nat.le_of_lt (by assumption) | lia | omega)) hpbs O fun pbs' h18 t19 hp' O => ?_)⟩
          walk_at "ws"
          rw [← passes_snoc, show ms.take i ++ [b] = ms.take (i + 1) from by rw [List.take_add_one, hb]; rfl] at hp'
          exact ⟨ms.length - (i + 1), by (first | assumption | decide | exact Nat.le_trans (by assumption) (by decide) | exact Nat.sub_succ_lt_self _ _ (by assumption) | exact Nat.succ_le_of_lt (by assumption) | exact Nat.le_of_lt (by assumption) | lia | omega), i + 1, _, _, _, _, rfl, O, rfl, by (first | assumption | decide | exact Nat.le_trans (by assumption) (by decide) | exact Nat.sub_succ_lt_self _ _ (by assumption) | exact Nat.succ_le_of_lt (by assumption) | exact Nat.le_of_lt (by assumption) | lia | omega), ⟨e1, e2, e3, e4, e5, e6, e7⟩, ⟨w1, w2, w3, w4⟩, hp'⟩
        · have O := ((O.ahead [_, _, _]).drop1 hkk)
          rw [List.length_map] at hie
          rw [List.take_of_length_le (by (first | assumption | decide | exact Nat.le_trans (by assumption) (by decide) | exact Nat.sub_succ_lt_self _ _ (by assumption) | exact Nat.succ_le_of_lt (by assumption) | exact Nat.le_of_lt (by assumption) | lia | omega))] at hpbs
          walk_at "ws"
          exact ⟨_, _, _, _, rfl, O, ⟨e1, e2, e3, e4, e5, e6, e7⟩, ⟨w1, w2, w3, w4⟩, hpbs⟩
      · clear O e1 e2 e3 e4 e5 e6 e7 w1 w2 w3 w4 hpbs
        rintro s' ⟨h, t, m, pbs, rfl, O, ⟨e1, e2, e3, e4, e5, e6, e7⟩, ⟨w1, w2, w3, w4⟩, hpbs⟩
        obtain ⟨md, hm, O⟩ := O.open1
        walk_at "ws"
        refine r_listMeth O (by walk_at "mem") slot_list_append PySem.F.type_list_append ?_
        walk_at "ws"
        refine x_bound O G8 hx8 (by walk_at "mem") hm.n2 (c_plain _ _) (c_dict _) (c_gettoken _) (i_gettoken _) (s_gettoken _) (k_gettoken _) (by decide +kernel) ?_
        intro bm2 h16 t17 O
        walk_at "ws"
        refine x_iter2 O (by walk_at "mem") ?_
        intro itc2 h17 t18 O
        walk_at "ws"
        have O := (((O.ahead [_]).behind [_, _, _, _]).behind [_, _, _]).weak (P' := LexP (lnAt cs q') fs pb) fun o ho => ⟨_, hm, ho⟩
        refine list_pop G8 ((hA _).le (by (first | assumption | decide | exact Nat.le_trans (by assumption) (by decide) | exact Nat.sub_succ_lt_self _ _ (by assumption) | exact Nat.succ_le_of_lt (by assumption) | exact Nat.le_of_lt (by assumption) | lia | omega))) hx8 hpbs (fun v hv => hne v (passes_mem ms ws v hv)) (by rw [passes_len]; (first | assumption | decide | exact Nat.le_trans (by assumption) (by decide) | exact Nat.sub_succ_lt_self _ _ (by assumption) | exact Nat.succ_le_of_lt (by assumption) | exact Nat.le_of_lt (by assumption) | lia | omega)) O ?_
        intro S2 vs2 h18 t19 hvs2 O
        clear hm
        obtain ⟨md2, hm, O⟩ := O.open1
        obtain ⟨tl, hln⟩ := hm.lineno
        obtain ⟨tq, O⟩ := (O.ahead [_, _]).open0
        have O := O.behind [_, _]
        dsimp only [List.cons_append, List.nil_append] at O
        walk_at "ws"
        refine x_getattr O G8 hx8 (by walk_at "mem") hm.pushback (c_plain _ _) (c_dict _) (c_pushback _) rfl ?_
        intro t20
        walk_at "ws"
        refine x_lenL (O.list (by walk_at "mem")) (by simp) ?_
        intro t21 t22
        walk_at "ws"
        refine r_item (O.list (by walk_at "mem")) (by (first | assumption | decide | exact Nat.le_trans (by assumption) (by decide) | exact Nat.sub_succ_lt_self _ _ (by assumption) | exact Nat.succ_le_of_lt (by assumption) | exact Nat.le_of_lt (by assumption) | lia | omega)) (by (first | assumption | decide | exact Nat.le_trans (by assumption) (by decide) | exact Nat.sub_succ_lt_self _ _ (by assumption) | exact Nat.succ_le_of_lt (by assumption) | exact Nat.le_of_lt (by assumption) | lia | omega)) rfl ?_
        walk_at "ws"
        refine x_getattr O G8 hx8 (by walk_at "mem") hln (c_plain _ _) (c_dict _) (c_lineno _) rfl ?_
        intro t23
        walk_at "ws"
        rename Own _ _ _ => O
        have hkn : xs.length = k := hxl
        refine x_append O (by walk_at "mem") (by walk_at "put") (by rw [sizeLine_eq, htds.1]; (first | assumption | decide | exact Nat.le_trans (by assumption) (by decide) | exact Nat.sub_succ_lt_self _ _ (by assumption) | exact Nat.succ_le_of_lt (by assumption) | exact Nat.le_of_lt (by assumption) | lia | omega)) ?_
        intro h19 t24 O
        obtain ⟨B9, s9, O, oT, hT1, nT, rfl⟩ := O.freeze1
        have O := O.ahead [_, _, _]
        obtain ⟨B10, s10, O, oS2, hS21, nS2, rfl⟩ := O.freeze1
        have O := ((O.weak (P' := LexP (lnAt cs q') fs pb) fun o ho => ⟨_, hm, ho⟩).ahead [_, _] |>.weak (P' := PlaceP q') fun o ho => ⟨_, ho⟩).behind [_, _]
        dsimp only [List.cons_append, List.nil_append] at O
        have hB10 := s6.trans (s7.trans (s8.trans (s9.trans s10)))
        have G10 := G5.mono hB10
        have hra10 := isList_keeps hra hB10
        have hM10 := isList_keeps hM8 (s9.trans s10)
        have htell : Tell2V cs B10 (.ref _) (ws, passes ws ms, q') := ⟨_, S, S2, vs, vs2, _, _, _, rfl, ⟨_, s10 _ _ hT1, rfl, nT, rfl⟩, isList_keeps hR8 (s9.trans s10), hvs, ⟨_, hS21, rfl, nS2, rfl⟩, hvs2⟩
        walk_at "ws"
        refine r_listMeth O (by walk_at "mem") slot_list_append PySem.F.type_list_append ?_
        walk_at "ws"
        refine r_global (v := .ref 126) O G10 (by kernel_rfl) ?_
        obtain ⟨o, fd, f1, f2⟩ := f_due w.params
        refine r_callWith f2 (G10.X _ _ f1) ?_
        walk_at "ws"
        refine ⟨O.keep, r_call (law_due2 G10 ((hA _).le (by (first | assumption | decide | exact Nat.le_trans (by assumption) (by decide) | exact Nat.sub_succ_lt_self _ _ (by assumption) | exact Nat.succ_le_of_lt (by assumption) | exact Nat.le_of_lt (by assumption) | lia | omega))) hra10 hrs hwn hM10 (by (first | assumption | decide | exact Nat.le_trans (by assumption) (by decide) | exact Nat.sub_succ_lt_self _ _ (by assumption) | exact Nat.succ_le_of_lt (by assumption) | exact Nat.le_of_lt (by assumption) | lia | omega)) O fun B11 D vsd ts h20 t25 dr2 s11 O hsort hmem hdue => ?_)⟩
        obtain ⟨B12, s12, O, oD, hD1, nD, rfl⟩ := O.freeze1
        have hB12 := s11.trans s12
        have G12 := G10.mono hB12
        walk_at "ws"
        refine x_sliceNS O (by rw [sizeLine_eq]; (first | assumption | decide | exact Nat.le_trans (by assumption) (by decide) | exact Nat.sub_succ_lt_self _ _ (by assumption) | exact Nat.succ_le_of_lt (by assumption) | exact Nat.le_of_lt (by assumption) | lia | omega)) ?_
        intro h21 t26 t27 O
        walk_at "ws"
        refine r_strMeth PySem.F.slot_str_count PySem.F.type_str_count ?_
        walk_at "ws"
        refine x_count ?_
        intro t28 t29
        walk_at "ws"
        rename_i a11 h22 t30 O
        rw [count_lines (cs := cs) hcsq q'] at O
        obtain ⟨B13, s13, O, oT2, hT2, nT2, rfl⟩ := O.freeze1
        refine x_append O (by walk_at "mem") (by walk_at "put") (by rw [sizeLine_eq, hdds.1]; (first | assumption | decide | exact Nat.le_trans (by assumption) (by decide) | exact Nat.sub_succ_lt_self _ _ (by assumption) | exact Nat.succ_le_of_lt (by assumption) | exact Nat.le_of_lt (by assumption) | lia | omega)) ?_
        intro h23 t33 O
        walk_at "ws"
        have hdueS := dueL_words hdue hsort hmem
        have htell2 : Tell2V cs B13 (.ref _) (ws, passes ws ms, q') := ⟨_, ra, D, rvs, vsd, _, _, _, rfl, ⟨_, hT2, rfl, nT2, rfl⟩, isList_keeps hra10 (hB12.trans s13), hrs, ⟨_, s13 _ _ hD1, rfl, nD, rfl⟩, hdueS⟩
        have hq2 : q' = cs.length - (restAt (k + 1) cs).length := by rw [restAt_succ]; exact hw2
        have hsub := hB10.trans (hB12.trans s13)
        rw [hq2] at O
        refine ⟨secs.length - (k + 1), by (first | assumption | decide | exact Nat.le_trans (by assumption) (by decide) | exact Nat.sub_succ_lt_self _ _ (by assumption) | exact Nat.succ_le_of_lt (by assumption) | exact Nat.le_of_lt (by assumption) | lia | omega), k + 1, _, _, xs ++ [(ws, passes ws ms, q')], _, _, _, _, B13, rfl, s5.trans hsub, O, rfl, by (first | assumption | decide | exact Nat.le_trans (by assumption) (by decide) | exact Nat.sub_succ_lt_self _ _ (by assumption) | exact Nat.succ_le_of_lt (by assumption) | exact Nat.le_of_lt (by assumption) | lia | omega), ⟨e1, e2, e3, e4, e5, e6, e7⟩, (htds.mono fun v s z => z.mono hsub).snoc (htell.mono (hB12.trans s13)), (hdds.mono fun v s z => z.mono hsub).snoc htell2, by simp [hxl], fun x hx => ?_⟩
        rcases List.mem_append.mp hx with hx | hx
        · exact hoks x hx
        · rw [List.mem_singleton.mp hx]
          have h1 : okW ws := hok (ws, q') (List.mem_of_getElem? hx1)
          exact ⟨h1, fun c hc => h1 c (passes_mem ms ws c hc)⟩
  · have O := O.ahead [_, _, _]
    have O := O.drop1 hkk
    obtain rfl : k = secs.length := by (first | assumption | decide | exact Nat.le_trans (by assumption) (by decide) | exact Nat.sub_succ_lt_self _ _ (by assumption) | exact Nat.succ_le_of_lt (by assumption) | exact Nat.le_of_lt (by assumption) | lia | omega)
    walk_at "ws"
    rename Own _ _ _ => O
    refine x_eqTells (O.list (by walk_at "mem")) (htds.mono fun v s z => z.mono O.keep) (O.list (by walk_at "mem")) (hdds.mono fun v s z => z.mono O.keep) hoks ((hA _).units64 (by (first | assumption | decide | exact Nat.le_trans (by assumption) (by decide) | exact Nat.sub_succ_lt_self _ _ (by assumption) | exact Nat.succ_le_of_lt (by assumption) | exact Nat.le_of_lt (by assumption) | lia | omega))) ?_
    walk_at "ws"
    refine ⟨⟨.inl ⟨_, .bool true, [], rfl, raisesW_false ?_, .bool true, ?_, unshared_nil⟩, fun b o e => O.keep _ _ (hB5 _ _ e), rfl, ?_⟩, ?_, trivial⟩
    · wrow_none_raised
    · kc_post
    · rename sh1.gens = #[] => hgens
      exact hgens
    · obtain ⟨o, ho, ps, e, _⟩ := O.get (List.Mem.tail _ (List.Mem.tail _ (List.Mem.tail _ (List.Mem.tail _ (List.Mem.tail _ (List.Mem.head _))))))
      exact ⟨ps, e ▸ ho⟩)

end Mine
end

end

set_option maxRecDepth 100000 in
set_option maxHeartbeats 8000000 in
theorem PySem.Challenge.cw_re0021_02_holds : PySem.Challenge.rw_re0021_02.Holds := by
  exact Mine.MineLaw
