import PyProof.Rows.All
import Wide.All
import OpenK.AllK
import Wide.FinOn
import PySem.Challenge.RW_ta0028_01
set_option Elab.async false
set_option linter.all false
/-! ## EvBase -/
section
open PySem PySem.W PyProof.Rows
namespace Mine
open PySem.Sem

/-- a tree is run for at most n nodes; a code's run is asked of `cd` -/
def evT (M : Model) (cd : Ctx → Pos → Shared → Option (Result × Shared)) {α : Type} (Γ : Ctx) : Nat → Sem α → Pos → Shared → Option (Except Value α × Pos × Shared)
  | 0, _, _, _ => none
  | n + 1, t, p, s => match t with
    | .pure a => some (.ok a, p, s)
    | .raise e => some (.error e, p, s)
    | .rule _ k => evT M cd Γ n (k ()) p s
    | .at p' k => evT M cd Γ n (k ()) p' s
    | .load a _ k => match s.heap.get? a with
      | some o => evT M cd Γ n (k o) p s
      | none => none
    | .update a _ f k => match (s.heap.get? a).isSome with
      | true => evT M cd Γ n (k ()) p { s with heap := s.heap.update a f }
      | false => none
    | .loadIfAlive a k => evT M cd Γ n (k (s.heap.get? a)) p s
    | .point _ k => evT M cd Γ n (k ()) p s
    | .alloc o k => evT M cd Γ n (k s.heap.objs.size) p { s with heap := s.heap.push o }
    | .fresh k => evT M cd Γ n (k s.toks) p { s with toks := s.toks + 1 }
    | .ask k => evT M cd Γ n (k ⟨M.prog, M.w.params⟩) p s
    | .call c h _ _ k => match cd (Γ.enter c h p) p s with
      | some (r, s') => evT M cd Γ n (k r) p s'
      | none => none
    | .handled own k => evT M cd Γ n (k (if own then Γ.own else Γ.handled)) p s
    | .stack k => evT M cd Γ n (k ((Γ.code, p) :: Γ.below)) p s
    | .thread k => evT M cd Γ n (k 0) p s
    | _ => none

def evC (M : Model) (m : Nat) : Nat → Ctx → Pos → Shared → Option (Result × Shared)
  | 0, _, _, _ => none
  | d + 1, Γ, p, s => match evT M (evC M m d) Γ m (M.den Γ.code) p s with
    | some (.ok (.done f), _, s') => some (.ok f, s')
    | some (.ok (.again c), p', s') => match c.quiet with
      | true => evC M m d (Γ.goto c) p' s'
      | false => none
    | some (.error e, _, s') => some (.error e, s')
    | none => none

def evPost {α : Type} (Q : α → Pos → Shared → Prop) (E : Value → Pos → Shared → Prop) : Except Value α → Pos → Shared → Prop
  | .ok a, p, s => Q a p s
  | .error e, p, s => E e p s

theorem evT_sound {M : Model} {cd : Ctx → Pos → Shared → Option (Result × Shared)}
    (hcd : ∀ Γ p s r s', cd Γ p s = some (r, s') → ∀ R : Result → Shared → Prop, R r s' → wpCode M Γ R p s) {α : Type} {Γ : Ctx} :
    ∀ (n : Nat) (t : Sem α) (p : Pos) (s : Shared) (r : Except Value α) (p' : Pos) (s' : Shared), evT M cd Γ n t p s = some (r, p', s') →
      ∀ (Q : α → Pos → Shared → Prop) (E : Value → Pos → Shared → Prop), evPost Q E r p' s' → wp M Γ t Q E p s
  | 0, _, _, _, _, _, _, h => by cases h
  | n + 1, t, p, s, r, p', s', h => by
    intro Q E hq
    have ih := evT_sound (M := M) hcd (α := α) (Γ := Γ) n
    cases t with
    | pure a => cases h; exact hq
    | raise e => cases h; exact hq
    | rule _ k => exact ih _ _ _ _ _ _ h Q E hq
    | «at» p₁ k => exact ih _ _ _ _ _ _ h Q E hq
    | load a _ k =>
      simp only [evT] at h
      split at h
      · rename_i o ho; exact ⟨o, ho, ih _ _ _ _ _ _ h Q E hq⟩
      · cases h
    | update a _ f k =>
      simp only [evT] at h
      split at h
      · rename_i ho; exact ⟨ho, ih _ _ _ _ _ _ h Q E hq⟩
      · cases h
    | loadIfAlive a k => exact ih _ _ _ _ _ _ h Q E hq
    | point _ k => exact ih _ _ _ _ _ _ h Q E hq
    | alloc o k => exact ih _ _ _ _ _ _ h Q E hq
    | fresh k => exact ih _ _ _ _ _ _ h Q E hq
    | ask k => exact ih _ _ _ _ _ _ h Q E hq
    | call c hh g l k =>
      simp only [evT] at h
      split at h
      · rename_i r₁ s₁ h₁
        exact hcd _ _ _ _ _ h₁ _ (ih _ _ _ _ _ _ h Q E hq)
      · cases h
    | handled own k => exact ih _ _ _ _ _ _ h Q E hq
    | stack k => exact ih _ _ _ _ _ _ h Q E hq
    | thread k => exact ih _ _ _ _ _ _ h Q E hq
    | unsupported | finish | register | choose | os | genState | newGen | resume | yield | fork | await => cases h

theorem evC_sound {M : Model} {m : Nat} : ∀ (d : Nat) (Γ : Ctx) (p : Pos) (s : Shared) (r : Result) (s' : Shared), evC M m d Γ p s = some (r, s') →
    ∀ R : Result → Shared → Prop, R r s' → wpCode M Γ R p s
  | 0, _, _, _, _, _, h => by cases h
  | d + 1, Γ, p, s, r, s', h => by
    intro R hR
    have ih := evC_sound (M := M) (m := m) d
    rw [wpCode_iff_wp]
    simp only [evC] at h
    split at h
    · rename_i f p₁ s₁ h₁
      cases h
      exact evT_sound ih _ _ _ _ _ _ _ h₁ _ _ hR
    · rename_i c p₁ s₁ h₁
      split at h
      · rename_i hc
        exact evT_sound ih _ _ _ _ _ _ _ h₁ _ _ ⟨hc, ih _ _ _ _ _ h R hR⟩
      · cases h
    · rename_i e p₁ s₁ h₁
      cases h
      exact evT_sound ih _ _ _ _ _ _ _ h₁ _ _ hR
    · cases h

theorem wp_of_ev {M : Model} {Γ : Ctx} {α : Type} {t : Sem α} {p : Pos} {s : Shared} {d m n : Nat} {r : Except Value α} {p' : Pos} {s' : Shared} (h : evT M (evC M m d) Γ n t p s = some (r, p', s'))
    {Q : α → Pos → Shared → Prop} {E : Value → Pos → Shared → Prop} (hq : evPost Q E r p' s') : wp M Γ t Q E p s :=
  evT_sound (fun Γ p s r s' h R hR => evC_sound d Γ p s r s' h R hR) n t p s r p' s' h Q E hq
end Mine

end
/-! ## HeadObjs -/
section
open PySem PySem.W PyProof.Rows
namespace Mine
set_option maxRecDepth 100000
set_option linter.unusedVariables false
/-- the k-th statement behind the opening -/
noncomputable def bd : List Stmt := behindTheImports PySem.Challenge.pw_ta0028_01
noncomputable def dP (k : Nat) : Arguments := match bd[k]? with
  | some (.FunctionDef _ a _ _ _ _ _ _ _ _) => a
  | _ => ⟨[], [], none, [], [], none, []⟩
noncomputable def dB (k : Nat) : List Stmt := match bd[k]? with
  | some (.FunctionDef _ _ b _ _ _ _ _ _ _) => b
  | _ => []
noncomputable def dS (k : Nat) : Scope := match bd[k]? with
  | some (.FunctionDef _ _ _ _ _ _ sc _ _ _) => sc
  | _ => { kind := .module, names := [], isGenerator := false, isCoroutine := false, more := [] }
noncomputable def o0S (P : Params) : Obj := { cls := Value.type "dict", data := Data.dict #[{ hash := PyData.keyHash P (Str.ofString "__name__"), key := Value.str (Str.ofString "__name__") 1, val := Value.str (Str.ofString "builtins") 160 }, { hash := PyData.keyHash P (Str.ofString "__doc__"), key := Value.str (Str.ofString "__doc__") 2, val := Value.builtin "builtins.__doc__:str#opaque" }, { hash := PyData.keyHash P (Str.ofString "__package__"), key := Value.str (Str.ofString "__package__") 3, val := Value.builtin "builtins.__package__:str#opaque" }, { hash := PyData.keyHash P (Str.ofString "__loader__"), key := Value.str (Str.ofString "__loader__") 4, val := Value.builtin "builtins.__loader__:shared#opaque" }, { hash := PyData.keyHash P (Str.ofString "__spec__"), key := Value.str (Str.ofString "__spec__") 5, val := Value.builtin "builtins.__spec__#opaque" }, { hash := PyData.keyHash P (Str.ofString "__build_class__"), key := Value.str (Str.ofString "__build_class__") 6, val := Value.builtin "__build_class__" }, { hash := PyData.keyHash P (Str.ofString "__import__"), key := Value.str (Str.ofString "__import__") 7, val := Value.builtin "__import__" }, { hash := PyData.keyHash P (Str.ofString "abs"), key := Value.str (Str.ofString "abs") 8, val := Value.builtin "abs" }, { hash := PyData.keyHash P (Str.ofString "all"), key := Value.str (Str.ofString "all") 9, val := Value.builtin "all" }, { hash := PyData.keyHash P (Str.ofString "any"), key := Value.str (Str.ofString "any") 10, val := Value.builtin "any" }, { hash := PyData.keyHash P (Str.ofString "ascii"), key := Value.str (Str.ofString "ascii") 11, val := Value.builtin "ascii" }, { hash := PyData.keyHash P (Str.ofString "bin"), key := Value.str (Str.ofString "bin") 12, val := Value.builtin "bin" }, { hash := PyData.keyHash P (Str.ofString "breakpoint"), key := Value.str (Str.ofString "breakpoint") 13, val := Value.builtin "breakpoint" }, { hash := PyData.keyHash P (Str.ofString "callable"), key := Value.str (Str.ofString "callable") 14, val := Value.builtin "callable" }, { hash := PyData.keyHash P (Str.ofString "chr"), key := Value.str (Str.ofString "chr") 15, val := Value.builtin "chr" }, { hash := PyData.keyHash P (Str.ofString "compile"), key := Value.str (Str.ofString "compile") 16, val := Value.builtin "compile" }, { hash := PyData.keyHash P (Str.ofString "delattr"), key := Value.str (Str.ofString "delattr") 17, val := Value.builtin "delattr" }, { hash := PyData.keyHash P (Str.ofString "dir"), key := Value.str (Str.ofString "dir") 18, val := Value.builtin "dir" }, { hash := PyData.keyHash P (Str.ofString "divmod"), key := Value.str (Str.ofString "divmod") 19, val := Value.builtin "divmod" }, { hash := PyData.keyHash P (Str.ofString "eval"), key := Value.str (Str.ofString "eval") 20, val := Value.builtin "eval" }, { hash := PyData.keyHash P (Str.ofString "exec"), key := Value.str (Str.ofString "exec") 21, val := Value.builtin "exec" }, { hash := PyData.keyHash P (Str.ofString "format"), key := Value.str (Str.ofString "format") 22, val := Value.builtin "format" }, { hash := PyData.keyHash P (Str.ofString "getattr"), key := Value.str (Str.ofString "getattr") 23, val := Value.builtin "getattr" }, { hash := PyData.keyHash P (Str.ofString "globals"), key := Value.str (Str.ofString "globals") 24, val := Value.builtin "globals" }, { hash := PyData.keyHash P (Str.ofString "hasattr"), key := Value.str (Str.ofString "hasattr") 25, val := Value.builtin "hasattr" }, { hash := PyData.keyHash P (Str.ofString "hash"), key := Value.str (Str.ofString "hash") 26, val := Value.builtin "hash" }, { hash := PyData.keyHash P (Str.ofString "hex"), key := Value.str (Str.ofString "hex") 27, val := Value.builtin "hex" }, { hash := PyData.keyHash P (Str.ofString "id"), key := Value.str (Str.ofString "id") 28, val := Value.builtin "id" }, { hash := PyData.keyHash P (Str.ofString "input"), key := Value.str (Str.ofString "input") 29, val := Value.builtin "input" }, { hash := PyData.keyHash P (Str.ofString "isinstance"), key := Value.str (Str.ofString "isinstance") 30, val := Value.builtin "isinstance" }, { hash := PyData.keyHash P (Str.ofString "issubclass"), key := Value.str (Str.ofString "issubclass") 31, val := Value.builtin "issubclass" }, { hash := PyData.keyHash P (Str.ofString "iter"), key := Value.str (Str.ofString "iter") 32, val := Value.builtin "iter" }, { hash := PyData.keyHash P (Str.ofString "aiter"), key := Value.str (Str.ofString "aiter") 33, val := Value.builtin "aiter" }, { hash := PyData.keyHash P (Str.ofString "len"), key := Value.str (Str.ofString "len") 34, val := Value.builtin "len" }, { hash := PyData.keyHash P (Str.ofString "locals"), key := Value.str (Str.ofString "locals") 35, val := Value.builtin "locals" }, { hash := PyData.keyHash P (Str.ofString "max"), key := Value.str (Str.ofString "max") 36, val := Value.builtin "max" }, { hash := PyData.keyHash P (Str.ofString "min"), key := Value.str (Str.ofString "min") 37, val := Value.builtin "min" }, { hash := PyData.keyHash P (Str.ofString "next"), key := Value.str (Str.ofString "next") 38, val := Value.builtin "next" }, { hash := PyData.keyHash P (Str.ofString "anext"), key := Value.str (Str.ofString "anext") 39, val := Value.builtin "anext" }, { hash := PyData.keyHash P (Str.ofString "oct"), key := Value.str (Str.ofString "oct") 40, val := Value.builtin "oct" }, { hash := PyData.keyHash P (Str.ofString "ord"), key := Value.str (Str.ofString "ord") 41, val := Value.builtin "ord" }, { hash := PyData.keyHash P (Str.ofString "pow"), key := Value.str (Str.ofString "pow") 42, val := Value.builtin "pow" }, { hash := PyData.keyHash P (Str.ofString "print"), key := Value.str (Str.ofString "print") 43, val := Value.builtin "print" }, { hash := PyData.keyHash P (Str.ofString "repr"), key := Value.str (Str.ofString "repr") 44, val := Value.builtin "repr" }, { hash := PyData.keyHash P (Str.ofString "round"), key := Value.str (Str.ofString "round") 45, val := Value.builtin "round" }, { hash := PyData.keyHash P (Str.ofString "setattr"), key := Value.str (Str.ofString "setattr") 46, val := Value.builtin "setattr" }, { hash := PyData.keyHash P (Str.ofString "sorted"), key := Value.str (Str.ofString "sorted") 47, val := Value.builtin "sorted" }, { hash := PyData.keyHash P (Str.ofString "sum"), key := Value.str (Str.ofString "sum") 48, val := Value.builtin "sum" }, { hash := PyData.keyHash P (Str.ofString "vars"), key := Value.str (Str.ofString "vars") 49, val := Value.builtin "vars" }, { hash := PyData.keyHash P (Str.ofString "None"), key := Value.str (Str.ofString "None") 50, val := Value.none }, { hash := PyData.keyHash P (Str.ofString "Ellipsis"), key := Value.str (Str.ofString "Ellipsis") 51, val := Value.ellipsis }, { hash := PyData.keyHash P (Str.ofString "NotImplemented"), key := Value.str (Str.ofString "NotImplemented") 52, val := Value.notImplemented }, { hash := PyData.keyHash P (Str.ofString "False"), key := Value.str (Str.ofString "False") 53, val := Value.bool Bool.false }, { hash := PyData.keyHash P (Str.ofString "True"), key := Value.str (Str.ofString "True") 54, val := Value.bool Bool.true }, { hash := PyData.keyHash P (Str.ofString "bool"), key := Value.str (Str.ofString "bool") 55, val := Value.type "bool" }, { hash := PyData.keyHash P (Str.ofString "memoryview"), key := Value.str (Str.ofString "memoryview") 56, val := Value.type "memoryview" }, { hash := PyData.keyHash P (Str.ofString "bytearray"), key := Value.str (Str.ofString "bytearray") 57, val := Value.type "bytearray" }, { hash := PyData.keyHash P (Str.ofString "bytes"), key := Value.str (Str.ofString "bytes") 58, val := Value.type "bytes" }, { hash := PyData.keyHash P (Str.ofString "classmethod"), key := Value.str (Str.ofString "classmethod") 59, val := Value.type "classmethod" }, { hash := PyData.keyHash P (Str.ofString "complex"), key := Value.str (Str.ofString "complex") 60, val := Value.type "complex" }, { hash := PyData.keyHash P (Str.ofString "dict"), key := Value.str (Str.ofString "dict") 61, val := Value.type "dict" }, { hash := PyData.keyHash P (Str.ofString "enumerate"), key := Value.str (Str.ofString "enumerate") 62, val := Value.type "enumerate" }, { hash := PyData.keyHash P (Str.ofString "filter"), key := Value.str (Str.ofString "filter") 63, val := Value.type "filter" }, { hash := PyData.keyHash P (Str.ofString "float"), key := Value.str (Str.ofString "float") 64, val := Value.type "float" }, { hash := PyData.keyHash P (Str.ofString "frozenset"), key := Value.str (Str.ofString "frozenset") 65, val := Value.type "frozenset" }, { hash := PyData.keyHash P (Str.ofString "property"), key := Value.str (Str.ofString "property") 66, val := Value.type "property" }, { hash := PyData.keyHash P (Str.ofString "int"), key := Value.str (Str.ofString "int") 67, val := Value.type "int" }, { hash := PyData.keyHash P (Str.ofString "list"), key := Value.str (Str.ofString "list") 68, val := Value.type "list" }, { hash := PyData.keyHash P (Str.ofString "map"), key := Value.str (Str.ofString "map") 69, val := Value.type "map" }, { hash := PyData.keyHash P (Str.ofString "object"), key := Value.str (Str.ofString "object") 70, val := Value.type "object" }, { hash := PyData.keyHash P (Str.ofString "range"), key := Value.str (Str.ofString "range") 71, val := Value.type "range" }, { hash := PyData.keyHash P (Str.ofString "reversed"), key := Value.str (Str.ofString "reversed") 72, val := Value.type "reversed" }, { hash := PyData.keyHash P (Str.ofString "set"), key := Value.str (Str.ofString "set") 73, val := Value.type "set" }, { hash := PyData.keyHash P (Str.ofString "slice"), key := Value.str (Str.ofString "slice") 74, val := Value.type "slice" }, { hash := PyData.keyHash P (Str.ofString "staticmethod"), key := Value.str (Str.ofString "staticmethod") 75, val := Value.type "staticmethod" }, { hash := PyData.keyHash P (Str.ofString "str"), key := Value.str (Str.ofString "str") 76, val := Value.type "str" }, { hash := PyData.keyHash P (Str.ofString "super"), key := Value.str (Str.ofString "super") 77, val := Value.type "super" }, { hash := PyData.keyHash P (Str.ofString "tuple"), key := Value.str (Str.ofString "tuple") 78, val := Value.type "tuple" }, { hash := PyData.keyHash P (Str.ofString "type"), key := Value.str (Str.ofString "type") 79, val := Value.type "type" }, { hash := PyData.keyHash P (Str.ofString "zip"), key := Value.str (Str.ofString "zip") 80, val := Value.type "zip" }, { hash := PyData.keyHash P (Str.ofString "__debug__"), key := Value.str (Str.ofString "__debug__") 81, val := Value.bool Bool.true }, { hash := PyData.keyHash P (Str.ofString "BaseException"), key := Value.str (Str.ofString "BaseException") 82, val := Value.type "BaseException" }, { hash := PyData.keyHash P (Str.ofString "BaseExceptionGroup"), key := Value.str (Str.ofString "BaseExceptionGroup") 83, val := Value.type "BaseExceptionGroup" }, { hash := PyData.keyHash P (Str.ofString "Exception"), key := Value.str (Str.ofString "Exception") 84, val := Value.type "Exception" }, { hash := PyData.keyHash P (Str.ofString "GeneratorExit"), key := Value.str (Str.ofString "GeneratorExit") 85, val := Value.type "GeneratorExit" }, { hash := PyData.keyHash P (Str.ofString "KeyboardInterrupt"), key := Value.str (Str.ofString "KeyboardInterrupt") 86, val := Value.type "KeyboardInterrupt" }, { hash := PyData.keyHash P (Str.ofString "SystemExit"), key := Value.str (Str.ofString "SystemExit") 87, val := Value.type "SystemExit" }, { hash := PyData.keyHash P (Str.ofString "ArithmeticError"), key := Value.str (Str.ofString "ArithmeticError") 88, val := Value.type "ArithmeticError" }, { hash := PyData.keyHash P (Str.ofString "AssertionError"), key := Value.str (Str.ofString "AssertionError") 89, val := Value.type "AssertionError" }, { hash := PyData.keyHash P (Str.ofString "AttributeError"), key := Value.str (Str.ofString "AttributeError") 90, val := Value.type "AttributeError" }, { hash := PyData.keyHash P (Str.ofString "BufferError"), key := Value.str (Str.ofString "BufferError") 91, val := Value.type "BufferError" }, { hash := PyData.keyHash P (Str.ofString "EOFError"), key := Value.str (Str.ofString "EOFError") 92, val := Value.type "EOFError" }, { hash := PyData.keyHash P (Str.ofString "ImportError"), key := Value.str (Str.ofString "ImportError") 93, val := Value.type "ImportError" }, { hash := PyData.keyHash P (Str.ofString "LookupError"), key := Value.str (Str.ofString "LookupError") 94, val := Value.type "LookupError" }, { hash := PyData.keyHash P (Str.ofString "MemoryError"), key := Value.str (Str.ofString "MemoryError") 95, val := Value.type "MemoryError" }, { hash := PyData.keyHash P (Str.ofString "NameError"), key := Value.str (Str.ofString "NameError") 96, val := Value.type "NameError" }, { hash := PyData.keyHash P (Str.ofString "OSError"), key := Value.str (Str.ofString "OSError") 97, val := Value.type "OSError" }, { hash := PyData.keyHash P (Str.ofString "ReferenceError"), key := Value.str (Str.ofString "ReferenceError") 98, val := Value.type "ReferenceError" }, { hash := PyData.keyHash P (Str.ofString "RuntimeError"), key := Value.str (Str.ofString "RuntimeError") 99, val := Value.type "RuntimeError" }, { hash := PyData.keyHash P (Str.ofString "StopAsyncIteration"), key := Value.str (Str.ofString "StopAsyncIteration") 100, val := Value.type "StopAsyncIteration" }, { hash := PyData.keyHash P (Str.ofString "StopIteration"), key := Value.str (Str.ofString "StopIteration") 101, val := Value.type "StopIteration" }, { hash := PyData.keyHash P (Str.ofString "SyntaxError"), key := Value.str (Str.ofString "SyntaxError") 102, val := Value.type "SyntaxError" }, { hash := PyData.keyHash P (Str.ofString "SystemError"), key := Value.str (Str.ofString "SystemError") 103, val := Value.type "SystemError" }, { hash := PyData.keyHash P (Str.ofString "TypeError"), key := Value.str (Str.ofString "TypeError") 104, val := Value.type "TypeError" }, { hash := PyData.keyHash P (Str.ofString "ValueError"), key := Value.str (Str.ofString "ValueError") 105, val := Value.type "ValueError" }, { hash := PyData.keyHash P (Str.ofString "Warning"), key := Value.str (Str.ofString "Warning") 106, val := Value.type "Warning" }, { hash := PyData.keyHash P (Str.ofString "FloatingPointError"), key := Value.str (Str.ofString "FloatingPointError") 107, val := Value.type "FloatingPointError" }, { hash := PyData.keyHash P (Str.ofString "OverflowError"), key := Value.str (Str.ofString "OverflowError") 108, val := Value.type "OverflowError" }, { hash := PyData.keyHash P (Str.ofString "ZeroDivisionError"), key := Value.str (Str.ofString "ZeroDivisionError") 109, val := Value.type "ZeroDivisionError" }, { hash := PyData.keyHash P (Str.ofString "BytesWarning"), key := Value.str (Str.ofString "BytesWarning") 110, val := Value.type "BytesWarning" }, { hash := PyData.keyHash P (Str.ofString "DeprecationWarning"), key := Value.str (Str.ofString "DeprecationWarning") 111, val := Value.type "DeprecationWarning" }, { hash := PyData.keyHash P (Str.ofString "EncodingWarning"), key := Value.str (Str.ofString "EncodingWarning") 112, val := Value.type "EncodingWarning" }, { hash := PyData.keyHash P (Str.ofString "FutureWarning"), key := Value.str (Str.ofString "FutureWarning") 113, val := Value.type "FutureWarning" }, { hash := PyData.keyHash P (Str.ofString "ImportWarning"), key := Value.str (Str.ofString "ImportWarning") 114, val := Value.type "ImportWarning" }, { hash := PyData.keyHash P (Str.ofString "PendingDeprecationWarning"), key := Value.str (Str.ofString "PendingDeprecationWarning") 115, val := Value.type "PendingDeprecationWarning" }, { hash := PyData.keyHash P (Str.ofString "ResourceWarning"), key := Value.str (Str.ofString "ResourceWarning") 116, val := Value.type "ResourceWarning" }, { hash := PyData.keyHash P (Str.ofString "RuntimeWarning"), key := Value.str (Str.ofString "RuntimeWarning") 117, val := Value.type "RuntimeWarning" }, { hash := PyData.keyHash P (Str.ofString "SyntaxWarning"), key := Value.str (Str.ofString "SyntaxWarning") 118, val := Value.type "SyntaxWarning" }, { hash := PyData.keyHash P (Str.ofString "UnicodeWarning"), key := Value.str (Str.ofString "UnicodeWarning") 119, val := Value.type "UnicodeWarning" }, { hash := PyData.keyHash P (Str.ofString "UserWarning"), key := Value.str (Str.ofString "UserWarning") 120, val := Value.type "UserWarning" }, { hash := PyData.keyHash P (Str.ofString "BlockingIOError"), key := Value.str (Str.ofString "BlockingIOError") 121, val := Value.type "BlockingIOError" }, { hash := PyData.keyHash P (Str.ofString "ChildProcessError"), key := Value.str (Str.ofString "ChildProcessError") 122, val := Value.type "ChildProcessError" }, { hash := PyData.keyHash P (Str.ofString "ConnectionError"), key := Value.str (Str.ofString "ConnectionError") 123, val := Value.type "ConnectionError" }, { hash := PyData.keyHash P (Str.ofString "FileExistsError"), key := Value.str (Str.ofString "FileExistsError") 124, val := Value.type "FileExistsError" }, { hash := PyData.keyHash P (Str.ofString "FileNotFoundError"), key := Value.str (Str.ofString "FileNotFoundError") 125, val := Value.type "FileNotFoundError" }, { hash := PyData.keyHash P (Str.ofString "InterruptedError"), key := Value.str (Str.ofString "InterruptedError") 126, val := Value.type "InterruptedError" }, { hash := PyData.keyHash P (Str.ofString "IsADirectoryError"), key := Value.str (Str.ofString "IsADirectoryError") 127, val := Value.type "IsADirectoryError" }, { hash := PyData.keyHash P (Str.ofString "NotADirectoryError"), key := Value.str (Str.ofString "NotADirectoryError") 128, val := Value.type "NotADirectoryError" }, { hash := PyData.keyHash P (Str.ofString "PermissionError"), key := Value.str (Str.ofString "PermissionError") 129, val := Value.type "PermissionError" }, { hash := PyData.keyHash P (Str.ofString "ProcessLookupError"), key := Value.str (Str.ofString "ProcessLookupError") 130, val := Value.type "ProcessLookupError" }, { hash := PyData.keyHash P (Str.ofString "TimeoutError"), key := Value.str (Str.ofString "TimeoutError") 131, val := Value.type "TimeoutError" }, { hash := PyData.keyHash P (Str.ofString "IndentationError"), key := Value.str (Str.ofString "IndentationError") 132, val := Value.type "IndentationError" }, { hash := PyData.keyHash P (Str.ofString "_IncompleteInputError"), key := Value.str (Str.ofString "_IncompleteInputError") 133, val := Value.type "_IncompleteInputError" }, { hash := PyData.keyHash P (Str.ofString "IndexError"), key := Value.str (Str.ofString "IndexError") 134, val := Value.type "IndexError" }, { hash := PyData.keyHash P (Str.ofString "KeyError"), key := Value.str (Str.ofString "KeyError") 135, val := Value.type "KeyError" }, { hash := PyData.keyHash P (Str.ofString "ModuleNotFoundError"), key := Value.str (Str.ofString "ModuleNotFoundError") 136, val := Value.type "ModuleNotFoundError" }, { hash := PyData.keyHash P (Str.ofString "NotImplementedError"), key := Value.str (Str.ofString "NotImplementedError") 137, val := Value.type "NotImplementedError" }, { hash := PyData.keyHash P (Str.ofString "PythonFinalizationError"), key := Value.str (Str.ofString "PythonFinalizationError") 138, val := Value.type "PythonFinalizationError" }, { hash := PyData.keyHash P (Str.ofString "RecursionError"), key := Value.str (Str.ofString "RecursionError") 139, val := Value.type "RecursionError" }, { hash := PyData.keyHash P (Str.ofString "UnboundLocalError"), key := Value.str (Str.ofString "UnboundLocalError") 140, val := Value.type "UnboundLocalError" }, { hash := PyData.keyHash P (Str.ofString "UnicodeError"), key := Value.str (Str.ofString "UnicodeError") 141, val := Value.type "UnicodeError" }, { hash := PyData.keyHash P (Str.ofString "BrokenPipeError"), key := Value.str (Str.ofString "BrokenPipeError") 142, val := Value.type "BrokenPipeError" }, { hash := PyData.keyHash P (Str.ofString "ConnectionAbortedError"), key := Value.str (Str.ofString "ConnectionAbortedError") 143, val := Value.type "ConnectionAbortedError" }, { hash := PyData.keyHash P (Str.ofString "ConnectionRefusedError"), key := Value.str (Str.ofString "ConnectionRefusedError") 144, val := Value.type "ConnectionRefusedError" }, { hash := PyData.keyHash P (Str.ofString "ConnectionResetError"), key := Value.str (Str.ofString "ConnectionResetError") 145, val := Value.type "ConnectionResetError" }, { hash := PyData.keyHash P (Str.ofString "TabError"), key := Value.str (Str.ofString "TabError") 146, val := Value.type "TabError" }, { hash := PyData.keyHash P (Str.ofString "UnicodeDecodeError"), key := Value.str (Str.ofString "UnicodeDecodeError") 147, val := Value.type "UnicodeDecodeError" }, { hash := PyData.keyHash P (Str.ofString "UnicodeEncodeError"), key := Value.str (Str.ofString "UnicodeEncodeError") 148, val := Value.type "UnicodeEncodeError" }, { hash := PyData.keyHash P (Str.ofString "UnicodeTranslateError"), key := Value.str (Str.ofString "UnicodeTranslateError") 149, val := Value.type "UnicodeTranslateError" }, { hash := PyData.keyHash P (Str.ofString "ExceptionGroup"), key := Value.str (Str.ofString "ExceptionGroup") 150, val := Value.type "ExceptionGroup" }, { hash := PyData.keyHash P (Str.ofString "EnvironmentError"), key := Value.str (Str.ofString "EnvironmentError") 151, val := Value.type "OSError" }, { hash := PyData.keyHash P (Str.ofString "IOError"), key := Value.str (Str.ofString "IOError") 152, val := Value.type "OSError" }, { hash := PyData.keyHash P (Str.ofString "open"), key := Value.str (Str.ofString "open") 153, val := Value.builtin "open" }, { hash := PyData.keyHash P (Str.ofString "quit"), key := Value.str (Str.ofString "quit") 154, val := Value.builtin "builtins.quit#opaque" }, { hash := PyData.keyHash P (Str.ofString "exit"), key := Value.str (Str.ofString "exit") 155, val := Value.builtin "builtins.exit#opaque" }, { hash := PyData.keyHash P (Str.ofString "copyright"), key := Value.str (Str.ofString "copyright") 156, val := Value.builtin "builtins.copyright#opaque" }, { hash := PyData.keyHash P (Str.ofString "credits"), key := Value.str (Str.ofString "credits") 157, val := Value.builtin "builtins.credits#opaque" }, { hash := PyData.keyHash P (Str.ofString "license"), key := Value.str (Str.ofString "license") 158, val := Value.builtin "builtins.license#opaque" }, { hash := PyData.keyHash P (Str.ofString "help"), key := Value.str (Str.ofString "help") 159, val := Value.builtin "builtins.help#opaque" }] 159 }
noncomputable def o1S (P : Params) : Obj := { cls := Value.type "dict", data := Data.dict #[{ hash := PyData.keyHash P (Str.ofString "builtins"), key := Value.str (Str.ofString "builtins") 162, val := Value.ref 4 }, { hash := PyData.keyHash P (Str.ofString "__main__"), key := Value.str (Str.ofString "__main__") 163, val := Value.ref 5 }, { hash := PyData.keyHash P (Str.ofString "_sre"), key := Value.str (Str.ofString "_sre") 244, val := Value.ref 12 }] 3 }
noncomputable def o2S (P : Params) : Obj := { cls := Value.none, data := Data.dict #[{ hash := PyData.keyHash P (Str.ofString "im\x70ort.loaded._sre"), key := Value.str (Str.ofString "im\x70ort.loaded._sre") 183, val := Value.bool Bool.true }, { hash := PyData.keyHash P (Str.ofString "class._frozen_importlib.BuiltinImporter"), key := Value.str (Str.ofString "class._frozen_importlib.BuiltinImporter") 185, val := Value.ref 14 }, { hash := PyData.keyHash P (Str.ofString "watched.im\x70ort"), key := Value.str (Str.ofString "watched.im\x70ort") 206, val := Value.ref 18 }, { hash := PyData.keyHash P (Str.ofString "class._frozen_importlib.ModuleSpec"), key := Value.str (Str.ofString "class._frozen_importlib.ModuleSpec") 216, val := Value.ref 22 }, { hash := PyData.keyHash P (Str.ofString "sys.modules.booked-epoch"), key := Value.str (Str.ofString "sys.modules.booked-epoch") 245, val := Value.int 3 0 }, { hash := PyData.keyHash P (Str.ofString "im\x70ort.later-laid._sre"), key := Value.str (Str.ofString "im\x70ort.later-laid._sre") 270, val := Value.bool Bool.true }, { hash := PyData.keyHash P (Str.ofString "watched.library"), key := Value.str (Str.ofString "watched.library") 272, val := Value.ref 27 }, { hash := PyData.keyHash P (Str.ofString "watched.library-objects"), key := Value.str (Str.ofString "watched.library-objects") 0, val := Value.str (Str.ofString "\x0c") 0 }, { hash := PyData.keyHash P (Str.ofString "watched.library-deep._sre"), key := Value.str (Str.ofString "watched.library-deep._sre") 273, val := Value.str (Str.ofString "\x04\x00\x00\x0b\x04\x00\x00\x0b\x04\x00\x00\x03\x04\x00\x00\x0b\x08\x04dict\x02") 0 }] 9 }
noncomputable def o3S (P : Params) : Obj := { cls := Value.type "dict", data := Data.dict #[{ hash := PyData.keyHash P (Str.ofString "__name__"), key := Value.str (Str.ofString "__name__") 165, val := Value.str (Str.ofString "__main__") 164 }, { hash := PyData.keyHash P (Str.ofString "__doc__"), key := Value.str (Str.ofString "__doc__") 166, val := Value.none }, { hash := PyData.keyHash P (Str.ofString "__package__"), key := Value.str (Str.ofString "__package__") 167, val := Value.none }, { hash := PyData.keyHash P (Str.ofString "__loader__"), key := Value.str (Str.ofString "__loader__") 168, val := Value.builtin "__main__.__loader__#opaque" }, { hash := PyData.keyHash P (Str.ofString "__spec__"), key := Value.str (Str.ofString "__spec__") 169, val := Value.none }, { hash := PyData.keyHash P (Str.ofString "__annotations__"), key := Value.str (Str.ofString "__annotations__") 170, val := Value.ref 6 }, { hash := PyData.keyHash P (Str.ofString "__builtins__"), key := Value.str (Str.ofString "__builtins__") 171, val := Value.ref 4 }, { hash := PyData.keyHash P (Str.ofString "__file__"), key := Value.str (Str.ofString "__file__") 173, val := Value.str (Str.ofString "/claim/cut.py") 172 }, { hash := PyData.keyHash P (Str.ofString "__cached__"), key := Value.str (Str.ofString "__cached__") 174, val := Value.none }, { hash := PyData.keyHash P (Str.ofString "_sre"), key := Value.str (Str.ofString "_sre") 275, val := Value.ref 12 }] 10 }
noncomputable def o4S (P : Params) : Obj := { cls := Value.type "module", dict := Option.some 0 }
noncomputable def o5S (P : Params) : Obj := { cls := Value.type "module", dict := Option.some 3 }
noncomputable def o6S (P : Params) : Obj := { cls := Value.type "dict", data := Data.dict #[] }
noncomputable def o7S (P : Params) : Obj := { cls := Value.type "tuple", data := Data.seq #[] }
noncomputable def o8S (P : Params) : Obj := { cls := Value.none, data := Data.fields #[] }
noncomputable def o9S (P : Params) : Obj := { cls := Value.type "code", data := Data.fields #[Value.str (Str.ofString "<module>") 176, Value.str (Str.ofString "<module>") 177, Value.str (Str.ofString "/claim/cut.py") 178, Value.int 1 0, Value.int 0 0, Value.int 0 0, Value.int 0 0, Value.int 0 0, Value.ref 7, Value.bool Bool.false, Value.int 175 0, Value.ref 8, Value.none, Value.none, Value.none, Value.none, Value.int 179 0, Value.int 1 0, Value.str (Str.ofString "/claim/cut.py") 180] }
noncomputable def o10S (P : Params) : Obj := { cls := Value.type "frame", slots := #[Option.some (Value.ref 9), Option.some (Value.ref 3), Option.some (Value.ref 3), Option.none, Option.some (Value.str (Str.ofString "__main__") 164), Option.none, Option.some (Value.ref 0)] }
noncomputable def o11S (P : Params) : Obj := { cls := Value.type "dict", data := Data.dict #[{ hash := PyData.keyHash P (Str.ofString "__name__"), key := Value.str (Str.ofString "__name__") 247, val := Value.str (Str.ofString "_sre") 246 }, { hash := PyData.keyHash P (Str.ofString "__doc__"), key := Value.str (Str.ofString "__doc__") 248, val := Value.none }, { hash := PyData.keyHash P (Str.ofString "__package__"), key := Value.str (Str.ofString "__package__") 250, val := Value.str (Str.ofString "") 249 }, { hash := PyData.keyHash P (Str.ofString "__loader__"), key := Value.str (Str.ofString "__loader__") 251, val := Value.builtin "off-the-table:_sre.__loader__:shared#opaque" }, { hash := PyData.keyHash P (Str.ofString "__spec__"), key := Value.str (Str.ofString "__spec__") 252, val := Value.builtin "off-the-table:_sre.__spec__:shared#opaque" }, { hash := PyData.keyHash P (Str.ofString "compile"), key := Value.str (Str.ofString "compile") 253, val := Value.builtin "_sre.compile" }, { hash := PyData.keyHash P (Str.ofString "template"), key := Value.str (Str.ofString "template") 254, val := Value.builtin "off-the-table:_sre.template:shared#opaque" }, { hash := PyData.keyHash P (Str.ofString "getcodesize"), key := Value.str (Str.ofString "getcodesize") 255, val := Value.builtin "off-the-table:_sre.getcodesize:shared#opaque" }, { hash := PyData.keyHash P (Str.ofString "ascii_iscased"), key := Value.str (Str.ofString "ascii_iscased") 256, val := Value.builtin "off-the-table:_sre.ascii_iscased:shared#opaque" }, { hash := PyData.keyHash P (Str.ofString "unicode_iscased"), key := Value.str (Str.ofString "unicode_iscased") 257, val := Value.builtin "off-the-table:_sre.unicode_iscased:shared#opaque" }, { hash := PyData.keyHash P (Str.ofString "ascii_tolower"), key := Value.str (Str.ofString "ascii_tolower") 258, val := Value.builtin "off-the-table:_sre.ascii_tolower:shared#opaque" }, { hash := PyData.keyHash P (Str.ofString "unicode_tolower"), key := Value.str (Str.ofString "unicode_tolower") 259, val := Value.builtin "off-the-table:_sre.unicode_tolower:shared#opaque" }, { hash := PyData.keyHash P (Str.ofString "MAGIC"), key := Value.str (Str.ofString "MAGIC") 261, val := Value.int 20230612 260 }, { hash := PyData.keyHash P (Str.ofString "CODESIZE"), key := Value.str (Str.ofString "CODESIZE") 263, val := Value.int 4 262 }, { hash := PyData.keyHash P (Str.ofString "MAXREPEAT"), key := Value.str (Str.ofString "MAXREPEAT") 265, val := Value.int 4294967295 264 }, { hash := PyData.keyHash P (Str.ofString "MAXGROUPS"), key := Value.str (Str.ofString "MAXGROUPS") 267, val := Value.int 1073741823 266 }, { hash := PyData.keyHash P (Str.ofString "copyright"), key := Value.str (Str.ofString "copyright") 269, val := Value.str (Str.ofString " SRE 2.2.2 Copyright (c) 1997-2002 by Secret Labs AB ") 268 }] 17 }
noncomputable def o12S (P : Params) : Obj := { cls := Value.type "module", dict := Option.some 11 }
noncomputable def o13S (P : Params) : Obj := { cls := Value.type "dict", data := Data.dict #[{ hash := PyData.keyHash P (Str.ofString "__module__"), key := Value.str (Str.ofString "__module__") 189, val := Value.str (Str.ofString "_frozen_importlib") 186 }, { hash := PyData.keyHash P (Str.ofString "__firstlineno__"), key := Value.str (Str.ofString "__firstlineno__") 190, val := Value.int 971 187 }, { hash := PyData.keyHash P (Str.ofString "__doc__"), key := Value.str (Str.ofString "__doc__") 191, val := Value.builtin "_frozen_importlib.BuiltinImporter.__doc__:str#opaque" }, { hash := PyData.keyHash P (Str.ofString "_ORIGIN"), key := Value.str (Str.ofString "_ORIGIN") 192, val := Value.str (Str.ofString "built-in") 188 }, { hash := PyData.keyHash P (Str.ofString "find_spec"), key := Value.str (Str.ofString "find_spec") 193, val := Value.builtin "_frozen_importlib.BuiltinImporter.find_spec#opaque" }, { hash := PyData.keyHash P (Str.ofString "create_module"), key := Value.str (Str.ofString "create_module") 194, val := Value.builtin "_frozen_importlib.BuiltinImporter.create_module#opaque" }, { hash := PyData.keyHash P (Str.ofString "exec_module"), key := Value.str (Str.ofString "exec_module") 195, val := Value.builtin "_frozen_importlib.BuiltinImporter.exec_module#opaque" }, { hash := PyData.keyHash P (Str.ofString "get_code"), key := Value.str (Str.ofString "get_code") 196, val := Value.builtin "_frozen_importlib.BuiltinImporter.get_code#opaque" }, { hash := PyData.keyHash P (Str.ofString "get_source"), key := Value.str (Str.ofString "get_source") 197, val := Value.builtin "_frozen_importlib.BuiltinImporter.get_source#opaque" }, { hash := PyData.keyHash P (Str.ofString "is_package"), key := Value.str (Str.ofString "is_package") 198, val := Value.builtin "_frozen_importlib.BuiltinImporter.is_package#opaque" }, { hash := PyData.keyHash P (Str.ofString "load_module"), key := Value.str (Str.ofString "load_module") 199, val := Value.builtin "_frozen_importlib.BuiltinImporter.load_module#opaque" }, { hash := PyData.keyHash P (Str.ofString "__static_attributes__"), key := Value.str (Str.ofString "__static_attributes__") 200, val := Value.ref 15 }, { hash := PyData.keyHash P (Str.ofString "__dict__"), key := Value.str (Str.ofString "__dict__") 202, val := Value.ref 16 }, { hash := PyData.keyHash P (Str.ofString "__weakref__"), key := Value.str (Str.ofString "__weakref__") 204, val := Value.ref 17 }] 14 }
noncomputable def o14S (P : Params) : Obj := { cls := Value.type "type", data := Data.cls { name := Str.ofString "BuiltinImporter", bases := [Value.type "object"], mro := [Value.ref 14, Value.type "object"], ns := 13, qualname := Str.ofString "BuiltinImporter" } }
noncomputable def o15S (P : Params) : Obj := { cls := Value.type "tuple", data := Data.seq #[] }
noncomputable def o16S (P : Params) : Obj := { cls := Value.type "getset_descriptor", data := Data.fields #[Value.str (Str.ofString "__dict__") 201, Value.ref 14, Value.builtin "function.__dict__", Value.builtin "function.__dict__#set"] }
noncomputable def o17S (P : Params) : Obj := { cls := Value.type "getset_descriptor", data := Data.fields #[Value.str (Str.ofString "__weakref__") 203, Value.ref 14, Value.builtin "ExceptionGroup.__weakref__", Value.none] }
noncomputable def o18S (P : Params) : Obj := { cls := Value.none, data := Data.seq #[Value.int 13 0, Value.str (Str.ofString "\x06½\n__module__\x06º\x11_frozen_importlib\x06¾\x0f__firstlineno__\x04»\x00ϋ\x06¿\x07__doc__\t4_frozen_importlib.BuiltinImporter.__doc__:str#opaque\x06À\x07_ORIGIN\x06¼\x08built-in\x06Á\tfind_spec\t2_frozen_importlib.BuiltinImporter.find_spec#opaque\x06Â\x0dcreate_module\t6_frozen_importlib.BuiltinImporter.create_module#opaque\x06Ã\x0bexec_module\t4_frozen_importlib.BuiltinImporter.exec_module#opaque\x06Ä\x08get_code\t1_frozen_importlib.BuiltinImporter.get_code#opaque\x06Å\nget_source\t3_frozen_importlib.BuiltinImporter.get_source#opaque\x06Æ\nis_package\t3_frozen_importlib.BuiltinImporter.is_package#opaque\x06Ç\x0bload_module\t4_frozen_importlib.BuiltinImporter.load_module#opaque\x06È\x15__static_attributes__\x04\x00\x00\x0f\x06Ê\x08__dict__\x04\x00\x00\x10\x06Ì\x0b__weakref__\x04\x00\x00\x11") 0, Value.bool Bool.true, Value.bool Bool.true, Value.str (Str.ofString "") 205, Value.int 21 0, Value.str (Str.ofString "\x06ã\n__module__\x06Ù\x11_frozen_importlib\x06ä\x0f__firstlineno__\x04Ú\x00Ȳ\x06å\x07__doc__\t/_frozen_importlib.ModuleSpec.__doc__:str#opaque\x06æ\x08__init__\t,_frozen_importlib.ModuleSpec.__init__#opaque\x06ç\x08__repr__\t,_frozen_importlib.ModuleSpec.__repr__#opaque\x06è\x06__eq__\t*_frozen_importlib.ModuleSpec.__eq__#opaque\x06é\x06cached\t*_frozen_importlib.ModuleSpec.cached#opaque\x06ê\x06parent\t*_frozen_importlib.ModuleSpec.parent#opaque\x06ë\x0chas_location\t0_frozen_importlib.ModuleSpec.has_location#opaque\x06ì\x15__static_attributes__\x04\x00\x00\x17\x06î\x08__dict__\x04\x00\x00\x18\x06ð\x0b__weakref__\x04\x00\x00\x19\x06ñ\x08__hash__\x00") 0, Value.bool Bool.true, Value.bool Bool.true, Value.str (Str.ofString "") 242] 1 }
noncomputable def o19S (P : Params) : Obj := { cls := Value.type "list", data := Data.seq #[] }
noncomputable def o20S (P : Params) : Obj := { cls := Value.type "dict", data := Data.dict #[{ hash := PyData.keyHash P (Str.ofString "name"), key := Value.str (Str.ofString "name") 208, val := Value.str (Str.ofString "_sre") 207 }, { hash := PyData.keyHash P (Str.ofString "loader"), key := Value.str (Str.ofString "loader") 209, val := Value.ref 14 }, { hash := PyData.keyHash P (Str.ofString "origin"), key := Value.str (Str.ofString "origin") 210, val := Value.str (Str.ofString "built-in") 184 }, { hash := PyData.keyHash P (Str.ofString "loader_state"), key := Value.str (Str.ofString "loader_state") 211, val := Value.none }, { hash := PyData.keyHash P (Str.ofString "submodule_search_locations"), key := Value.str (Str.ofString "submodule_search_locations") 212, val := Value.none }, { hash := PyData.keyHash P (Str.ofString "_uninitialized_submodules"), key := Value.str (Str.ofString "_uninitialized_submodules") 213, val := Value.ref 19 }, { hash := PyData.keyHash P (Str.ofString "_set_fileattr"), key := Value.str (Str.ofString "_set_fileattr") 214, val := Value.bool Bool.false }, { hash := PyData.keyHash P (Str.ofString "_cached"), key := Value.str (Str.ofString "_cached") 215, val := Value.none }, { hash := PyData.keyHash P (Str.ofString "_initializing"), key := Value.str (Str.ofString "_initializing") 243, val := Value.bool Bool.false }] 9 }
noncomputable def o21S (P : Params) : Obj := { cls := Value.type "dict", data := Data.dict #[{ hash := PyData.keyHash P (Str.ofString "__module__"), key := Value.str (Str.ofString "__module__") 227, val := Value.str (Str.ofString "_frozen_importlib") 217 }, { hash := PyData.keyHash P (Str.ofString "__firstlineno__"), key := Value.str (Str.ofString "__firstlineno__") 228, val := Value.int 562 218 }, { hash := PyData.keyHash P (Str.ofString "__doc__"), key := Value.str (Str.ofString "__doc__") 229, val := Value.builtin "_frozen_importlib.ModuleSpec.__doc__:str#opaque" }, { hash := PyData.keyHash P (Str.ofString "__init__"), key := Value.str (Str.ofString "__init__") 230, val := Value.builtin "_frozen_importlib.ModuleSpec.__init__#opaque" }, { hash := PyData.keyHash P (Str.ofString "__repr__"), key := Value.str (Str.ofString "__repr__") 231, val := Value.builtin "_frozen_importlib.ModuleSpec.__repr__#opaque" }, { hash := PyData.keyHash P (Str.ofString "__eq__"), key := Value.str (Str.ofString "__eq__") 232, val := Value.builtin "_frozen_importlib.ModuleSpec.__eq__#opaque" }, { hash := PyData.keyHash P (Str.ofString "cached"), key := Value.str (Str.ofString "cached") 233, val := Value.builtin "_frozen_importlib.ModuleSpec.cached#opaque" }, { hash := PyData.keyHash P (Str.ofString "parent"), key := Value.str (Str.ofString "parent") 234, val := Value.builtin "_frozen_importlib.ModuleSpec.parent#opaque" }, { hash := PyData.keyHash P (Str.ofString "has_location"), key := Value.str (Str.ofString "has_location") 235, val := Value.builtin "_frozen_importlib.ModuleSpec.has_location#opaque" }, { hash := PyData.keyHash P (Str.ofString "__static_attributes__"), key := Value.str (Str.ofString "__static_attributes__") 236, val := Value.ref 23 }, { hash := PyData.keyHash P (Str.ofString "__dict__"), key := Value.str (Str.ofString "__dict__") 238, val := Value.ref 24 }, { hash := PyData.keyHash P (Str.ofString "__weakref__"), key := Value.str (Str.ofString "__weakref__") 240, val := Value.ref 25 }, { hash := PyData.keyHash P (Str.ofString "__hash__"), key := Value.str (Str.ofString "__hash__") 241, val := Value.none }] 13 }
noncomputable def o22S (P : Params) : Obj := { cls := Value.type "type", data := Data.cls { name := Str.ofString "ModuleSpec", bases := [Value.type "object"], mro := [Value.ref 22, Value.type "object"], ns := 21, qualname := Str.ofString "ModuleSpec" } }
noncomputable def o23S (P : Params) : Obj := { cls := Value.type "tuple", data := Data.seq #[Value.str (Str.ofString "_cached") 219, Value.str (Str.ofString "_set_fileattr") 220, Value.str (Str.ofString "_uninitialized_submodules") 221, Value.str (Str.ofString "loader") 222, Value.str (Str.ofString "loader_state") 223, Value.str (Str.ofString "name") 224, Value.str (Str.ofString "origin") 225, Value.str (Str.ofString "submodule_search_locations") 226] }
noncomputable def o24S (P : Params) : Obj := { cls := Value.type "getset_descriptor", data := Data.fields #[Value.str (Str.ofString "__dict__") 237, Value.ref 22, Value.builtin "function.__dict__", Value.builtin "function.__dict__#set"] }
noncomputable def o25S (P : Params) : Obj := { cls := Value.type "getset_descriptor", data := Data.fields #[Value.str (Str.ofString "__weakref__") 239, Value.ref 22, Value.builtin "ExceptionGroup.__weakref__", Value.none] }
noncomputable def o26S (P : Params) : Obj := { cls := Value.ref 22, dict := Option.some 20 }
noncomputable def o27S (P : Params) : Obj := { cls := Value.none, data := Data.seq #[Value.int 11 0, Value.str { cps := #[6, 247, 8, 95, 95, 110, 97, 109, 101, 95, 95, 6, 246, 4, 95, 115, 114, 101, 6, 248, 7, 95, 95, 100, 111, 99, 95, 95, 0, 6, 250, 11, 95, 95, 112, 97, 99, 107, 97, 103, 101, 95, 95, 6, 249, 0, 6, 251, 10, 95, 95, 108, 111, 97, 100, 101, 114, 95, 95, 4, 0, 0, 14, 6, 252, 8, 95, 95, 115, 112, 101, 99, 95, 95, 4, 0, 0, 26, 6, 253, 7, 99, 111, 109, 112, 105, 108, 101, 9, 12, 95, 115, 114, 101, 46, 99, 111, 109, 112, 105, 108, 101, 6, 254, 8, 116, 101, 109, 112, 108, 97, 116, 101, 9, 13, 95, 115, 114, 101, 46, 116, 101, 109, 112, 108, 97, 116, 101, 6, 255, 11, 103, 101, 116, 99, 111, 100, 101, 115, 105, 122, 101, 9, 16, 95, 115, 114, 101, 46, 103, 101, 116, 99, 111, 100, 101, 115, 105, 122, 101, 6, 256, 13, 97, 115, 99, 105, 105, 95, 105, 115, 99, 97, 115, 101, 100, 9, 18, 95, 115, 114, 101, 46, 97, 115, 99, 105, 105, 95, 105, 115, 99, 97, 115, 101, 100, 6, 257, 15, 117, 110, 105, 99, 111, 100, 101, 95, 105, 115, 99, 97, 115, 101, 100, 9, 20, 95, 115, 114, 101, 46, 117, 110, 105, 99, 111, 100, 101, 95, 105, 115, 99, 97, 115, 101, 100, 6, 258, 13, 97, 115, 99, 105, 105, 95, 116, 111, 108, 111, 119, 101, 114, 9, 18, 95, 115, 114, 101, 46, 97, 115, 99, 105, 105, 95, 116, 111, 108, 111, 119, 101, 114, 6, 259, 15, 117, 110, 105, 99, 111, 100, 101, 95, 116, 111, 108, 111, 119, 101, 114, 9, 20, 95, 115, 114, 101, 46, 117, 110, 105, 99, 111, 100, 101, 95, 116, 111, 108, 111, 119, 101, 114, 6, 261, 5, 77, 65, 71, 73, 67, 4, 260, 0, 20230612, 6, 263, 8, 67, 79, 68, 69, 83, 73, 90, 69, 4, 262, 0, 4, 6, 265, 9, 77, 65, 88, 82, 69, 80, 69, 65, 84, 4, 264, 0, 4294967295, 6, 267, 9, 77, 65, 88, 71, 82, 79, 85, 80, 83, 4, 266, 0, 1073741823, 6, 269, 9, 99, 111, 112, 121, 114, 105, 103, 104, 116, 6, 268, 53, 32, 83, 82, 69, 32, 50, 46, 50, 46, 50, 32, 67, 111, 112, 121, 114, 105, 103, 104, 116, 32, 40, 99, 41, 32, 49, 57, 57, 55, 45, 50, 48, 48, 50, 32, 98, 121, 32, 83, 101, 99, 114, 101, 116, 32, 76, 97, 98, 115, 32, 65, 66, 32] } 0, Value.bool Bool.true, Value.bool Bool.false, Value.str (Str.ofString "_sre") 271] }
noncomputable def o28P (P : Params) : Obj := { cls := Value.type "tuple", data := Data.seq #[] }
noncomputable def o29P (P : Params) : Obj := { cls := Value.none, data := Data.fields #[] }
noncomputable def o30P (P : Params) : Obj := { cls := Value.type "code", data := Data.fields #[Value.str (Str.ofString "<module>") 277, Value.str (Str.ofString "<module>") 278, Value.str (Str.ofString "/claim/cut.py") 279, Value.int 1 0, Value.int 0 0, Value.int 0 0, Value.int 0 0, Value.int 0 0, Value.ref 28, Value.bool Bool.false, Value.int 276 0, Value.ref 29, Value.none, Value.none, Value.none, Value.none, Value.int 280 0, Value.int 1 0, Value.str (Str.ofString "/claim/cut.py") 281] }
noncomputable def o31P (P : Params) : Obj := { cls := Value.type "frame", slots := #[Option.some (Value.ref 30), Option.some (Value.ref 3), Option.some (Value.ref 3), Option.none, Option.some (Value.str (Str.ofString "__main__") 164), Option.none, Option.some (Value.ref 0)] }
noncomputable def o3A (P : Params) : Obj := { cls := Value.type "dict", data := Data.dict #[{ hash := PyData.keyHash P (Str.ofString "__name__"), key := Value.str (Str.ofString "__name__") 165, val := Value.str (Str.ofString "cpy313.stringprep") 406 }, { hash := PyData.keyHash P (Str.ofString "__doc__"), key := Value.str (Str.ofString "__doc__") 166, val := Value.none }, { hash := PyData.keyHash P (Str.ofString "__package__"), key := Value.str (Str.ofString "__package__") 167, val := Value.none }, { hash := PyData.keyHash P (Str.ofString "__loader__"), key := Value.str (Str.ofString "__loader__") 168, val := Value.builtin "__main__.__loader__#opaque" }, { hash := PyData.keyHash P (Str.ofString "__spec__"), key := Value.str (Str.ofString "__spec__") 169, val := Value.none }, { hash := PyData.keyHash P (Str.ofString "__annotations__"), key := Value.str (Str.ofString "__annotations__") 170, val := Value.ref 6 }, { hash := PyData.keyHash P (Str.ofString "__builtins__"), key := Value.str (Str.ofString "__builtins__") 171, val := Value.ref 4 }, { hash := PyData.keyHash P (Str.ofString "__file__"), key := Value.str (Str.ofString "__file__") 173, val := Value.str (Str.ofString "/claim/cut.py") 172 }, { hash := PyData.keyHash P (Str.ofString "__cached__"), key := Value.str (Str.ofString "__cached__") 174, val := Value.none }, { hash := PyData.keyHash P (Str.ofString "_sre"), key := Value.str (Str.ofString "_sre") 275, val := Value.ref 12 }, { hash := PyData.keyHash P (Str.ofString "_quoted"), key := Value.str (Str.ofString "_quoted") 327, val := Value.ref 36 }, { hash := PyData.keyHash P (Str.ofString "_paren_depth"), key := Value.str (Str.ofString "_paren_depth") 336, val := Value.ref 44 }, { hash := PyData.keyHash P (Str.ofString "_twin_re_1"), key := Value.str (Str.ofString "_twin_re_1") 354, val := Value.ref 49 }, { hash := PyData.keyHash P (Str.ofString "_twin_re_2"), key := Value.str (Str.ofString "_twin_re_2") 396, val := Value.ref 54 }, { hash := PyData.keyHash P (Str.ofString "CRLF"), key := Value.str (Str.ofString "CRLF") 398, val := Value.str (Str.ofString "\x0d\n") 397 }, { hash := PyData.keyHash P (Str.ofString "quotedata"), key := Value.str (Str.ofString "quotedata") 405, val := Value.ref 61 }] 16 }
noncomputable def o29A (P : Params) : Obj := { cls := Value.none, data := Data.fields #[Value.int 4 0, Value.int 0 0, Value.ref 43, Value.int 11 0, Value.int 0 0, Value.ref 60] }
noncomputable def o32A (P : Params) : Obj := { cls := Value.type "list", data := Data.seq #[Value.int 14 287, Value.int 8 288, Value.int 1 289, Value.int 2 290, Value.int 4294967295 291, Value.int 1 292, Value.int 1 293, Value.int 34 294, Value.int 0 295, Value.int 16 296, Value.int 34 297, Value.int 28 298, Value.int 22 299, Value.int 0 300, Value.int 4294967295 301, Value.int 7 302, Value.int 11 303, Value.int 13 304, Value.int 7 305, Value.int 21 306, Value.int 16 307, Value.int 34 308, Value.int 16 309, Value.int 92 310, Value.int 0 311, Value.int 15 312, Value.int 8 313, Value.int 6 314, Value.int 16 315, Value.int 92 316, Value.int 2 317, Value.int 15 318, Value.int 2 319, Value.int 0 320, Value.int 1 321, Value.int 16 322, Value.int 34 323, Value.int 1 324] }
noncomputable def o33A (P : Params) : Obj := { cls := Value.type "dict", data := Data.dict #[] }
noncomputable def o34A (P : Params) : Obj := { cls := Value.type "tuple", data := Data.seq #[Value.none] }
noncomputable def o35A (P : Params) : Obj := { cls := Value.type "tuple", data := Data.seq #[Value.int 14 0, Value.int 8 0, Value.int 1 0, Value.int 2 0, Value.int 4294967295 0, Value.int 1 0, Value.int 1 0, Value.int 34 0, Value.int 0 0, Value.int 16 0, Value.int 34 0, Value.int 28 0, Value.int 22 0, Value.int 0 0, Value.int 4294967295 0, Value.int 7 0, Value.int 11 0, Value.int 13 0, Value.int 7 0, Value.int 21 0, Value.int 16 0, Value.int 34 0, Value.int 16 0, Value.int 92 0, Value.int 0 0, Value.int 15 0, Value.int 8 0, Value.int 6 0, Value.int 16 0, Value.int 92 0, Value.int 2 0, Value.int 15 0, Value.int 2 0, Value.int 0 0, Value.int 1 0, Value.int 16 0, Value.int 34 0, Value.int 1 0] }
noncomputable def o36A (P : Params) : Obj := { cls := Value.type "re.Pattern", data := Data.fields #[Value.bytes #[34, 40, 63, 58, 91, 94, 34, 92, 92, 93, 124, 92, 92, 46, 41, 42, 43, 34] 285, Value.int 0 326, Value.int 0 0, Value.none, Value.none, Value.ref 35, Value.int 1 0] }
noncomputable def o37A (P : Params) : Obj := { cls := Value.type "tuple", data := Data.seq #[Value.int 0 328] }
noncomputable def o38A (P : Params) : Obj := { cls := Value.type "tuple", data := Data.seq #[] }
noncomputable def o39A (P : Params) : Obj := { cls := Value.none, data := Data.fields #[] }
noncomputable def o40A (P : Params) : Obj := { cls := Value.type "tuple", data := Data.seq #[Value.str (Str.ofString "data") 332, Value.str (Str.ofString "depth") 333] }
noncomputable def o41A (P : Params) : Obj := { cls := Value.type "tuple", data := Data.seq #[] }
noncomputable def o42A (P : Params) : Obj := { cls := Value.none, data := Data.func { name := Str.ofString "_paren_depth", qualname := Str.ofString "_paren_depth", params := dP 2, body := FuncBody.stmts (dB 2), scope := dS 2, globals := 0, closure := [], defaults := Value.none, kwdefaults := Value.none } }
noncomputable def o43A (P : Params) : Obj := { cls := Value.type "code", data := Data.fields #[Value.str (Str.ofString "_paren_depth") 329, Value.str (Str.ofString "_paren_depth") 330, Value.str (Str.ofString "/claim/cut.py") 331, Value.int 4 0, Value.int 2 0, Value.int 0 0, Value.int 0 0, Value.int 3 0, Value.ref 38, Value.bool Bool.true, Value.int 276 0, Value.ref 39, Value.none, Value.ref 40, Value.ref 41, Value.ref 42, Value.int 334 0, Value.int 4 0, Value.str (Str.ofString "/claim/cut.py") 335] }
noncomputable def o44A (P : Params) : Obj := { cls := Value.type "function", data := Data.func { name := Str.ofString "_paren_depth", qualname := Str.ofString "_paren_depth", params := dP 2, body := FuncBody.stmts (dB 2), scope := dS 2, globals := 3, closure := [], defaults := Value.ref 37, kwdefaults := Value.none, pyModule := Value.str (Str.ofString "cpy313.imaplib") 282, code := Value.ref 43 } }
noncomputable def o45A (P : Params) : Obj := { cls := Value.type "list", data := Data.seq #[Value.int 14 342, Value.int 4 343, Value.int 0 344, Value.int 1 345, Value.int 1 346, Value.int 6 347, Value.int 1 348, Value.int 16 349, Value.int 46 350, Value.int 1 351] }
noncomputable def o46A (P : Params) : Obj := { cls := Value.type "dict", data := Data.dict #[] }
noncomputable def o47A (P : Params) : Obj := { cls := Value.type "tuple", data := Data.seq #[Value.none] }
noncomputable def o48A (P : Params) : Obj := { cls := Value.type "tuple", data := Data.seq #[Value.int 14 0, Value.int 4 0, Value.int 0 0, Value.int 1 0, Value.int 1 0, Value.int 6 0, Value.int 1 0, Value.int 16 0, Value.int 46 0, Value.int 1 0] }
noncomputable def o49A (P : Params) : Obj := { cls := Value.type "re.Pattern", data := Data.fields #[Value.str (Str.ofString "(?m)^\\.") 340, Value.int 40 353, Value.int 0 0, Value.none, Value.none, Value.ref 48, Value.int 0 0] }
noncomputable def o50A (P : Params) : Obj := { cls := Value.type "list", data := Data.seq #[Value.int 14 358, Value.int 9 359, Value.int 4 360, Value.int 1 361, Value.int 2 362, Value.int 16 363, Value.int 10 364, Value.int 16 365, Value.int 13 366, Value.int 0 367, Value.int 7 368, Value.int 7 369, Value.int 16 370, Value.int 13 371, Value.int 16 372, Value.int 10 373, Value.int 15 374, Value.int 18 375, Value.int 5 376, Value.int 16 377, Value.int 10 378, Value.int 15 379, Value.int 13 380, Value.int 11 381, Value.int 16 382, Value.int 13 383, Value.int 5 384, Value.int 5 385, Value.int 0 386, Value.int 16 387, Value.int 10 388, Value.int 1 389, Value.int 15 390, Value.int 2 391, Value.int 0 392, Value.int 1 393] }
noncomputable def o51A (P : Params) : Obj := { cls := Value.type "dict", data := Data.dict #[] }
noncomputable def o52A (P : Params) : Obj := { cls := Value.type "tuple", data := Data.seq #[Value.none] }
noncomputable def o53A (P : Params) : Obj := { cls := Value.type "tuple", data := Data.seq #[Value.int 14 0, Value.int 9 0, Value.int 4 0, Value.int 1 0, Value.int 2 0, Value.int 16 0, Value.int 10 0, Value.int 16 0, Value.int 13 0, Value.int 0 0, Value.int 7 0, Value.int 7 0, Value.int 16 0, Value.int 13 0, Value.int 16 0, Value.int 10 0, Value.int 15 0, Value.int 18 0, Value.int 5 0, Value.int 16 0, Value.int 10 0, Value.int 15 0, Value.int 13 0, Value.int 11 0, Value.int 16 0, Value.int 13 0, Value.int 5 0, Value.int 5 0, Value.int 0 0, Value.int 16 0, Value.int 10 0, Value.int 1 0, Value.int 15 0, Value.int 2 0, Value.int 0 0, Value.int 1 0] }
noncomputable def o54A (P : Params) : Obj := { cls := Value.type "re.Pattern", data := Data.fields #[Value.str (Str.ofString "(?:\\r\\n|\\n|\\r(?!\\n))") 356, Value.int 32 395, Value.int 0 0, Value.none, Value.none, Value.ref 53, Value.int 0 0] }
noncomputable def o55A (P : Params) : Obj := { cls := Value.type "tuple", data := Data.seq #[] }
noncomputable def o56A (P : Params) : Obj := { cls := Value.none, data := Data.fields #[] }
noncomputable def o57A (P : Params) : Obj := { cls := Value.type "tuple", data := Data.seq #[Value.str (Str.ofString "data") 402] }
noncomputable def o58A (P : Params) : Obj := { cls := Value.type "tuple", data := Data.seq #[] }
noncomputable def o59A (P : Params) : Obj := { cls := Value.none, data := Data.func { name := Str.ofString "quotedata", qualname := Str.ofString "quotedata", params := dP 7, body := FuncBody.stmts (dB 7), scope := dS 7, globals := 0, closure := [], defaults := Value.none, kwdefaults := Value.none } }
noncomputable def o60A (P : Params) : Obj := { cls := Value.type "code", data := Data.fields #[Value.str (Str.ofString "quotedata") 399, Value.str (Str.ofString "quotedata") 400, Value.str (Str.ofString "/claim/cut.py") 401, Value.int 11 0, Value.int 1 0, Value.int 0 0, Value.int 0 0, Value.int 3 0, Value.ref 55, Value.bool Bool.true, Value.int 276 0, Value.ref 56, Value.none, Value.ref 57, Value.ref 58, Value.ref 59, Value.int 403 0, Value.int 11 0, Value.str (Str.ofString "/claim/cut.py") 404] }
noncomputable def o61A (P : Params) : Obj := { cls := Value.type "function", data := Data.func { name := Str.ofString "quotedata", qualname := Str.ofString "quotedata", params := dP 7, body := FuncBody.stmts (dB 7), scope := dS 7, globals := 3, closure := [], defaults := Value.none, kwdefaults := Value.none, pyModule := Value.str (Str.ofString "cpy313.smtplib") 337, code := Value.ref 60 } }
noncomputable def o3C (P : Params) : Obj := { cls := Value.type "dict", data := Data.dict #[{ hash := PyData.keyHash P (Str.ofString "__name__"), key := Value.str (Str.ofString "__name__") 165, val := Value.str (Str.ofString "cpy313.stringprep") 406 }, { hash := PyData.keyHash P (Str.ofString "__doc__"), key := Value.str (Str.ofString "__doc__") 166, val := Value.none }, { hash := PyData.keyHash P (Str.ofString "__package__"), key := Value.str (Str.ofString "__package__") 167, val := Value.none }, { hash := PyData.keyHash P (Str.ofString "__loader__"), key := Value.str (Str.ofString "__loader__") 168, val := Value.builtin "__main__.__loader__#opaque" }, { hash := PyData.keyHash P (Str.ofString "__spec__"), key := Value.str (Str.ofString "__spec__") 169, val := Value.none }, { hash := PyData.keyHash P (Str.ofString "__annotations__"), key := Value.str (Str.ofString "__annotations__") 170, val := Value.ref 6 }, { hash := PyData.keyHash P (Str.ofString "__builtins__"), key := Value.str (Str.ofString "__builtins__") 171, val := Value.ref 4 }, { hash := PyData.keyHash P (Str.ofString "__file__"), key := Value.str (Str.ofString "__file__") 173, val := Value.str (Str.ofString "/claim/cut.py") 172 }, { hash := PyData.keyHash P (Str.ofString "__cached__"), key := Value.str (Str.ofString "__cached__") 174, val := Value.none }, { hash := PyData.keyHash P (Str.ofString "_sre"), key := Value.str (Str.ofString "_sre") 275, val := Value.ref 12 }, { hash := PyData.keyHash P (Str.ofString "_quoted"), key := Value.str (Str.ofString "_quoted") 327, val := Value.ref 36 }, { hash := PyData.keyHash P (Str.ofString "_paren_depth"), key := Value.str (Str.ofString "_paren_depth") 336, val := Value.ref 44 }, { hash := PyData.keyHash P (Str.ofString "_twin_re_1"), key := Value.str (Str.ofString "_twin_re_1") 354, val := Value.ref 49 }, { hash := PyData.keyHash P (Str.ofString "_twin_re_2"), key := Value.str (Str.ofString "_twin_re_2") 396, val := Value.ref 54 }, { hash := PyData.keyHash P (Str.ofString "CRLF"), key := Value.str (Str.ofString "CRLF") 398, val := Value.str (Str.ofString "\x0d\n") 397 }, { hash := PyData.keyHash P (Str.ofString "quotedata"), key := Value.str (Str.ofString "quotedata") 405, val := Value.ref 61 }, { hash := PyData.keyHash P (Str.ofString "b1_set"), key := Value.str (Str.ofString "b1_set") 467, val := Value.ref 69 }, { hash := PyData.keyHash P (Str.ofString "in_table_b1"), key := Value.str (Str.ofString "in_table_b1") 474, val := Value.ref 79 }] 18 }
noncomputable def o29C (P : Params) : Obj := { cls := Value.none, data := Data.fields #[Value.int 4 0, Value.int 0 0, Value.ref 43, Value.int 11 0, Value.int 0 0, Value.ref 60, Value.int 15 0, Value.int 0 0, Value.ref 78] }
noncomputable def o62C (P : Params) : Obj := { cls := Value.type "list", data := Data.seq #[Value.int 173 408, Value.int 847 409, Value.int 6150 410, Value.int 6155 411, Value.int 6156 412, Value.int 6157 413, Value.int 8203 414, Value.int 8204 415, Value.int 8205 416, Value.int 8288 417, Value.int 65279 418] }
noncomputable def o63C (P : Params) : Obj := { cls := Value.type "range", data := Data.fields #[Value.int 65024 419, Value.int 65040 420, Value.int 1 421] }
noncomputable def o64C (P : Params) : Obj := { cls := Value.type "list", data := Data.seq #[Value.int 65024 424, Value.int 65025 425, Value.int 65026 426, Value.int 65027 427, Value.int 65028 428, Value.int 65029 429, Value.int 65030 430, Value.int 65031 431, Value.int 65032 432, Value.int 65033 433, Value.int 65034 434, Value.int 65035 435, Value.int 65036 436, Value.int 65037 437, Value.int 65038 438, Value.int 65039 439] 18 }
noncomputable def o65C (P : Params) : Obj := { cls := Value.type "range_iterator", data := Data.fields #[Value.int 65040 0, Value.int 0 0, Value.int 1 0] }
noncomputable def o66C (P : Params) : Obj := { cls := Value.type "tuple", data := Data.seq #[] }
noncomputable def o67C (P : Params) : Obj := { cls := Value.type "StopIteration", data := Data.fields #[Value.ref 66, Value.none, Value.none, Value.none, Value.bool Bool.false, Value.none] }
noncomputable def o68C (P : Params) : Obj := { cls := Value.type "list", data := Data.seq #[Value.int 173 408, Value.int 847 409, Value.int 6150 410, Value.int 6155 411, Value.int 6156 412, Value.int 6157 413, Value.int 8203 414, Value.int 8204 415, Value.int 8205 416, Value.int 8288 417, Value.int 65279 418, Value.int 65024 424, Value.int 65025 425, Value.int 65026 426, Value.int 65027 427, Value.int 65028 428, Value.int 65029 429, Value.int 65030 430, Value.int 65031 431, Value.int 65032 432, Value.int 65033 433, Value.int 65034 434, Value.int 65035 435, Value.int 65036 436, Value.int 65037 437, Value.int 65038 438, Value.int 65039 439] }
noncomputable def o69C (P : Params) : Obj := { cls := Value.type "set", data := Data.set #[(65024, Value.int 65024 424), (65025, Value.int 65025 425), (65026, Value.int 65026 426), (65027, Value.int 65027 427), (65028, Value.int 65028 428), (65029, Value.int 65029 429), (6150, Value.int 6150 410), (65030, Value.int 65030 430), (65031, Value.int 65031 431), (65032, Value.int 65032 432), (65033, Value.int 65033 433), (6155, Value.int 6155 411), (6156, Value.int 6156 412), (6157, Value.int 6157 413), (8203, Value.int 8203 414), (8204, Value.int 8204 415), (8205, Value.int 8205 416), (65034, Value.int 65034 434), (65035, Value.int 65035 435), (65036, Value.int 65036 436), (65037, Value.int 65037 437), (65038, Value.int 65038 438), (65039, Value.int 65039 439), (173, Value.int 173 408), (847, Value.int 847 409), (8288, Value.int 8288 417), (65279, Value.int 65279 418)] 29 { mask := 127, place := #[0, 1, 2, 3, 4, 5, 6, 7, 8, 9, 10, 11, 12, 13, 14, 15, 16, 17, 18, 19, 20, 21, 22, 45, 79, 96, 127], dummies := #[], finger := 0, led := !(P.followText "set-order"), moves := 2, plain := Bool.true } }
noncomputable def o70C (P : Params) : Obj := { cls := Value.type "list_iterator", data := Data.fields #[Value.none, Value.int 27 0] }
noncomputable def o71C (P : Params) : Obj := { cls := Value.type "tuple", data := Data.seq #[] }
noncomputable def o72C (P : Params) : Obj := { cls := Value.type "StopIteration", data := Data.fields #[Value.ref 71, Value.none, Value.none, Value.none, Value.bool Bool.false, Value.none] }
noncomputable def o73C (P : Params) : Obj := { cls := Value.type "tuple", data := Data.seq #[] }
noncomputable def o74C (P : Params) : Obj := { cls := Value.none, data := Data.fields #[] }
noncomputable def o75C (P : Params) : Obj := { cls := Value.type "tuple", data := Data.seq #[Value.str (Str.ofString "code") 471] }
noncomputable def o76C (P : Params) : Obj := { cls := Value.type "tuple", data := Data.seq #[] }
noncomputable def o77C (P : Params) : Obj := { cls := Value.none, data := Data.func { name := Str.ofString "in_table_b1", qualname := Str.ofString "in_table_b1", params := dP 10, body := FuncBody.stmts (dB 10), scope := dS 10, globals := 0, closure := [], defaults := Value.none, kwdefaults := Value.none } }
noncomputable def o78C (P : Params) : Obj := { cls := Value.type "code", data := Data.fields #[Value.str (Str.ofString "in_table_b1") 468, Value.str (Str.ofString "in_table_b1") 469, Value.str (Str.ofString "/claim/cut.py") 470, Value.int 15 0, Value.int 1 0, Value.int 0 0, Value.int 0 0, Value.int 3 0, Value.ref 73, Value.bool Bool.true, Value.int 276 0, Value.ref 74, Value.none, Value.ref 75, Value.ref 76, Value.ref 77, Value.int 472 0, Value.int 15 0, Value.str (Str.ofString "/claim/cut.py") 473] }
noncomputable def o79C (P : Params) : Obj := { cls := Value.type "function", data := Data.func { name := Str.ofString "in_table_b1", qualname := Str.ofString "in_table_b1", params := dP 10, body := FuncBody.stmts (dB 10), scope := dS 10, globals := 3, closure := [], defaults := Value.none, kwdefaults := Value.none, pyModule := Value.str (Str.ofString "cpy313.stringprep") 406, code := Value.ref 78 } }
noncomputable def o3D (P : Params) : Obj := { cls := Value.type "dict", data := Data.dict #[{ hash := PyData.keyHash P (Str.ofString "__name__"), key := Value.str (Str.ofString "__name__") 165, val := Value.str (Str.ofString "cpy313.stringprep") 406 }, { hash := PyData.keyHash P (Str.ofString "__doc__"), key := Value.str (Str.ofString "__doc__") 166, val := Value.none }, { hash := PyData.keyHash P (Str.ofString "__package__"), key := Value.str (Str.ofString "__package__") 167, val := Value.none }, { hash := PyData.keyHash P (Str.ofString "__loader__"), key := Value.str (Str.ofString "__loader__") 168, val := Value.builtin "__main__.__loader__#opaque" }, { hash := PyData.keyHash P (Str.ofString "__spec__"), key := Value.str (Str.ofString "__spec__") 169, val := Value.none }, { hash := PyData.keyHash P (Str.ofString "__annotations__"), key := Value.str (Str.ofString "__annotations__") 170, val := Value.ref 6 }, { hash := PyData.keyHash P (Str.ofString "__builtins__"), key := Value.str (Str.ofString "__builtins__") 171, val := Value.ref 4 }, { hash := PyData.keyHash P (Str.ofString "__file__"), key := Value.str (Str.ofString "__file__") 173, val := Value.str (Str.ofString "/claim/cut.py") 172 }, { hash := PyData.keyHash P (Str.ofString "__cached__"), key := Value.str (Str.ofString "__cached__") 174, val := Value.none }, { hash := PyData.keyHash P (Str.ofString "_sre"), key := Value.str (Str.ofString "_sre") 275, val := Value.ref 12 }, { hash := PyData.keyHash P (Str.ofString "_quoted"), key := Value.str (Str.ofString "_quoted") 327, val := Value.ref 36 }, { hash := PyData.keyHash P (Str.ofString "_paren_depth"), key := Value.str (Str.ofString "_paren_depth") 336, val := Value.ref 44 }, { hash := PyData.keyHash P (Str.ofString "_twin_re_1"), key := Value.str (Str.ofString "_twin_re_1") 354, val := Value.ref 49 }, { hash := PyData.keyHash P (Str.ofString "_twin_re_2"), key := Value.str (Str.ofString "_twin_re_2") 396, val := Value.ref 54 }, { hash := PyData.keyHash P (Str.ofString "CRLF"), key := Value.str (Str.ofString "CRLF") 398, val := Value.str (Str.ofString "\x0d\n") 397 }, { hash := PyData.keyHash P (Str.ofString "quotedata"), key := Value.str (Str.ofString "quotedata") 405, val := Value.ref 61 }, { hash := PyData.keyHash P (Str.ofString "b1_set"), key := Value.str (Str.ofString "b1_set") 467, val := Value.ref 69 }, { hash := PyData.keyHash P (Str.ofString "in_table_b1"), key := Value.str (Str.ofString "in_table_b1") 474, val := Value.ref 79 }, { hash := PyData.keyHash P (Str.ofString "b3_exceptions"), key := Value.str (Str.ofString "b3_exceptions") 2425, val := Value.ref 80 }] 19 }
noncomputable def o3E (P : Params) : Obj := { cls := Value.type "dict", data := Data.dict #[{ hash := PyData.keyHash P (Str.ofString "__name__"), key := Value.str (Str.ofString "__name__") 165, val := Value.str (Str.ofString "law_ta0028_01") 2434 }, { hash := PyData.keyHash P (Str.ofString "__doc__"), key := Value.str (Str.ofString "__doc__") 166, val := Value.none }, { hash := PyData.keyHash P (Str.ofString "__package__"), key := Value.str (Str.ofString "__package__") 167, val := Value.none }, { hash := PyData.keyHash P (Str.ofString "__loader__"), key := Value.str (Str.ofString "__loader__") 168, val := Value.builtin "__main__.__loader__#opaque" }, { hash := PyData.keyHash P (Str.ofString "__spec__"), key := Value.str (Str.ofString "__spec__") 169, val := Value.none }, { hash := PyData.keyHash P (Str.ofString "__annotations__"), key := Value.str (Str.ofString "__annotations__") 170, val := Value.ref 6 }, { hash := PyData.keyHash P (Str.ofString "__builtins__"), key := Value.str (Str.ofString "__builtins__") 171, val := Value.ref 4 }, { hash := PyData.keyHash P (Str.ofString "__file__"), key := Value.str (Str.ofString "__file__") 173, val := Value.str (Str.ofString "/claim/cut.py") 172 }, { hash := PyData.keyHash P (Str.ofString "__cached__"), key := Value.str (Str.ofString "__cached__") 174, val := Value.none }, { hash := PyData.keyHash P (Str.ofString "_sre"), key := Value.str (Str.ofString "_sre") 275, val := Value.ref 12 }, { hash := PyData.keyHash P (Str.ofString "_quoted"), key := Value.str (Str.ofString "_quoted") 327, val := Value.ref 36 }, { hash := PyData.keyHash P (Str.ofString "_paren_depth"), key := Value.str (Str.ofString "_paren_depth") 336, val := Value.ref 44 }, { hash := PyData.keyHash P (Str.ofString "_twin_re_1"), key := Value.str (Str.ofString "_twin_re_1") 354, val := Value.ref 49 }, { hash := PyData.keyHash P (Str.ofString "_twin_re_2"), key := Value.str (Str.ofString "_twin_re_2") 396, val := Value.ref 54 }, { hash := PyData.keyHash P (Str.ofString "CRLF"), key := Value.str (Str.ofString "CRLF") 398, val := Value.str (Str.ofString "\x0d\n") 397 }, { hash := PyData.keyHash P (Str.ofString "quotedata"), key := Value.str (Str.ofString "quotedata") 405, val := Value.ref 61 }, { hash := PyData.keyHash P (Str.ofString "b1_set"), key := Value.str (Str.ofString "b1_set") 467, val := Value.ref 69 }, { hash := PyData.keyHash P (Str.ofString "in_table_b1"), key := Value.str (Str.ofString "in_table_b1") 474, val := Value.ref 79 }, { hash := PyData.keyHash P (Str.ofString "b3_exceptions"), key := Value.str (Str.ofString "b3_exceptions") 2425, val := Value.ref 80 }, { hash := PyData.keyHash P (Str.ofString "map_table_b3"), key := Value.str (Str.ofString "map_table_b3") 2433, val := Value.ref 125 }, { hash := PyData.keyHash P (Str.ofString "_law_piece"), key := Value.str (Str.ofString "_law_piece") 2445, val := Value.ref 132 }, { hash := PyData.keyHash P (Str.ofString "_law_read"), key := Value.str (Str.ofString "_law_read") 2458, val := Value.ref 139 }, { hash := PyData.keyHash P (Str.ofString "_law_prepared"), key := Value.str (Str.ofString "_law_prepared") 2467, val := Value.ref 146 }, { hash := PyData.keyHash P (Str.ofString "law"), key := Value.str (Str.ofString "law") 2473, val := Value.ref 151 }] 24 }
noncomputable def o29E (P : Params) : Obj := { cls := Value.none, data := Data.fields #[Value.int 4 0, Value.int 0 0, Value.ref 43, Value.int 11 0, Value.int 0 0, Value.ref 60, Value.int 15 0, Value.int 0 0, Value.ref 78, Value.int 18 0, Value.int 0 0, Value.ref 124, Value.int 24 0, Value.int 0 0, Value.ref 131, Value.int 32 0, Value.int 0 0, Value.ref 138, Value.int 53 0, Value.int 0 0, Value.ref 145, Value.int 59 0, Value.int 0 0, Value.ref 150] }
noncomputable def o119E (P : Params) : Obj := { cls := Value.type "tuple", data := Data.seq #[] }
noncomputable def o120E (P : Params) : Obj := { cls := Value.none, data := Data.fields #[] }
noncomputable def o121E (P : Params) : Obj := { cls := Value.type "tuple", data := Data.seq #[Value.str (Str.ofString "code") 2429, Value.str (Str.ofString "r") 2430] }
noncomputable def o122E (P : Params) : Obj := { cls := Value.type "tuple", data := Data.seq #[] }
noncomputable def o123E (P : Params) : Obj := { cls := Value.none, data := Data.func { name := Str.ofString "map_table_b3", qualname := Str.ofString "map_table_b3", params := dP 12, body := FuncBody.stmts (dB 12), scope := dS 12, globals := 0, closure := [], defaults := Value.none, kwdefaults := Value.none } }
noncomputable def o124E (P : Params) : Obj := { cls := Value.type "code", data := Data.fields #[Value.str (Str.ofString "map_table_b3") 2426, Value.str (Str.ofString "map_table_b3") 2427, Value.str (Str.ofString "/claim/cut.py") 2428, Value.int 18 0, Value.int 1 0, Value.int 0 0, Value.int 0 0, Value.int 3 0, Value.ref 119, Value.bool Bool.true, Value.int 276 0, Value.ref 120, Value.none, Value.ref 121, Value.ref 122, Value.ref 123, Value.int 2431 0, Value.int 18 0, Value.str (Str.ofString "/claim/cut.py") 2432] }
noncomputable def o125E (P : Params) : Obj := { cls := Value.type "function", data := Data.func { name := Str.ofString "map_table_b3", qualname := Str.ofString "map_table_b3", params := dP 12, body := FuncBody.stmts (dB 12), scope := dS 12, globals := 3, closure := [], defaults := Value.none, kwdefaults := Value.none, pyModule := Value.str (Str.ofString "cpy313.stringprep") 406, code := Value.ref 124 } }
noncomputable def o126E (P : Params) : Obj := { cls := Value.type "tuple", data := Data.seq #[] }
noncomputable def o127E (P : Params) : Obj := { cls := Value.none, data := Data.fields #[] }
noncomputable def o128E (P : Params) : Obj := { cls := Value.type "tuple", data := Data.seq #[Value.str (Str.ofString "cell") 2439, Value.str (Str.ofString "kind") 2440, Value.str (Str.ofString "more") 2441, Value.str (Str.ofString "points") 2442] }
noncomputable def o129E (P : Params) : Obj := { cls := Value.type "tuple", data := Data.seq #[] }
noncomputable def o130E (P : Params) : Obj := { cls := Value.none, data := Data.func { name := Str.ofString "_law_piece", qualname := Str.ofString "_law_piece", params := dP 14, body := FuncBody.stmts (dB 14), scope := dS 14, globals := 0, closure := [], defaults := Value.none, kwdefaults := Value.none } }
noncomputable def o131E (P : Params) : Obj := { cls := Value.type "code", data := Data.fields #[Value.str (Str.ofString "_law_piece") 2436, Value.str (Str.ofString "_law_piece") 2437, Value.str (Str.ofString "/claim/cut.py") 2438, Value.int 24 0, Value.int 1 0, Value.int 0 0, Value.int 0 0, Value.int 3 0, Value.ref 126, Value.bool Bool.true, Value.int 276 0, Value.ref 127, Value.none, Value.ref 128, Value.ref 129, Value.ref 130, Value.int 2443 0, Value.int 24 0, Value.str (Str.ofString "/claim/cut.py") 2444] }
noncomputable def o132E (P : Params) : Obj := { cls := Value.type "function", data := Data.func { name := Str.ofString "_law_piece", qualname := Str.ofString "_law_piece", params := dP 14, body := FuncBody.stmts (dB 14), scope := dS 14, globals := 3, closure := [], defaults := Value.none, kwdefaults := Value.none, pyModule := Value.str (Str.ofString "law_ta0028_01") 2434, code := Value.ref 131 } }
noncomputable def o133E (P : Params) : Obj := { cls := Value.type "tuple", data := Data.seq #[] }
noncomputable def o134E (P : Params) : Obj := { cls := Value.none, data := Data.fields #[] }
noncomputable def o135E (P : Params) : Obj := { cls := Value.type "tuple", data := Data.seq #[Value.str (Str.ofString "signs") 2449, Value.str (Str.ofString "sent") 2450, Value.str (Str.ofString "size") 2451, Value.str (Str.ofString "behind") 2452, Value.str (Str.ofString "place") 2453, Value.str (Str.ofString "depth") 2454, Value.str (Str.ofString "outside") 2455] }
noncomputable def o136E (P : Params) : Obj := { cls := Value.type "tuple", data := Data.seq #[] }
noncomputable def o137E (P : Params) : Obj := { cls := Value.none, data := Data.func { name := Str.ofString "_law_read", qualname := Str.ofString "_law_read", params := dP 15, body := FuncBody.stmts (dB 15), scope := dS 15, globals := 0, closure := [], defaults := Value.none, kwdefaults := Value.none } }
noncomputable def o138E (P : Params) : Obj := { cls := Value.type "code", data := Data.fields #[Value.str (Str.ofString "_law_read") 2446, Value.str (Str.ofString "_law_read") 2447, Value.str (Str.ofString "/claim/cut.py") 2448, Value.int 32 0, Value.int 2 0, Value.int 0 0, Value.int 0 0, Value.int 3 0, Value.ref 133, Value.bool Bool.true, Value.int 276 0, Value.ref 134, Value.none, Value.ref 135, Value.ref 136, Value.ref 137, Value.int 2456 0, Value.int 32 0, Value.str (Str.ofString "/claim/cut.py") 2457] }
noncomputable def o139E (P : Params) : Obj := { cls := Value.type "function", data := Data.func { name := Str.ofString "_law_read", qualname := Str.ofString "_law_read", params := dP 15, body := FuncBody.stmts (dB 15), scope := dS 15, globals := 3, closure := [], defaults := Value.none, kwdefaults := Value.none, pyModule := Value.str (Str.ofString "law_ta0028_01") 2434, code := Value.ref 138 } }
noncomputable def o140E (P : Params) : Obj := { cls := Value.type "tuple", data := Data.seq #[] }
noncomputable def o141E (P : Params) : Obj := { cls := Value.none, data := Data.fields #[] }
noncomputable def o142E (P : Params) : Obj := { cls := Value.type "tuple", data := Data.seq #[Value.str (Str.ofString "text") 2462, Value.str (Str.ofString "kept") 2463, Value.str (Str.ofString "sign") 2464] }
noncomputable def o143E (P : Params) : Obj := { cls := Value.type "tuple", data := Data.seq #[] }
noncomputable def o144E (P : Params) : Obj := { cls := Value.none, data := Data.func { name := Str.ofString "_law_prepared", qualname := Str.ofString "_law_prepared", params := dP 16, body := FuncBody.stmts (dB 16), scope := dS 16, globals := 0, closure := [], defaults := Value.none, kwdefaults := Value.none } }
noncomputable def o145E (P : Params) : Obj := { cls := Value.type "code", data := Data.fields #[Value.str (Str.ofString "_law_prepared") 2459, Value.str (Str.ofString "_law_prepared") 2460, Value.str (Str.ofString "/claim/cut.py") 2461, Value.int 53 0, Value.int 1 0, Value.int 0 0, Value.int 0 0, Value.int 3 0, Value.ref 140, Value.bool Bool.true, Value.int 276 0, Value.ref 141, Value.none, Value.ref 142, Value.ref 143, Value.ref 144, Value.int 2465 0, Value.int 53 0, Value.str (Str.ofString "/claim/cut.py") 2466] }
noncomputable def o146E (P : Params) : Obj := { cls := Value.type "function", data := Data.func { name := Str.ofString "_law_prepared", qualname := Str.ofString "_law_prepared", params := dP 16, body := FuncBody.stmts (dB 16), scope := dS 16, globals := 3, closure := [], defaults := Value.none, kwdefaults := Value.none, pyModule := Value.str (Str.ofString "law_ta0028_01") 2434, code := Value.ref 145 } }
noncomputable def o147E (P : Params) : Obj := { cls := Value.type "tuple", data := Data.seq #[] }
noncomputable def o148E (P : Params) : Obj := { cls := Value.none, data := Data.fields #[] }
noncomputable def o149E (P : Params) : Obj := { cls := Value.none, data := Data.func { name := Str.ofString "law", qualname := Str.ofString "law", params := dP 17, body := FuncBody.stmts (dB 17), scope := dS 17, globals := 0, closure := [], defaults := Value.none, kwdefaults := Value.none } }
noncomputable def o150E (P : Params) : Obj := { cls := Value.type "code", data := Data.fields #[Value.str (Str.ofString "law") 2468, Value.str (Str.ofString "law") 2469, Value.str (Str.ofString "/claim/cut.py") 2470, Value.int 59 0, Value.int 1 0, Value.int 0 0, Value.int 0 0, Value.int 3 0, Value.ref 147, Value.bool Bool.true, Value.int 276 0, Value.ref 148, Value.none, Value.none, Value.none, Value.ref 149, Value.int 2471 0, Value.int 59 0, Value.str (Str.ofString "/claim/cut.py") 2472] }
noncomputable def o151E (P : Params) : Obj := { cls := Value.type "function", data := Data.func { name := Str.ofString "law", qualname := Str.ofString "law", params := dP 17, body := FuncBody.stmts (dB 17), scope := dS 17, globals := 3, closure := [], defaults := Value.none, kwdefaults := Value.none, pyModule := Value.str (Str.ofString "law_ta0028_01") 2434, code := Value.ref 150 } }
noncomputable def lS (P : Params) : List Obj := [o0S P, o1S P, o2S P, o3S P, o4S P, o5S P, o6S P, o7S P, o8S P, o9S P, o10S P, o11S P, o12S P, o13S P, o14S P, o15S P, o16S P, o17S P, o18S P, o19S P, o20S P, o21S P, o22S P, o23S P, o24S P, o25S P, o26S P, o27S P]
noncomputable def sS (w : World) (os : OsState) : Shared := ⟨⟨⟨lS w.params⟩, {}⟩, ⟨[]⟩, {}, 276, os⟩
noncomputable def lB (P : Params) : List Obj := [o0S P, o1S P, o2S P, o3S P, o4S P, o5S P, o6S P, o7S P, o8S P, o9S P, o10S P, o11S P, o12S P, o13S P, o14S P, o15S P, o16S P, o17S P, o18S P, o19S P, o20S P, o21S P, o22S P, o23S P, o24S P, o25S P, o26S P, o27S P, o28P P, o29P P, o30P P, o31P P]
noncomputable def sB (w : World) (os : OsState) : Shared := ⟨⟨⟨lB w.params⟩, {}⟩, ⟨[]⟩, {}, 282, os⟩
noncomputable def lA (P : Params) : List Obj := [o0S P, o1S P, o2S P, o3A P, o4S P, o5S P, o6S P, o7S P, o8S P, o9S P, o10S P, o11S P, o12S P, o13S P, o14S P, o15S P, o16S P, o17S P, o18S P, o19S P, o20S P, o21S P, o22S P, o23S P, o24S P, o25S P, o26S P, o27S P, o28P P, o29A P, o30P P, o31P P, o32A P, o33A P, o34A P, o35A P, o36A P, o37A P, o38A P, o39A P, o40A P, o41A P, o42A P, o43A P, o44A P, o45A P, o46A P, o47A P, o48A P, o49A P, o50A P, o51A P, o52A P, o53A P, o54A P, o55A P, o56A P, o57A P, o58A P, o59A P, o60A P, o61A P]
noncomputable def sA (w : World) (os : OsState) : Shared := ⟨⟨⟨lA w.params⟩, {}⟩, ⟨[]⟩, {}, 408, os⟩
noncomputable def lC (P : Params) : List Obj := [o0S P, o1S P, o2S P, o3C P, o4S P, o5S P, o6S P, o7S P, o8S P, o9S P, o10S P, o11S P, o12S P, o13S P, o14S P, o15S P, o16S P, o17S P, o18S P, o19S P, o20S P, o21S P, o22S P, o23S P, o24S P, o25S P, o26S P, o27S P, o28P P, o29C P, o30P P, o31P P, o32A P, o33A P, o34A P, o35A P, o36A P, o37A P, o38A P, o39A P, o40A P, o41A P, o42A P, o43A P, o44A P, o45A P, o46A P, o47A P, o48A P, o49A P, o50A P, o51A P, o52A P, o53A P, o54A P, o55A P, o56A P, o57A P, o58A P, o59A P, o60A P, o61A P, o62C P, o63C P, o64C P, o65C P, o66C P, o67C P, o68C P, o69C P, o70C P, o71C P, o72C P, o73C P, o74C P, o75C P, o76C P, o77C P, o78C P, o79C P]
noncomputable def sC (w : World) (os : OsState) : Shared := ⟨⟨⟨lC w.params⟩, {}⟩, ⟨[]⟩, {}, 475, os⟩
noncomputable def lD0 (P : Params) (xs : List Obj) : List Obj := [o0S P, o1S P, o2S P, o3D P, o4S P, o5S P, o6S P, o7S P, o8S P, o9S P, o10S P, o11S P, o12S P, o13S P, o14S P, o15S P, o16S P, o17S P, o18S P, o19S P, o20S P, o21S P, o22S P, o23S P, o24S P, o25S P, o26S P, o27S P, o28P P, o29C P, o30P P, o31P P, o32A P, o33A P, o34A P, o35A P, o36A P, o37A P, o38A P, o39A P, o40A P, o41A P, o42A P, o43A P, o44A P, o45A P, o46A P, o47A P, o48A P, o49A P, o50A P, o51A P, o52A P, o53A P, o54A P, o55A P, o56A P, o57A P, o58A P, o59A P, o60A P, o61A P, o62C P, o63C P, o64C P, o65C P, o66C P, o67C P, o68C P, o69C P, o70C P, o71C P, o72C P, o73C P, o74C P, o75C P, o76C P, o77C P, o78C P, o79C P] ++ xs
noncomputable def lE0 (P : Params) : List Obj := [o0S P, o1S P, o2S P, o3E P, o4S P, o5S P, o6S P, o7S P, o8S P, o9S P, o10S P, o11S P, o12S P, o13S P, o14S P, o15S P, o16S P, o17S P, o18S P, o19S P, o20S P, o21S P, o22S P, o23S P, o24S P, o25S P, o26S P, o27S P, o28P P, o29E P, o30P P, o31P P, o32A P, o33A P, o34A P, o35A P, o36A P, o37A P, o38A P, o39A P, o40A P, o41A P, o42A P, o43A P, o44A P, o45A P, o46A P, o47A P, o48A P, o49A P, o50A P, o51A P, o52A P, o53A P, o54A P, o55A P, o56A P, o57A P, o58A P, o59A P, o60A P, o61A P, o62C P, o63C P, o64C P, o65C P, o66C P, o67C P, o68C P, o69C P, o70C P, o71C P, o72C P, o73C P, o74C P, o75C P, o76C P, o77C P, o78C P, o79C P]
noncomputable def lE1 (P : Params) : List Obj := [o119E P, o120E P, o121E P, o122E P, o123E P, o124E P, o125E P, o126E P, o127E P, o128E P, o129E P, o130E P, o131E P, o132E P, o133E P, o134E P, o135E P, o136E P, o137E P, o138E P, o139E P, o140E P, o141E P, o142E P, o143E P, o144E P, o145E P, o146E P, o147E P, o148E P, o149E P, o150E P, o151E P]
end Mine

end
/-! ## HeadEv -/
section
open PySem PySem.W PyProof.Rows
set_option maxRecDepth 100000
set_option maxHeartbeats 0
namespace Mine
abbrev pT : Program := PySem.Challenge.pw_ta0028_01
/-- the library's own quick twins of denote, the table, execs -/
noncomputable def MQ (w : World) : Model := ⟨PySem.W.Fast.tw11892475500146522536 PySem.W.Fast.tw14364793385576792824, pT, w⟩
theorem MQ_eq (w : World) : MQ w = model pT w := by
  unfold MQ model
  rw [table_eq_tree, PySem.W.Fast.te11892475500146522536, PySem.W.Fast.te14364793385576792824]
noncomputable abbrev execsQ := PySem.W.Fast.tw12563942051412417395
theorem execsQ_eq : @execs = execsQ := PySem.W.Fast.te12563942051412417395
noncomputable def envT : Env := { scope := pT.main.scope, locals := mainNs, globals := mainNs, cells := [], code := .ref 30, frame := some 31 }
noncomputable def Γ0 : Ctx := (Ctx.of (.builtin "claim.caller" {}) []).enter (.body bd envT) none default
noncomputable def startOs : OsState := (start (opening pT)).1.os
noncomputable def heS (P : Params) : Heap := ⟨⟨lS P⟩, {}⟩
end Mine

end
/-! ## HeadPieces -/
section
open PySem PySem.W PyProof.Rows
set_option maxRecDepth 100000
set_option maxHeartbeats 0
namespace Mine
noncomputable def preT : Sem (Value × Addr) := do
  let code ← moduleCode pT.main
  let frame ← newBodyFrame code mainNs mainNs
  pure (code, frame)
abbrev Γs : Ctx := Ctx.of (.builtin "claim.caller" {}) []
theorem evOpen0 (w : World) : (PySem.W.Fast.tw10274390034422433532 PySem.W.Fast.tw14364793385576792824 (opening pT) w 1000 (start (opening pT)).1 (start (opening pT)).2).bind (fenceModules? pT) = some ⟨heS w.params, ⟨[]⟩, {}, 276, startOs⟩ := by
  kernel_rfl
theorem evOpen (w : World) : fencedOpening table pT w 1000 = some ⟨heS w.params, ⟨[]⟩, {}, 276, startOs⟩ := by
  unfold fencedOpening
  rw [table_eq_tree, PySem.W.Fast.te14364793385576792824, PySem.W.Fast.te10274390034422433532]
  exact evOpen0 w
theorem evPre (w : World) (os : OsState) : evT (MQ w) (evC (MQ w) 100000 1000) Γs 100000 preT default (sS w os) = some (.ok (.ref 30, 31), default, sB w os) := by
  kernel_rfl
theorem evBlock (w : World) (os : OsState) : evT (MQ w) (evC (MQ w) 100000 1000) Γ0 100000 (blockStart bd envT) default (sB w os) = some (.ok (), default, sB w os) := by
  kernel_rfl
theorem evA (w : World) (os : OsState) : evT (MQ w) (evC (MQ w) 100000 1000) Γ0 100000 (execsQ (bd.take 9) envT) default (sB w os) = some (.ok .next, ⟨13, 0, 13, 8⟩, sA w os) := by
  kernel_rfl
def evCP (os : OsState) (w : World) : Prop := evT (MQ w) (evC (MQ w) 100000 1000) Γ0 100000 (execsQ ((bd.drop 9).take 2) envT) ⟨13, 0, 13, 8⟩ (sA w os) = some (.ok .next, ⟨15, 0, 16, 30⟩, sC w os)
theorem evC00 (w : World) (os : OsState) : evCP os ((w.withFollow "set-order" false).withFollow "special-get-raises" false) := by
  unfold evCP; kernel_rfl
theorem evC01 (w : World) (os : OsState) : evCP os ((w.withFollow "set-order" false).withFollow "special-get-raises" true) := by
  unfold evCP; kernel_rfl
theorem evC10 (w : World) (os : OsState) : evCP os ((w.withFollow "set-order" true).withFollow "special-get-raises" false) := by
  unfold evCP; kernel_rfl
theorem evC11 (w : World) (os : OsState) : evCP os ((w.withFollow "set-order" true).withFollow "special-get-raises" true) := by
  unfold evCP; kernel_rfl
theorem follow_is {w : World} {r : String} {b : Bool} (h : w.params.followText r = b) : w.withFollow r b = w :=
  (congrArg (w.withFollow r) h.symm).trans (World.withFollow_self w r)
theorem evCall (w : World) (os : OsState) : evCP os w := by
  cases hb : w.params.followText "set-order" <;> cases hc : w.params.followText "special-get-raises"
  · have h := evC00 w os
    rw [follow_is hb, follow_is hc] at h; exact h
  · have h := evC01 w os
    rw [follow_is hb, follow_is hc] at h; exact h
  · have h := evC10 w os
    rw [follow_is hb, follow_is hc] at h; exact h
  · have h := evC11 w os
    rw [follow_is hb, follow_is hc] at h; exact h
/-- the objects that the long display makes -/
def ys (f : Nat → Obj) : List Obj := [f 80, f 81, f 82, f 83, f 84, f 85, f 86, f 87, f 88, f 89, f 90, f 91, f 92, f 93, f 94, f 95, f 96, f 97, f 98, f 99, f 100, f 101, f 102, f 103, f 104, f 105, f 106, f 107, f 108, f 109, f 110, f 111, f 112, f 113, f 114, f 115, f 116, f 117, f 118]
noncomputable def sD (f : Nat → Obj) (w : World) (os : OsState) : Shared := ⟨⟨⟨lC w.params ++ ys f⟩, {}⟩, ⟨[]⟩, {}, 2425, os⟩
noncomputable def lE (P : Params) (f : Nat → Obj) : List Obj := lE0 P ++ (ys f ++ lE1 P)
noncomputable def sE (f : Nat → Obj) (w : World) (os : OsState) : Shared := ⟨⟨⟨lE w.params f⟩, {}⟩, ⟨[]⟩, {}, 2474, os⟩
noncomputable def postT : Sem Flow := do
  standAt ⟨17, 0, 17, 13⟩
  bindName envT (Str.ofString "b3_exceptions") (.ref 80)
  execsQ (bd.drop 12) envT
theorem evE (f : Nat → Obj) (w : World) (os : OsState) (p : Pos) : evT (MQ w) (evC (MQ w) 100000 1000) Γ0 100000 postT p (sD f w os) = some (.ok .next, ⟨59, 0, 76, 75⟩, sE f w os) := by
  kernel_rfl
end Mine

end
/-! ## HeadB3 -/
section
open PySem PySem.W PyProof.Rows
set_option maxRecDepth 100000
namespace Mine

/-- h stands over h0, with m objects more -/
structure Over (h0 h : Heap) (m : Nat) : Prop where
  life : h.life = h0.life
  size : h.objs.size = h0.objs.size + m
  old : ∀ a, a < h0.objs.size → h.objs[a]? = h0.objs[a]?
theorem Over.refl (h0 : Heap) : Over h0 h0 0 := ⟨rfl, rfl, fun _ _ => rfl⟩
theorem Over.push {h0 h : Heap} {m : Nat} (I : Over h0 h m) (o : Obj) : Over h0 (h.push o) (m + 1) := by
  obtain ⟨objs, life⟩ := h
  refine ⟨I.life, ?_, fun a ha => ?_⟩
  · have := I.size
    simp only [Heap.push, Array.size_push] at this ⊢; omega
  · have h1 := I.size
    have h2 := I.old a ha
    simp only [Heap.push] at h1 h2 ⊢
    rw [Array.getElem?_push, if_neg (by omega)]; exact h2
theorem Over.update {h0 h : Heap} {m : Nat} (I : Over h0 h m) {d : Addr} (hd : h0.objs.size ≤ d) (f : Obj → Obj) : Over h0 (h.update d f) m := by
  obtain ⟨objs, life⟩ := h
  refine ⟨I.life, ?_, fun a ha => ?_⟩
  · have := I.size
    simp only [Heap.update, Array.size_modify] at this ⊢; exact this
  · have h2 := I.old a ha
    simp only [Heap.update] at h2 ⊢
    rw [Array.getElem?_modify, if_neg (by omega)]; exact h2

inductive EntL : List DictEntry → List (Int × Str) → Prop
  | nil : EntL [] []
  | cons {k : Int} {x : Str} {t u : Tok} {es : List DictEntry} {l : List (Int × Str)} : EntL es l → EntL (⟨hashInt k, .int k t, .str x u⟩ :: es) ((k, x) :: l)
theorem EntL.append {es es' : List DictEntry} {l l' : List (Int × Str)} (h : EntL es l) (h' : EntL es' l') : EntL (es ++ es') (l ++ l') := by
  induction h with
  | nil => exact h'
  | cons _ ih => exact .cons ih
theorem EntL.snoc {es : List DictEntry} {l : List (Int × Str)} (h : EntL es l) (k : Int) (x : Str) (t u : Tok) : EntL (es ++ [⟨hashInt k, .int k t, .str x u⟩]) (l ++ [(k, x)]) := h.append (.cons .nil)
theorem EntL.length {es : List DictEntry} {l : List (Int × Str)} (h : EntL es l) : es.length = l.length := by
  induction h with
  | nil => rfl
  | cons _ ih => simp [ih]
theorem EntL.key {es : List DictEntry} {l : List (Int × Str)} (h : EntL es l) : ∀ e ∈ es, ∃ k x t u, e = ⟨hashInt k, .int k t, .str x u⟩ ∧ (k, x) ∈ l := by
  induction h with
  | nil => intro e he; cases he
  | cons _ ih =>
    intro e he
    rcases List.mem_cons.mp he with rfl | he
    · exact ⟨_, _, _, _, rfl, .head _⟩
    · obtain ⟨k, x, t, u, a, b⟩ := ih e he; exact ⟨k, x, t, u, a, .tail _ b⟩
theorem EntL.keys {es : List DictEntry} {l : List (Int × Str)} (h : EntL es l) : IntKeys es.toArray := fun e he => by
  obtain ⟨k, x, t, u, rfl, _⟩ := h.key e (List.mem_toArray.mp he); exact ⟨k, t, rfl, rfl⟩
theorem EntL.fresh {es : List DictEntry} {l : List (Int × Str)} (h : EntL es l) {k : Int} (hk : k ∉ l.map (·.1)) : es.toArray.findIdx? (fun e => Value.isInt k e.key) = none :=
  Array.findIdx?_eq_none_iff.mpr fun e he => by
    obtain ⟨k', x, t, u, rfl, hm⟩ := h.key e (List.mem_toArray.mp he)
    show (k' == k) = false
    rw [beq_eq_false_iff_ne]
    rintro rfl
    exact hk (List.mem_map.mpr ⟨_, hm, rfl⟩)

abbrev dictOb (es : Array DictEntry) (n : Nat) : Obj := { cls := .type "dict", data := .dict es n }
def Dct (h : Heap) (d : Addr) (l : List (Int × Str)) : Prop := ∃ es n, EntL es l ∧ h.get? d = some (dictOb es.toArray n)
theorem Dct.push {h : Heap} {d : Addr} {l : List (Int × Str)} (D : Dct h d l) (o : Obj) : Dct (h.push o) d l :=
  let ⟨es, n, e, g⟩ := D; ⟨es, n, e, Heap.get?_push_of_some o g⟩
theorem Dct.update {h : Heap} {d d' : Addr} {l : List (Int × Str)} (D : Dct h d l) (hd : d ≠ d') (f : Obj → Obj) : Dct (h.update d' f) d l :=
  let ⟨es, n, e, g⟩ := D; ⟨es, n, e, (Heap.get?_update_ne _ _ _ _ hd).trans g⟩

section
variable {prog : Program} {w : World} {A : Around} {E : Value → Shared → Prop} {s : Shared}

theorem dictAdd {d : Addr} {es : List DictEntry} {n : Nat} {l : List (Int × Str)} {k : Int} {x : Str} {t u : Tok} {Q : Unit → Shared → Prop}
    (hl : EntL es l) (ho : s.heap.get? d = some (dictOb es.toArray n)) (hz : l.length ≤ 4096)
    (h : ∀ h', Dct h' d (l ++ [(k, x)]) → h' = s.heap.update d (Obj.mapDictKeys (·.push ⟨hashInt k, .int k t, .str x u⟩)) → Q () { s with heap := h' }) :
    wpAny (model prog w) A (updateDictKeys d (·.push ⟨hashInt k, .int k t, .str x u⟩) none) Q E s := by
  refine wpAny_updateDictKeys ho rfl (h _ ⟨es ++ [⟨hashInt k, .int k t, .str x u⟩], n + 1, hl.snoc .., ?_⟩ rfl) ?_ ?_
  · rw [Heap.get?_update_self _ ho rfl]
    simp [Obj.mapDictKeys]
  · show es.toArray.size ≤ sizeLine
    have := hl.length
    rw [List.size_toArray, sizeLine_eq]; omega
  · simp
theorem dictAddP {d : Addr} {part : Option Value} {es : List DictEntry} {n : Nat} {l : List (Int × Str)} {k : Int} {x : Str} {t u : Tok} {Q : Unit → Shared → Prop}
    (hl : EntL es l) (ho : s.heap.get? d = some (dictOb es.toArray n)) (hz : l.length ≤ 4096)
    (h : ∀ h', Dct h' d (l ++ [(k, x)]) → h' = s.heap.update d (Obj.mapDictKeys (·.push ⟨hashInt k, .int k t, .str x u⟩)) → Q () { s with heap := h' }) :
    wpAny (model prog w) A (updateDictKeys d (·.push ⟨hashInt k, .int k t, .str x u⟩) part) Q E s := by
  refine wpAny_updateDictKeys ho rfl (h _ ⟨es ++ [⟨hashInt k, .int k t, .str x u⟩], n + 1, hl.snoc .., ?_⟩ rfl) ?_ ?_
  · rw [Heap.get?_update_self _ ho rfl]
    simp [Obj.mapDictKeys]
  · show es.toArray.size ≤ sizeLine
    have := hl.length
    rw [List.size_toArray, sizeLine_eq]; omega
  · simp

theorem dictSet_new {d : Addr} {l : List (Int × Str)} {k : Int} {x : Str} {t u : Tok} {Q : Unit → Shared → Prop} (D : Dct s.heap d l) (hk : k ∉ l.map (·.1)) (hz : l.length ≤ 4096)
    (h : ∀ h', Dct h' d (l ++ [(k, x)]) → (∃ f, h' = s.heap.update d f) → Q () { s with heap := h', toks := s.toks + 1 }) :
    wpAny (model prog w) A (dictSet d (.int k t) (.str x u)) Q E s := by
  obtain ⟨es, n, hl, ho⟩ := D
  unfold dictSet
  refine wpAny_holding (wpAny_bind (wpAny_pyHash_int ?_))
  unfold dictSetHashed
  refine wpAny_holding (wpAny_bind (wpAny_dictFind_int (s := { s with toks := s.toks + 1 }) ho rfl hl.keys ?_))
  rw [hl.fresh hk]
  exact wpAny_bind (wpAny_rule (dictAddP (s := { s with toks := s.toks + 1 }) hl ho hz fun h' a b => h h' a ⟨_, b⟩))

theorem dictPut_new {d : Addr} {l : List (Int × Str)} {k : Int} {x : Str} {t u : Tok} {Q : Unit → Shared → Prop} (D : Dct s.heap d l) (hk : k ∉ l.map (·.1)) (hz : l.length ≤ 4096)
    (h : ∀ h', Dct h' d (l ++ [(k, x)]) → (∃ f, h' = s.heap.update d f) → Q () { s with heap := h' }) :
    wpAny (model prog w) A (dictPut d (hashInt k) (.int k t) (.str x u)) Q E s := by
  obtain ⟨es, n, hl, ho⟩ := D
  unfold dictPut
  refine wpAny_bind (wpAny_dictFind_int ho rfl hl.keys ?_)
  rw [hl.fresh hk]
  exact dictAdd hl ho hz fun h' a b => h h' a ⟨_, b⟩

/-- one pair of the display, as a tree -/
def pr (pos : Pos) (x : Int × Str) : Sem Value × Sem Value := (mkInt x.1, do let v ← mkText x.2; standAt pos; pure v)

theorem wpAny_fresh' {Q : Tok → Shared → Prop} (h : Q s.toks { s with toks := s.toks + 1 }) : wpAny (model prog w) A fresh Q E s := fun _ _ _ => h
theorem key_tree {k : Int} {Q : Value → Shared → Prop} (h : Q (.int k s.toks) { s with toks := s.toks + 1 }) : wpAny (model prog w) A (mkInt k) Q E s := fun _ _ _ => h
theorem val_tree {pos : Pos} {x : Str} {Q : Value → Shared → Prop} (h : Q (.str x s.toks) { s with toks := s.toks + 1 }) : wpAny (model prog w) A (do let v ← mkText x; standAt pos; pure v) Q E s := fun _ _ _ => h

/-- the long road: a pair is reckoned, then laid -/
theorem long_road {pos : Pos} {h0 : Heap} {d : Addr} (hd : h0.objs.size ≤ d) {Q : PUnit → Shared → Prop} :
    ∀ (r l : List (Int × Str)) (s : Shared) (m : Nat), Over h0 s.heap m → Dct s.heap d l → ((l ++ r).map (·.1)).Nodup → (l ++ r).length ≤ 4096 →
      (∀ h', Over h0 h' m → Dct h' d (l ++ r) → (∀ d' l', d' ≠ d → Dct s.heap d' l' → Dct h' d' l') → Q ⟨⟩ { s with heap := h', toks := s.toks + 3 * r.length }) →
      wpAny (model prog w) A (forIn (r.map (pr pos)) PUnit.unit fun x _ => match x with
        | (k, v) => do
          let kv ← k
          let vv ← holding [kv] v
          holding [kv, vv] (dictSet d kv vv)
          pure (ForInStep.yield PUnit.unit)) Q E s
  | [], l, s, m, I, D, hn, hz, h => by
    rw [List.map_nil, List.forIn_nil]
    have := h s.heap I (by rw [List.append_nil]; exact D) fun _ _ _ x => x
    exact wpAny_pure (by simpa using this)
  | (k, x) :: r, l, s, m, I, D, hn, hz, h => by
    rw [List.map_cons, List.forIn_cons]
    have hk : k ∉ l.map (·.1) := fun q => by
      rw [List.map_append, List.nodup_append] at hn
      exact hn.2.2 _ q _ (.head _) rfl
    refine wpAny_bind (wpAny_bind (key_tree (wpAny_bind (wpAny_holding (val_tree (wpAny_bind (wpAny_holding (dictSet_new D hk (by simp at hz; omega) fun h' D' ⟨f, e⟩ => wpAny_pure ?_))))))))
    subst e
    refine long_road hd r (l ++ [(k, x)]) _ m (I.update hd f) D' (by simpa using hn) (by simpa using hz) fun h₂ I₂ D₂ k₂ => ?_
    have := h h₂ I₂ (by simpa using D₂) fun d' l' ne x => k₂ d' l' ne (x.update ne f)
    simp only [List.length_cons, Nat.mul_add, Nat.mul_one] at this ⊢
    have e : s.toks + 1 + 1 + 1 + 3 * r.length = s.toks + (3 * r.length + 3) := by omega
    rw [e]; exact this

/-- the short road: first all pairs are reckoned .. -/
inductive PairsL : List (Value × Value) → List (Int × Str) → Prop
  | nil : PairsL [] []
  | cons {k : Int} {x : Str} {t u : Tok} {vs : List (Value × Value)} {l : List (Int × Str)} : PairsL vs l → PairsL ((.int k t, .str x u) :: vs) ((k, x) :: l)
theorem short_reckon {pos : Pos} {Q : List (Value × Value) → Shared → Prop} :
    ∀ (r : List (Int × Str)) (s : Shared), (∀ vs, PairsL vs r → Q vs { s with toks := s.toks + 2 * r.length }) → wpAny (model prog w) A (evalPairs (r.map (pr pos))) Q E s
  | [], s, h => by
    have := h [] .nil
    exact wpAny_pure (by simpa using this)
  | (k, x) :: r, s, h => by
    show wpAny _ _ (do
      let kv ← mkInt k
      let vv ← holding [kv] (do let v ← mkText x; standAt pos; pure v)
      return (kv, vv) :: (← holding [kv, vv] (evalPairs (r.map (pr pos))))) _ _ _
    refine wpAny_bind (key_tree (wpAny_bind (wpAny_holding (val_tree (wpAny_bind (wpAny_holding (short_reckon r _ fun vs P => wpAny_pure ?_)))))))
    have := h _ (P.cons (k := k) (x := x) (t := s.toks) (u := s.toks + 1))
    simp only [List.length_cons, Nat.mul_add, Nat.mul_one] at this ⊢
    have e : s.toks + 1 + 1 + 2 * r.length = s.toks + (2 * r.length + 2) := by omega
    rw [e]; exact this
/-- .. then laid -/
theorem short_lay {h0 : Heap} {d : Addr} (hd : h0.objs.size ≤ d) {Q : PUnit → Shared → Prop} :
    ∀ (vs : List (Value × Value)) (r l : List (Int × Str)) (s : Shared) (m : Nat), PairsL vs r → Over h0 s.heap m → Dct s.heap d l → ((l ++ r).map (·.1)).Nodup → (l ++ r).length ≤ 4096 →
      (∀ h', Over h0 h' m → Dct h' d (l ++ r) → (∀ d' l', d' ≠ d → Dct s.heap d' l' → Dct h' d' l') → Q ⟨⟩ { s with heap := h', toks := s.toks + r.length }) →
      wpAny (model prog w) A (forIn vs PUnit.unit fun x _ => match x with
        | (k, v) => do
          dictSet d k v
          pure (ForInStep.yield PUnit.unit)) Q E s
  | _, _, l, s, m, .nil, I, D, hn, hz, h => by
    rw [List.forIn_nil]
    have := h s.heap I (by rw [List.append_nil]; exact D) fun _ _ _ x => x
    exact wpAny_pure (by simpa using this)
  | _, _, l, s, m, @PairsL.cons k x t u vs r P, I, D, hn, hz, h => by
    rw [List.forIn_cons]
    have hk : k ∉ l.map (·.1) := fun q => by
      rw [List.map_append, List.nodup_append] at hn
      exact hn.2.2 _ q _ (.head _) rfl
    refine wpAny_bind (wpAny_bind (dictSet_new D hk (by simp at hz; omega) fun h' D' ⟨f, e⟩ => wpAny_pure ?_))
    subst e
    refine short_lay hd vs r (l ++ [(k, x)]) _ m P (I.update hd f) D' (by simpa using hn) (by simpa using hz) fun h₂ I₂ D₂ k₂ => ?_
    have := h h₂ I₂ (by simpa using D₂) fun d' l' ne x => k₂ d' l' ne (x.update ne f)
    simp only [List.length_cons] at this ⊢
    have e : s.toks + 1 + r.length = s.toks + (r.length + 1) := by omega
    rw [e]; exact this

theorem subDict_wp {pos : Pos} {h0 : Heap} {r : List (Int × Str)} {m : Nat} {Q : Addr → Shared → Prop} (I : Over h0 s.heap m) (hn : (r.map (·.1)).Nodup) (hz : r.length ≤ 4096)
    (h : ∀ h', Over h0 h' (m + 1) → Dct h' (h0.objs.size + m) r → (∀ d' l', Dct s.heap d' l' → Dct h' d' l') → Q (h0.objs.size + m) { s with heap := h', toks := s.toks + 3 * r.length }) :
    wpAny (model prog w) A (subDict (r.map (pr pos))) Q E s := by
  have hs := I.size
  have hpush : Dct (s.heap.push (dictOb #[] 0)) (h0.objs.size + m) [] := ⟨[], 0, .nil, by rw [← hs]; exact Heap.get?_push_size _ rfl⟩
  have ne : ∀ d' l', Dct s.heap d' l' → d' ≠ h0.objs.size + m := fun d' l' ⟨_, _, _, g⟩ q => by
    have := Heap.lt_size g
    rw [q, hs] at this; exact Nat.lt_irrefl _ this
  unfold subDict
  refine wpAny_bind (wpAny_alloc ?_)
  rw [hs]
  refine wpAny_bind (wpAny_holding ?_)
  by_cases hl : (r.map (pr pos)).length ≤ 15
  · rw [if_pos hl]
    refine wpAny_bind (short_reckon r _ fun vs P => wpAny_holding (wpAny_bind ?_))
    refine short_lay (h0 := h0) (Nat.le_add_right _ _) vs r [] _ (m + 1) P (I.push _) hpush (by simpa using hn) (by simpa using hz) fun h' I' D' k' => wpAny_pure (wpAny_pure ?_)
    have := h h' I' (by simpa using D') fun d' l' x => k' d' l' (ne _ _ x) (x.push _)
    have e : s.toks + 2 * r.length + r.length = s.toks + 3 * r.length := by omega
    show Q _ { s with heap := h', toks := s.toks + 2 * r.length + r.length }
    rw [e]; exact this
  · rw [if_neg hl]
    refine wpAny_bind (wpAny_rule (wpAny_bind ?_))
    refine long_road (h0 := h0) (Nat.le_add_right _ _) r [] _ (m + 1) (I.push _) hpush (by simpa using hn) (by simpa using hz) fun h' I' D' k' => wpAny_pure (wpAny_pure ?_)
    exact h h' I' (by simpa using D') fun d' l' x => k' d' l' (ne _ _ x) (x.push _)

theorem typeIs_dict {d : Addr} {es : Array DictEntry} {n : Nat} (ho : s.heap.get? d = some (dictOb es n)) : s.TypeIs (.ref d) "dict" := ⟨_, ho, rfl⟩

theorem merge_turns {h0 : Heap} {d a : Addr} (hd : h0.objs.size ≤ d) (hda : a ≠ d) {es : List DictEntry} {n : Nat} {r : List (Int × Str)} (hr : EntL es r) {Q : PUnit → Shared → Prop} :
    ∀ (i : Nat) (todo done : List (Int × Str)) (l : List (Int × Str)) (s : Shared) (m : Nat), r = done ++ todo → done.length = i → Over h0 s.heap m → Dct s.heap d (l ++ done) → s.heap.get? a = some (dictOb es.toArray n) →
      ((l ++ r).map (·.1)).Nodup → (l ++ r).length ≤ 4096 →
      (∀ h', Over h0 h' m → Dct h' d (l ++ r) → Q ⟨⟩ { s with heap := h' }) →
      wpAny (model prog w) A (forIn (List.range' i todo.length) PUnit.unit fun i _ => do
        let q ← dictEntries a
        match q[i]? with
          | some e => do
            holding [e.key, e.val] (dictPut d e.hash e.key e.val)
            let ep ← dictEpoch a
            if (ep != n) = true then do
                unsupported "dict.changed-during-merge"
                pure (ForInStep.yield PUnit.unit)
              else pure (ForInStep.yield PUnit.unit)
          | _ => do
            unsupported "dict.changed-during-merge"
            pure (ForInStep.yield PUnit.unit)) Q E s
  | i, [], done, l, s, m, e, hi, I, D, ha, hn, hz, h => by
    rw [List.length_nil, List.range'_zero, List.forIn_nil]
    have e' : done = r := by rw [e, List.append_nil]
    subst e'
    exact wpAny_pure (h s.heap I D)
  | i, (k, x) :: todo, done, l, s, m, e, hi, I, D, ha, hn, hz, h => by
    rw [List.length_cons, List.range'_succ, List.forIn_cons]
    have hlen := hr.length
    obtain ⟨t, u, hit⟩ : ∃ t u, es[i]? = some ⟨hashInt k, .int k t, .str x u⟩ := by
      clear h I D ha hn hz hlen
      subst e
      subst hi
      clear hda hd
      revert es
      induction done with
      | nil =>
        intro es hr
        cases hr with
        | cons _ => exact ⟨_, _, rfl⟩
      | cons p done ih =>
        intro es hr
        cases hr with
        | cons hr => simpa using ih hr
    have hk : k ∉ (l ++ done).map (·.1) := fun q => by
      subst e
      rw [← List.append_assoc, List.map_append, List.nodup_append] at hn
      exact hn.2.2 _ q _ (.head _) rfl
    have hz' : (l ++ done).length ≤ 4096 := by subst e; simp at hz ⊢; omega
    refine wpAny_bind (wpAny_bind (wpAny_dictEntries ha rfl ?_))
    rw [List.getElem?_toArray, hit]
    refine wpAny_bind (wpAny_holding (dictPut_new D hk hz' fun h' D' ⟨f, e'⟩ => ?_))
    subst e'
    have ha' : (s.heap.update d f).get? a = some (dictOb es.toArray n) := (Heap.get?_update_ne _ _ _ _ hda).trans ha
    refine wpAny_bind (wpAny_dictEpoch ha' rfl ?_)
    rw [if_neg (by simp)]
    refine wpAny_pure ?_
    refine merge_turns hd hda hr (i + 1) todo (done ++ [(k, x)]) l _ m (by simpa using e) (by simp [hi]) (I.update hd f) (by simpa using D') ha' hn hz fun h₂ I₂ D₂ => ?_
    exact h h₂ I₂ D₂

theorem merge_wp {h0 : Heap} {d a : Addr} {m : Nat} {l r : List (Int × Str)} {Q : Unit → Shared → Prop} (hd : h0.objs.size ≤ d) (hda : a ≠ d) (hs : (a == sysModules) = false) (I : Over h0 s.heap m) (D : Dct s.heap d l) (hl : l ≠ []) (R : Dct s.heap a r)
    (hn : ((l ++ r).map (·.1)).Nodup) (hz : (l ++ r).length ≤ 4096) (h : ∀ h', Over h0 h' m → Dct h' d (l ++ r) → Q () { s with heap := h' }) :
    wpAny (model prog w) A (mergeMapping d (.ref a) false) Q E s := by
  obtain ⟨ed, nd, hed, hod⟩ := D
  obtain ⟨es, n, hes, hoa⟩ := R
  have hne : ed.toArray.isEmpty = false := by
    have := hed.length
    cases ed with
    | nil => exact absurd (List.length_eq_zero_iff.mp this.symm) hl
    | cons _ _ => rfl
  unfold mergeMapping
  refine wpAny_bind (wpAny_isInstance (typeIs_dict hoa) isSubtype_dict_dict ?_)
  dsimp only
  rw [if_pos rfl]
  refine wpAny_bind (wpAny_specialOf (typeIs_dict hoa) F.slot_dict_iter.lookup (wpAny_bind (wpAny_pure ?_)))
  rw [show ((some (Value.builtin "dict.__iter__") == some (Value.builtin "dict.__iter__")) : Bool) = true from beq_self_eq_true _]
  dsimp only
  rw [if_neg (by rw [hs]; exact Bool.false_ne_true)]
  refine wpAny_bind (wpAny_dictEntries hod rfl ?_)
  rw [if_neg (by rw [hne]; exact Bool.false_ne_true)]
  refine wpAny_bind (wpAny_dictEntries hoa rfl (wpAny_bind (wpAny_dictEpoch hoa rfl ?_)))
  rw [List.size_toArray, hes.length, List.range_eq_range']
  refine wpAny_bind ?_
  refine merge_turns hd hda hes 0 r [] l s m rfl rfl I ⟨ed, nd, by simpa using hed, hod⟩ hoa hn hz fun h' I' D' => wpAny_pure (h h' I' D')

/-- one item of the display -/
def item (pos : Pos) (x : Int × Str) : Option (Sem Value) × Sem Value := (some (pr pos x).1, (pr pos x).2)

/-- between two turns: what stands in the main dict -/
def Main (h0 : Heap) (s0 : Shared) (fl : List (Int × Str)) (main : Option Addr) (s : Shared) : Prop :=
  (main = none ∧ fl = [] ∧ s = s0) ∨
  (main = some h0.objs.size ∧ fl ≠ [] ∧ ∃ h, s = { s0 with heap := h, toks := s0.toks + 3 * fl.length } ∧ Over h0 h ((fl.length + 16) / 17) ∧ Dct h h0.objs.size fl)

theorem wp_if_pos {α : Type} {M : Model} {c : Prop} [Decidable c] {a b : Sem α} {Q : α → Shared → Prop} (hc : c) (h : wpAny M A a Q E s) : wpAny M A (if c then a else b) Q E s := by rw [if_pos hc]; exact h
theorem wp_if_neg {α : Type} {M : Model} {c : Prop} [Decidable c] {a b : Sem α} {Q : α → Shared → Prop} (hc : ¬c) (h : wpAny M A b Q E s) : wpAny M A (if c then a else b) Q E s := by rw [if_neg hc]; exact h

/-- the display's own flush -/
def flushT (l : List (Sem Value × Sem Value)) (main : Option Addr) : Sem (Option Addr) :=
  if l.isEmpty = true then pure main
      else
        match main with
        | none => do
          let q ← subDict l
          pure (some q)
        | some d => do
          let sub ← holding [Value.ref d] (subDict l)
          (holding [Value.ref d, Value.ref sub] (mergeMapping d (Value.ref sub) false)).onRaise fun x => do
              let _ ← holding [Value.ref d, x] (runValue (Code.builtin "proto.let_go" { }))
              pure ()
          pure (some d)
theorem flush_wp {pos : Pos} {s0 : Shared} {fl ru : List (Int × Str)} {main : Option Addr} {l : List (Sem Value × Sem Value)} (hle : l = ru.map (pr pos)) {Q : Option Addr → Shared → Prop} (hlow : sysModules < s0.heap.objs.size) (M : Main s0.heap s0 fl main s) (hru : ru ≠ []) (hfl : fl.length % 17 = 0) (hr17 : ru.length ≤ 17)
    (hn : ((fl ++ ru).map (·.1)).Nodup) (hz : (fl ++ ru).length ≤ 4096) (h : ∀ s', Main s0.heap s0 (fl ++ ru) (some s0.heap.objs.size) s' → Q (some s0.heap.objs.size) s') :
    wpAny (model prog w) A (flushT l main) Q E s := by
  unfold flushT
  subst hle
  have hpos : 0 < ru.length := List.length_pos_iff.mpr hru
  rw [if_neg (by cases ru with | nil => exact absurd rfl hru | cons _ _ => exact Bool.false_ne_true)]
  have hn2 : (ru.map (·.1)).Nodup := by rw [List.map_append, List.nodup_append] at hn; exact hn.2.1
  have hz2 : ru.length ≤ 4096 := by simp at hz; omega
  rcases M with ⟨rfl, rfl, rfl⟩ | ⟨rfl, hne, hh, rfl, I, D⟩
  · refine wpAny_bind (subDict_wp (Over.refl s.heap) hn2 hz2 fun h' I' D' k' => wpAny_pure (h _ (.inr ⟨rfl, by simpa using hru, h', ?_, ?_, ?_⟩)))
    · simp
    · have e : (([] ++ ru : List (Int × Str)).length + 16) / 17 = 0 + 1 := by simp; omega
      rw [e]; exact I'
    · simpa using D'
  · dsimp only
    refine wpAny_bind (wpAny_holding (subDict_wp I hn2 hz2 fun h' I' D' k' => ?_))
    refine wpAny_bind (wpAny_onRaise (wpAny_holding ?_))
    refine merge_wp (h0 := s0.heap) (l := fl) (r := ru) (Nat.le_refl _) ?_ ?_ I' (k' _ _ D) hne D' hn hz fun h₂ I₂ D₂ => wpAny_pure (h _ (.inr ⟨rfl, by simpa using fun q _ => hne q, h₂, ?_, ?_, D₂⟩))
    · have : 0 < fl.length := List.length_pos_iff.mpr hne
      intro q
      have q' : s0.heap.objs.size + (fl.length + 16) / 17 = s0.heap.objs.size := q
      omega
    · rw [beq_eq_false_iff_ne]
      intro q
      have q' : s0.heap.objs.size + (fl.length + 16) / 17 = sysModules := q
      have : s0.heap.objs.size > sysModules := hlow
      omega
    · have e : s0.toks + 3 * fl.length + 3 * ru.length = s0.toks + 3 * (fl ++ ru).length := by simp; omega
      show ({ s0 with heap := h₂, toks := s0.toks + 3 * fl.length + 3 * ru.length } : Shared) = _
      rw [e]
    · have e : ((fl ++ ru).length + 16) / 17 = (fl.length + 16) / 17 + 1 := by simp; omega
      rw [e]; exact I₂

theorem display_wp {pos : Pos} {tab : List (Int × Str)} {Q : Value → Shared → Prop} (hlow : sysModules < s.heap.objs.size) (hne : tab ≠ []) (hn : (tab.map (·.1)).Nodup) (hz : tab.length ≤ 4096)
    (h : ∀ h', Over s.heap h' ((tab.length + 16) / 17) → Dct h' s.heap.objs.size tab → Q (.ref s.heap.objs.size) { s with heap := h', toks := s.toks + 3 * tab.length }) :
    wpAny (model prog w) A (dictDisplay (tab.map (item pos))) Q E s := by
  unfold dictDisplay
  dsimp only
  refine wpAny_bind (wpAny_forIn_list _ (fun rest b s' => ∃ fl ru todo, rest = todo.map (item pos) ∧ tab = fl ++ ru ++ todo ∧ ru.length < 17 ∧ fl.length % 17 = 0 ∧ b.2 = ru.map (pr pos) ∧ Main s.heap s fl b.1 s') _ ?_ ?_ _ _
    ⟨[], [], tab, rfl, rfl, by decide, rfl, rfl, .inl ⟨rfl, rfl, rfl⟩⟩)
  · rintro x rest ⟨main, run⟩ s' ⟨fl, ru, todo, h1, h2, h3, h4, h5, M⟩
    cases todo with
    | nil => cases h1
    | cons y todo =>
      rw [List.map_cons, List.cons.injEq] at h1
      obtain ⟨rfl, rfl⟩ := h1
      dsimp only at h5 M
      subst h5
      dsimp only [item]
      by_cases hl : ru.length = 16
      · refine wp_if_pos (by simp [hl]) (wpAny_bind ?_)
        have e : ru.map (pr pos) ++ [((pr pos y).1, (pr pos y).2)] = (ru ++ [y]).map (pr pos) := by simp
        have ht : tab = (fl ++ (ru ++ [y])) ++ todo := by rw [h2]; simp
        refine flush_wp e hlow M (by simp) h4 (by simp [hl]) ?_ ?_ fun s₂ M₂ => wpAny_pure (show ∃ fl ru todo_1, todo.map (item pos) = todo_1.map (item pos) ∧ tab = fl ++ ru ++ todo_1 ∧ ru.length < 17 ∧ fl.length % 17 = 0 ∧ [] = ru.map (pr pos) ∧ Main s.heap s fl _ s₂ from ⟨fl ++ (ru ++ [y]), [], todo, rfl, by rw [ht]; simp, by decide, by simp [hl]; omega, rfl, M₂⟩)
        · rw [ht, List.map_append, List.nodup_append] at hn; exact hn.1
        · rw [ht] at hz; simp at hz ⊢; omega
      · refine wp_if_neg (by simp [hl]) (wpAny_pure ⟨fl, ru ++ [y], todo, rfl, by rw [h2]; simp, by simp; omega, h4, by simp, M⟩)
  · rintro ⟨main, run⟩ s' ⟨fl, ru, todo, h1, h2, h3, h4, h5, M⟩
    have : todo = [] := by simpa using h1.symm
    subst this
    rw [List.append_nil] at h2
    subst h2
    dsimp only at h5 M ⊢
    subst h5
    by_cases hr : ru = []
    · subst hr
      rw [List.append_nil] at *
      refine wpAny_bind (wp_if_pos rfl (wpAny_pure ?_))
      rcases M with ⟨_, q, _⟩ | ⟨rfl, _, hh, rfl, I, D⟩
      · exact absurd q hne
      · exact wpAny_pure (h hh I D)
    · refine wpAny_bind (flush_wp rfl hlow M hr h4 (by omega) hn hz fun s₂ M₂ => ?_)
      rcases M₂ with ⟨q, _, _⟩ | ⟨_, _, hh, rfl, I, D⟩
      · cases q
      · exact wpAny_pure (h hh I D)
end
end Mine

end
/-! ## HeadTopA -/
section
open PySem PySem.W PyProof.Rows
set_option maxRecDepth 100000
set_option maxHeartbeats 0
namespace Mine
open PySem.Sem (wp)

def one : Option Expr → Expr → Option (Int × Str)
  | some (.Constant (.int k) _ _), .Constant (.str x) _ _ => some (k, x)
  | _, _ => none
def tabOf : List (Option Expr) → List Expr → List (Int × Str)
  | k :: ks, v :: vs => match one k v with
    | some p => p :: tabOf ks vs
    | none => []
  | _, _ => []
def allConst : List (Option Expr) → List Expr → Bool
  | k :: ks, v :: vs => (one k v).isSome && allConst ks vs
  | [], [] => true
  | _, _ => false
theorem one_inv {k : Option Expr} {v : Expr} {p : Int × Str} (h : one k v = some p) : ∃ a b c d, k = some (.Constant (.int p.1) a b) ∧ v = .Constant (.str p.2) c d := by
  unfold one at h
  split at h
  · injection h with h
    subst h
    exact ⟨_, _, _, _, rfl, rfl⟩
  · cases h
@[irreducible] noncomputable def b3st : List (Option PySem.Expr) × List PySem.Expr × Pos × Pos := match (bd[11]? : Option PySem.Stmt) with
  | some (PySem.Stmt.Assign _ (PySem.Expr.Dict ks vs q) p) => (ks, vs, q, p)
  | _ => ([], [], ⟨0, 0, 0, 0⟩, ⟨0, 0, 0, 0⟩)
@[irreducible] noncomputable def b3tab : List (Int × Str) := tabOf b3st.1 b3st.2.1
theorem b3tab_eq : tabOf b3st.1 b3st.2.1 = b3tab := by unfold b3tab; rfl
theorem items_eq {env : Env} {pos : Pos} (ks : List (Option Expr)) : ∀ (vs : List Expr), allConst ks vs = true →
    (evalEachOpt ks env).zip ((evalEach vs env).map fun v => do let x ← v; standAt pos; pure x) = (tabOf ks vs).map (item pos) := by
  induction ks with
  | nil =>
    intro vs h
    cases vs with
    | nil => rfl
    | cons v vs => cases h
  | cons k ks ih =>
    intro vs h
    cases vs with
    | nil => cases h
    | cons v vs =>
      unfold allConst at h
      obtain ⟨h1, h2⟩ := Bool.and_eq_true_iff.mp h
      obtain ⟨p, hp⟩ := Option.isSome_iff_exists.mp h1
      have ih := ih vs h2
      have ht : tabOf (k :: ks) (v :: vs) = p :: tabOf ks vs := by
        show (match one k v with | some p => p :: tabOf ks vs | none => []) = _
        rw [hp]
      obtain ⟨a, b, c, d, rfl, rfl⟩ := one_inv hp
      rw [ht]
      show (_ :: _) = (_ :: _)
      rw [← ih]
      rfl
theorem b3const : allConst b3st.1 b3st.2.1 = true := by decide +kernel
theorem b3len : b3tab.length = 650 := by decide +kernel
/-- rising -/
def rises : Int → List (Int × Str) → Bool
  | _, [] => true
  | a, (k, _) :: r => decide (a < k) && rises k r
theorem nodup_of_rises : ∀ {a : Int} {l : List (Int × Str)}, rises a l = true → (∀ x ∈ l.map (·.1), a < x) ∧ (l.map (·.1)).Nodup
  | _, [], _ => ⟨fun _ h => (nomatch h), .nil⟩
  | a, (k, _) :: r, h => by
    obtain ⟨h1, h2⟩ := Bool.and_eq_true_iff.mp h
    have h1 := of_decide_eq_true h1
    obtain ⟨p, q⟩ := nodup_of_rises h2
    refine ⟨fun x hx => ?_, List.nodup_cons.mpr ⟨fun m => ?_, q⟩⟩
    · rcases List.mem_cons.mp hx with rfl | hx
      · exact h1
      · have := p x hx; omega
    · have := p _ m
      simp at this
theorem b3rises : rises 0 b3tab = true := by decide +kernel
theorem b3is : bd.drop 11 = Stmt.Assign [.Name (Str.ofString "b3_exceptions") ⟨17, 0, 17, 13⟩] (.Dict b3st.1 b3st.2.1 b3st.2.2.1) b3st.2.2.2 :: bd.drop 12 := by
  kernel_rfl

theorem wp_execs_app {M : Model} {Γ : Ctx} {env : Env} {Q : Flow → Pos → Shared → Prop} {E : Value → Pos → Shared → Prop} {r : List PySem.Stmt} :
    ∀ (l : List PySem.Stmt) (p : Pos) (s : Shared), wp M Γ (execs l env) (fun f p' s' => f = .next ∧ wp M Γ (execs r env) Q E p' s') E p s → wp M Γ (execs (l ++ r) env) Q E p s
  | [], p, s, h => h.2
  | st :: l, p, s, h => by
    rw [execs_cons, Sem.wp_bind'] at h
    rw [List.cons_append, execs_cons, Sem.wp_bind']
    refine Sem.wp_mono M Γ _ (fun f p' s' h' => ?_) (fun _ _ _ x => x) p s h
    cases f with
    | next => exact wp_execs_app l p' s' h'
    | brk => exact nomatch h'.1
    | cont => exact nomatch h'.1
    | ret v => exact nomatch h'.1

def aroundOf (Γ : Ctx) : Around := { handled := Γ.handled, depth := frameCount Γ.below + Γ.code.weight, frames := none, guards := none, units := Γ.units }
theorem in_around (Γ : Ctx) : Γ.In (aroundOf Γ) := ⟨rfl, Nat.le_refl _, fun _ h => (nomatch h), fun _ h => (nomatch h), Nat.le_refl _⟩
theorem wp_of_any {M : Model} {Γ : Ctx} {α : Type} {t : Sem α} {Q : α → Shared → Prop} {E : Value → Shared → Prop} {s : Shared} (h : ∀ A, wpAny M A t Q E s) (p : Pos) : wp M Γ t (fun a _ s' => Q a s') (fun e _ s' => E e s') p s :=
  h _ Γ p (in_around Γ)

theorem list39 {α : Type} (d : α) (xs : List α) (h : xs.length = 39) : xs = (List.range 39).map fun i => xs.getD i d := by
  refine List.ext_getElem (by simp [h]) fun i h1 h2 => ?_
  simp [List.getD_eq_getElem?_getD, List.getElem?_eq_getElem h1]

end Mine

end
/-! ## HeadTopB -/
section
open PySem PySem.W PyProof.Rows
set_option maxRecDepth 100000
namespace Mine
open PySem.Sem (wp)
/-- the state behind the long display -/
theorem sD_of {w : World} {os : OsState} {h' : Heap} (I : Over (sC w os).heap h' 39) : ∃ f : Nat → Obj, ({ sC w os with heap := h', toks := 2425 } : Shared) = sD f w os ∧ ∀ a, 80 ≤ a → a < 119 → h'.objs[a]? = some (f a) := by
  obtain ⟨⟨l⟩, life⟩ := h'
  have h1 : life = {} := I.life
  have h2 : l.length = 119 := by have := I.size; simpa [sC, lC] using this
  have h3 : l.take 80 = lC w.params := by
    refine List.ext_getElem? fun a => ?_
    by_cases ha : a < 80
    · have := I.old a (by simpa [sC, lC] using ha)
      rw [List.getElem?_take_of_lt ha]
      simpa [sC] using this
    · rw [List.getElem?_eq_none (by simp; omega), List.getElem?_eq_none (by simp [lC]; omega)]
  have h4 := list39 (default : Obj) (l.drop 80) (by simp [h2])
  refine ⟨fun a => (l.drop 80).getD (a - 80) default, ?_, fun a h5 h6 => ?_⟩
  · subst h1
    show (⟨⟨⟨l⟩, {}⟩, _, _, _, _⟩ : Shared) = _
    unfold sD
    rw [← h3]
    have e : l = l.take 80 ++ ys (fun a => (l.drop 80).getD (a - 80) default) := by
      conv => lhs; rw [← List.take_append_drop 80 l, h4]
      rfl
    have e2 : (⟨l⟩ : Array Obj) = ⟨l.take 80 ++ ys (fun a => (l.drop 80).getD (a - 80) default)⟩ := congrArg Array.mk e
    rw [← e2]
    rfl
  · show (⟨l⟩ : Array Obj)[a]? = _
    rw [List.getElem?_toArray]
    dsimp only
    rw [List.getD_eq_getElem?_getD, List.getElem?_drop, show 80 + (a - 80) = a by omega, List.getElem?_eq_getElem (by omega)]
    rfl

end Mine

end
/-! ## HeadTopC -/
section
open PySem PySem.W PyProof.Rows
set_option maxRecDepth 100000
namespace Mine
open PySem.Sem (wp)
/-- what the top leaves of the long table -/
def B3 (o : Obj) : Prop := ∃ es n, EntL es b3tab ∧ o = dictOb es.toArray n

theorem sC_size (w : World) (os : OsState) : (sC w os).heap.objs.size = 80 := by simp [sC, lC]
theorem dict_eval {pos : Pos} {ks : List (Option PySem.Expr)} {vs : List PySem.Expr} {env : Env} : eval (PySem.Expr.Dict ks vs pos) env = (do
    standAt pos
    dictDisplay ((evalEachOpt ks env).zip ((evalEach vs env).map fun v => do let x ← v; standAt pos; pure x))) := rfl
theorem b3_value (w : World) (os : OsState) (A : Around) : wpAny (model pT w) A (eval (.Dict b3st.1 b3st.2.1 b3st.2.2.1) envT) (fun v s' => v = .ref 80 ∧ ∃ f, s' = sD f w os ∧ B3 (f 80)) (fun _ _ => False) (sC w os) := by
  rw [dict_eval]
  refine wpAny_bind (wpAny_standAt ?_)
  rw [items_eq _ _ b3const, b3tab_eq]
  have hsz := sC_size w os
  refine display_wp (by rw [hsz]; decide) ?_ (nodup_of_rises b3rises).2 ?_ fun h' I D => ?_
  · intro q; have := b3len; rw [q] at this; cases this
  · have := b3len; omega
  · rw [b3len] at I
    obtain ⟨f, h1, h2⟩ := sD_of I
    rw [hsz] at D ⊢
    refine ⟨rfl, f, ?_, ?_⟩
    · rw [← h1, b3len]; rfl
    · obtain ⟨es, n, h3, h4⟩ := D
      refine ⟨es, n, h3, ?_⟩
      have h5 := h2 80 (by decide) (by decide)
      have h6 : h'.get? 80 = some (dictOb es.toArray n) := h4
      unfold Heap.get? at h6
      rw [h5] at h6
      split at h6
      · cases h6
      · exact Option.some.inj h6

end Mine

end
/-! ## HeadTopD -/
section
open PySem PySem.W PyProof.Rows
set_option maxRecDepth 100000
namespace Mine
open PySem.Sem (wp)
theorem ev_wp {w : World} {Γ : Ctx} {α : Type} {t : Sem α} {p : Pos} {s : Shared} {r : Except Value α} {p' : Pos} {s' : Shared} (h : evT (MQ w) (evC (MQ w) 100000 1000) Γ 100000 t p s = some (r, p', s'))
    {Q : α → Pos → Shared → Prop} {E : Value → Pos → Shared → Prop} (hq : evPost Q E r p' s') : wp (model pT w) Γ t Q E p s := by
  rw [← MQ_eq]; exact wp_of_ev h hq

theorem bd_parts : bd = bd.take 9 ++ ((bd.drop 9).take 2 ++ bd.drop 11) := by
  have h : (bd.drop 9).drop 2 = bd.drop 11 := by rw [List.drop_drop]
  rw [← h, List.take_append_drop, List.take_append_drop]

theorem body_wp (w : World) (os : OsState) : wp (model pT w) Γ0 (execs bd envT) (fun f p s' => f = .next ∧ ∃ g, s' = sE g w os ∧ B3 (g 80)) (fun _ _ _ => False) default (sB w os) := by
  rw [bd_parts]
  refine wp_execs_app _ _ _ ?_
  rw [execsQ_eq]
  refine ev_wp (evA w os) ⟨rfl, ?_⟩
  rw [← execsQ_eq]
  refine wp_execs_app _ _ _ ?_
  rw [execsQ_eq]
  refine ev_wp (evCall w os) ⟨rfl, ?_⟩
  rw [← execsQ_eq, b3is, execs_cons, Sem.wp_bind', exec_Assign_Name _ _ _ _ _ rfl, Sem.wp_bind', Sem.wp_cmd_standAt, Sem.wp_bind']
  refine Sem.wp_mono _ _ _ (fun v p' s' h => ?_) (fun _ _ _ x => x) _ _ (wp_of_any (b3_value w os) _)
  obtain ⟨rfl, f, rfl, hb⟩ := h
  have e := ev_wp (evE f w os p') (Q := fun fl _ s' => fl = .next ∧ ∃ g, s' = sE g w os ∧ B3 (g 80)) (E := fun _ _ _ => False) ⟨rfl, f, rfl, hb⟩
  unfold postT at e
  rw [← execsQ_eq, Sem.wp_bind', Sem.wp_cmd_standAt, Sem.wp_bind'] at e
  rw [Sem.wp_bind', Sem.wp_cmd_standAt, Sem.wp_bind']
  refine Sem.wp_mono _ _ _ (fun _ p'' s'' h => ?_) (fun _ _ _ x => x) _ _ e
  rw [Sem.wp_pure']
  exact h

/-- from a thread's run to its end, back to the last state ahead of it -/
theorem last_running {den : Code → Sem Fin} {p : Program} {w : World} : ∀ (n : Nat) (s : Shared) (t : Thread) (f : Flow) (s' : Shared), runN den p w n s t = .halted (.done f) s' →
    ∃ m t', runN den p w m s t = .running s' t' ∧ through t' = true
  | 0, _, _, _, _, h => by cases h
  | n + 1, s, t, f, s', h => by
    simp only [runN] at h
    cases hs : step den p w s t with
    | go s₂ t₂ =>
      rw [hs] at h
      obtain ⟨m, t', hm, ht⟩ := last_running n s₂ t₂ f s' h
      exact ⟨m + 1, t', by simp only [runN, hs]; exact hm, ht⟩
    | halt o s₂ =>
      rw [hs] at h
      injection h with h1 h2
      subst h1 h2
      refine ⟨0, t, ?_, ?_⟩
      · rw [step_halt_same den p w s s₂ t _ hs]; rfl
      · obtain ⟨heap, gens, drawn, toks, os⟩ := s
        obtain ⟨cur, code, pos, stack⟩ := t
        cases cur with
        | pure fin =>
          cases fin with
          | done f' =>
            cases stack with
            | nil => rfl
            | cons F st => cases F <;> (simp only [step] at hs; cases hs)
          | again c =>
            simp only [step] at hs
            cases hs
        | raise e =>
          cases stack with
          | nil => simp only [step, finish] at hs; split at hs <;> cases hs
          | cons F st => cases F <;> (simp only [step] at hs; cases hs)
        | _ => simp only [step, finish] at hs <;> (repeat' split at hs) <;> cases hs

theorem sched_of_wp {prog : Program} {w : World} {t : Sem Fin} {s : Shared} {P : Shared → Prop} (hreg : s.asleep) (hP : ∀ s', P s' → s'.gens = #[])
    (h : wp (model prog w) ⟨.builtin "claim.caller" {}, none, none, [], none⟩ t (fun fin _ s₁ => (∃ f, fin = .done f) ∧ P s₁) (fun _ _ _ => False) default s) :
    ∃ s', P s' ∧ ∃ n t', schedN (denote table) prog w n (.single s ⟨t, .builtin "claim.caller" {}, default, []⟩) = .running (.single s' t') ∧ through t' = true := by
  have h2 : wp (model prog w) ⟨.builtin "claim.caller" {}, none, none, [], none⟩ t (Sem.finPost (model prog w) ⟨.builtin "claim.caller" {}, none, none, [], none⟩ fun r s₁ => ((∃ f, r = .ok f) ∧ P s₁) ∧ leftWithCleanup s₁.gens = false)
      (fun e _ s₁ => ((∃ f, (Except.error e : Result) = .ok f) ∧ P s₁) ∧ leftWithCleanup s₁.gens = false) default s := by
    refine Sem.wp_mono _ _ _ (fun fin p s₁ q => ?_) (fun _ _ _ x => x.elim) _ _ h
    obtain ⟨⟨f, rfl⟩, q⟩ := q
    exact ⟨⟨⟨f, rfl⟩, q⟩, (Shared.noSusp_of_empty (hP _ q)).noCleanup⟩
  obtain ⟨n, r, s₁, hn, ⟨f, rfl⟩, q⟩ := (wp_iff_halts (M := model prog w) t (fun r s₁ => (∃ f, r = .ok f) ∧ P s₁) default s).mp h2
  obtain ⟨s'', hr, hf, hc⟩ := runNI_real (denote table) prog w hn (outcomeOf_ends _)
  obtain rfl := Shared.eq_of_forget_eq hf (hP _ q)
  obtain ⟨m, t', hm, ht⟩ := last_running n _ _ f s'' hr
  refine ⟨s'', q, m, t', ?_, ht⟩
  have hne : ∀ k s₂, runN (denote table) prog w k s ⟨t, .builtin "claim.caller" {}, default, []⟩ ≠ .halted (.unsupported "lifetime:generator-with-cleanup-left-suspended") s₂ := by
    intro k s₂ hk
    have a := runN_mono (denote table) prog w n k s _ _ s'' hr
    have b := runN_mono (denote table) prog w k n s _ _ s₂ hk
    rw [Nat.add_comm, b] at a
    injection a with a1 _
    cases a1
  rw [schedN_eq_runN (denote table) prog w s _ hreg ⟨hc, hne⟩ m, hm]
  rfl
end Mine

end
/-! ## HeadTopE -/
section
open PySem PySem.W PyProof.Rows
set_option maxRecDepth 100000
set_option linter.unusedVariables false
namespace Mine
open PySem.Sem (wp)

theorem gs_is : Γs = ⟨.builtin "claim.caller" {}, none, none, [], none⟩ := rfl
theorem body_code (w : World) (os : OsState) : wpCode (model pT w) Γ0 (fun r s' => r = .ok .next ∧ ∃ g, s' = sE g w os ∧ B3 (g 80)) default (sB w os) := by
  rw [wpCode_iff_wp]
  show wp (model pT w) Γ0 (do
    blockStart bd envT
    return PySem.Fin.done (← (execs bd envT).onRaise (leaving envT))) _ _ default (sB w os)
  rw [Sem.wp_bind']
  refine ev_wp (evBlock w os) ?_
  show wp (model pT w) Γ0 (do return PySem.Fin.done (← (execs bd envT).onRaise (leaving envT))) _ _ default (sB w os)
  rw [Sem.wp_bind', Sem.wp_onRaise]
  refine Sem.wp_mono _ _ _ (fun f p s' h => ?_) (fun _ _ _ x => x.elim) _ _ (body_wp w os)
  rw [Sem.wp_pure']
  obtain ⟨rfl, h⟩ := h
  exact ⟨rfl, h⟩
theorem enter_is : Γs.enter (.body (behindTheImports pT) { scope := pT.main.scope, locals := mainNs, globals := mainNs, cells := [], code := .ref 30, frame := some 31 }) none default = Γ0 := rfl

theorem stub_wp (w : World) (os : OsState) : wp (model pT w) Γs (topStub pT).cur (fun fin _ s₁ => (∃ f, fin = .done f) ∧ ∃ g, s₁ = sE g w os ∧ B3 (g 80)) (fun _ _ _ => False) default (sS w os) := by
  have e := ev_wp (evPre w os) (Q := fun v p s => v = (.ref 30, 31) ∧ p = default ∧ s = sB w os) (E := fun _ _ _ => False) ⟨rfl, rfl, rfl⟩
  unfold preT at e
  rw [Sem.wp_bind'] at e
  show wp (model pT w) Γs (do
    let code ← moduleCode pT.main
    let frame ← newBodyFrame code mainNs mainNs
    let _ ← run (.body (behindTheImports pT) { scope := pT.main.scope, locals := mainNs, globals := mainNs, cells := [], code, frame := some frame })
    ret .none) _ _ default (sS w os)
  rw [Sem.wp_bind']
  refine Sem.wp_mono _ _ _ (fun code p s h => ?_) (fun _ _ _ x => x) _ _ e
  rw [Sem.wp_bind'] at h ⊢
  refine Sem.wp_mono _ _ _ (fun frame p s h => ?_) (fun _ _ _ x => x) _ _ h
  rw [Sem.wp_pure'] at h
  obtain ⟨h1, rfl, rfl⟩ := h
  obtain ⟨rfl, rfl⟩ := Prod.mk.inj h1
  rw [Sem.wp_bind', Sem.wp_run, enter_is]
  refine wpCode_mono (fun r s' h => ?_) (body_code w os)
  obtain ⟨rfl, h⟩ := h
  show wp (model pT w) Γs (ret .none) _ _ _ _
  exact ⟨⟨_, rfl⟩, h⟩

theorem top_sched (w : World) (os : OsState) : ∃ g, B3 (g 80) ∧ ∃ n t', schedN (denote table) pT w n (.single (sS w os) (topStub pT)) = .running (.single (sE g w os) t') ∧ through t' = true := by
  obtain ⟨s', ⟨g, rfl, hb⟩, h⟩ := sched_of_wp (prog := pT) (w := w) (t := (topStub pT).cur) (s := sS w os) (P := fun s' => ∃ g, s' = sE g w os ∧ B3 (g 80)) ⟨rfl, rfl⟩ (fun s' ⟨g, h, _⟩ => by subst h; rfl) (stub_wp w os)
  exact ⟨g, hb, h⟩
end Mine

end
/-! ## HeadLook -/
section
open PySem PySem.W PyProof.Rows
set_option maxRecDepth 100000
set_option maxHeartbeats 0
set_option linter.unusedVariables false
namespace Mine
noncomputable def qV : Program := view pT [0, 18]
def looseV : List Str := ["_quoted", "_paren_depth", "_twin_re_1", "_twin_re_2", "CRLF", "quotedata", "b1_set", "in_table_b1", "b3_exceptions", "map_table_b3", "_law_piece", "_law_read", "_law_prepared"]
theorem looksV (g : Nat → Obj) (w : World) (os : OsState) : openSeen qV looseV (importedModules pT.main.body) (fun _ => true) true (sE g w os) = openGood qV looseV := by
  kernel_rfl
end Mine

end
/-! ## HeadTopF -/
section
open PySem PySem.W PyProof.Rows PySem.W.X
set_option maxRecDepth 100000
set_option maxHeartbeats 0
set_option linter.unusedVariables false
namespace Mine
noncomputable abbrev rL : OpenRow := PySem.Challenge.rw_ta0028_01.row

theorem staticsT (g : Nat → Obj) (w : World) (os : OsState) : (staticsOk (importedModules pT.main.body) (sS w os).heap (sE g w os).heap && namesBound pT (sE g w os).heap && gensDone (sE g w os) && laidKept (sS w os).heap (sE g w os).heap) = true := by
  kernel_rfl
theorem old28 (P : Params) (g : Nat → Obj) : ∀ b, b < 28 → b ≠ 3 → (lE P g)[b]? = (lS P)[b]? := by
  intro b hb h3
  iterate 28 (rcases b with _ | b; · first | rfl | exact absurd rfl h3)
  omega
theorem openSize (w : World) (os : OsState) : (sS w os).heap.objs.size = 28 := by simp [sS, lS]

theorem topRan_mine (w : World) : ∃ g, B3 (g 80) ∧ TopRan pT w (sS w startOs) (sE g w startOs) ∧
    Ground qV looseV [] (fun _ _ => True) w (sE g w startOs) ((sE g w startOs).heap.nsMap mainGlobals) ((sE g w startOs).heap.nsMap builtinsNs) (sE g w startOs).heap ∧ (sE g w startOs).heap.isNs mainGlobals = true := by
  obtain ⟨g, hb, n, t', hs, ht⟩ := top_sched w startOs
  obtain ⟨G, g0, g1, g2, g3, g4, g5⟩ := ground_of_open (q := qV) (loose := looseV) (mods := importedModules pT.main.body) (Xt := fun _ => true) (XP := fun _ _ => True) (w := w) (s := sE g w startOs) (g0 := true) (fun _ _ => trivial) (by decide +kernel) (looksV g w startOs)
  obtain ⟨hs4, hlk⟩ := Bool.and_eq_true_iff.mp (staticsT g w startOs)
  obtain ⟨hs5, hgd⟩ := Bool.and_eq_true_iff.mp hs4
  obtain ⟨hst, hnb⟩ := Bool.and_eq_true_iff.mp hs5
  refine ⟨g, hb, ⟨⟨n, t', hs, ht⟩, rfl, rfl, fun b o h hn => ?_, g2, statics_of_ok hst, g3, g4, g5, gens_of_done hgd, names_of_bound hnb, laid_of_kept hlk⟩, G, g1⟩
  have hlt : b < 28 := by have := Heap.lt_size h; rw [openSize] at this; exact this
  have h3 : b ≠ 3 := fun q => hn (.inl q)
  have e := old28 w.params g b hlt h3
  have e' : (sE g w startOs).heap.objs[b]? = (sS w startOs).heap.objs[b]? := by
    show (⟨lE w.params g⟩ : Array Obj)[b]? = (⟨lS w.params⟩ : Array Obj)[b]?
    rw [List.getElem?_toArray, List.getElem?_toArray]; exact e
  unfold Heap.get? at h ⊢
  rw [e']; exact h
end Mine

end
/-! ## HeadTopG -/
section
open PySem PySem.W PyProof.Rows PySem.W.X
set_option maxRecDepth 100000
set_option maxHeartbeats 0
set_option linter.unusedVariables false
namespace Mine
/-- what is left: the call, at every list of ints -/
def CallOk : Prop := ∀ (w : World) (g : Nat → Obj), B3 (g 80) → ∀ (ns : List Int) (vs : List Value) (a : Addr) (s₁ : Shared),
  Ground qV looseV [] (fun _ _ => True) w (sE g w startOs) ((sE g w startOs).heap.nsMap mainGlobals) ((sE g w startOs).heap.nsMap builtinsNs) s₁.heap →
  (∀ b o, (sE g w startOs).heap.get? b = some o → s₁.heap.get? b = some o) → s₁.gens = #[] → a = 152 → s₁.heap.objs.size = 153 → s₁.heap.get? a = some { cls := .type "list", data := .seq vs.toArray } → IntsAre vs ns → ns.length ≤ 63 → (PyData.list (ns.map PyData.int)).layable0 = true →
  wpAny (model pT w) callerA (PySem.call (.ref 151) [.ref a]) (fun v s' => v = .bool true ∧ (∀ b o, s₁.heap.get? b = some o → s'.heap.get? b = some o) ∧ s'.os = s₁.os ∧ s'.gens = #[]) (fun _ _ => False) s₁


noncomputable abbrev cL : ClaimW := rL.toRowW.claim
theorem cL_prog : cL.prog = pT := rfl
theorem cL_bare : cL.prog.bare := ⟨rfl, rfl, rfl, rfl, rfl, by decide +kernel⟩
theorem cL_opens : opensWell cL.prog = true := by decide +kernel
theorem cL_makers : cL.makers = [] := rfl
theorem frees_ok : (frees rL.toRowW && rL.within.isEmpty) = true := by decide +kernel
theorem chains_ok : chainsOk qV = true := by decide +kernel
theorem law_holds (H2 : rL.toRowW.claim.HoldsOpenBy (callStub rL.name) (if rL.pinned then [rL.name] else []) rL.keeps rL.writes) (hw : rL.toRowW.promised) : PySem.Challenge.rw_ta0028_01.Holds := by
  w_on
  o_law
  rename_i said
  exact ⟨said, hw, H2⟩
theorem witness_ok : PySem.Challenge.rw_ta0028_01.row.toRowW.promised := by
  w_witness2
theorem defs_is : (if rL.pinned then [rL.name] else []) = [rL.name] := rfl
theorem pin_law {s : Shared} (hg : s.heap.isNs mainGlobals = true) (w : World) (G : Ground qV looseV [] (fun _ _ => True) w s (s.heap.nsMap mainGlobals) (s.heap.nsMap builtinsNs) s.heap) : isTheDefsW pT s.heap rL.name :=
  pinned_of_view hg G (by rfl) (by rfl) (by rfl)
theorem law_at (g : Nat → Obj) (w : World) (os : OsState) : (sE g w os).heap.nsMap mainGlobals rL.name = some (.ref 151) := by
  kernel_rfl
theorem sE_size (g : Nat → Obj) (w : World) (os : OsState) : (sE g w os).heap.objs.size = 152 := by simp [sE, lE, lE0, lE1, ys]
theorem post_true (args : List WData) : rL.toRowW.claim.post args (.bool true) args = true := by kernel_rfl
theorem open_by (H : CallOk) : rL.toRowW.claim.HoldsOpenBy (callStub rL.name) [rL.name] rL.keeps rL.writes := by
  obtain ⟨k5, k6⟩ := Bool.and_eq_true_iff.mp frees_ok
  obtain ⟨hsame, hu, ha, hap, hm⟩ := frees_parts k5
  refine ⟨⟨cL_bare, cL_opens, cL_makers⟩, witness_ok.witness, fun w => ?_⟩
  obtain ⟨s, h4, h5⟩ := Option.bind_eq_some_iff.mp (evOpen w)
  have A := AfterImport.of_importEnds h4
  refine ⟨⟨s, A⟩, fun s' hs' => ?_⟩
  obtain rfl : s' = s := AfterImport.unique hs' A
  obtain ⟨g, hb, hT, G, hg⟩ := topRan_mine w
  refine ⟨_, h5, rfl, _, hT, ?_, ?_, ?_, ?_⟩
  · intro n hn
    obtain rfl : n = rL.name := by simpa using hn
    exact pin_law hg w G
  · intro x hx; cases hx
  · intro x hx; cases hx
  · have hgens : (sE g w startOs).gens = #[] := rfl
    refine ClaimW.callFrom_of_specG (c := rL.toRowW.claim) ⟨rfl, rfl⟩ hgens fun args hpre hlay ord hord => ?_
    obtain ⟨⟨vs, s₁⟩, hlaid⟩ := Option.isSome_iff_exists.mp (layAllW_isSome (P := w.params) (ord := ord) G.has args rL.args (sE g w startOs) (pre_splitW hpre).1)
    have keeps := layAllW_keeps _ _ _ hlaid
    have hal := layAllW_rest _ _ _ hlaid
    obtain ⟨as, hrd, hin, hold⟩ := reads_layAllW hord _ _ _ hlaid hlay s₁.heap (fun _ _ e => e)
    have L : Laid [] w (sE g w startOs) s₁ args vs as := ⟨⟨ord, hord, hlaid⟩, hrd, hin, hold, keeps, hal.1.trans hgens, hal.2.2.1⟩
    have G₁ := G.keeps (fun _ _ _ _ _ => trivial) keeps
    have hwl := L.well
    have hlo := L.low G.low
    refine ⟨vs, s₁, hlaid, ?_⟩
    have hi := ident_freeW hu ha hap
    have hend : ∀ r s', GoodWG rL.toRowW.claim (classAt (sE g w startOs).heap) (ExcName.means (sE g w startOs).heap) args s₁ r s' → rL.toRowW.claim.Ends (sE g w startOs) args vs s₁ r s' ∧ s'.os = (sE g w startOs).os ∧ AllBare s'.gens :=
      fun r s' gd => gd.laid (c := rL.toRowW.claim) hsame rfl hi L
    wrow_args hpre hlay hrd hwl hlo
    rename_i ns _ _ hlayb _ _ _ _ a vs _ hL ra w1 r0 hI hr hc1 hc2
    obtain ⟨ha1, ha2⟩ := script_at L
    rw [sE_size] at ha1 ha2
    have hob := script_obj L hL
    have hn : ns.length ≤ 63 := by omega
    have hcall := H w g hb ns vs a s₁ G₁ keeps L.gens ha1 ha2 hob hI hn hlayb
    refine wpAny_bind (wpAny_nsGet G₁.T.g ?_)
    rw [law_at]
    refine wpAny_bind ?_
    subst ha1
    refine wpAny_mono hcall (fun v s' hv => wpAny_pure ?_) fun _ _ x => x.elim
    obtain ⟨rfl, hk, ho, hg'⟩ := hv
    have z := hend (.ok (.ret (.bool true))) s' ⟨.inl ⟨.bool true, .bool true, [], rfl, fun _ => rfl, .bool true, post_true _, fun _ => ⟨.nil, nofun⟩⟩, .of_keep hk, ho, .of_eq hg'⟩
    exact ⟨_, rfl, z.1, z.2.1, z.2.2, fun q => (nomatch q)⟩
theorem law_of_call (H : CallOk) : PySem.Challenge.rw_ta0028_01.Holds := law_holds (defs_is ▸ open_by H) witness_ok
end Mine

end
/-! ## RxBase -/
section
open PySem
namespace Mine
open PySem.Sre

/-- what a search is to come to: the span, or nothing -/
def Ends (m : M) (r : Option (Nat × Nat)) (k : Nat) : Prop := match r with
  | some (b, e) => (m.runFor k).outcome = some .matched ∧ (m.runFor k).start = b ∧ (m.runFor k).handed = e
  | none => (m.runFor k).outcome = some .failed
theorem runFor_done {m : M} (h : m.outcome.isSome = true) : ∀ k, m.runFor k = m
  | 0 => rfl
  | k + 1 => by rw [M.runFor, if_pos h]
theorem runFor_add (m : M) : ∀ (j k : Nat), m.runFor (j + k) = (m.runFor j).runFor k
  | 0, k => by rw [Nat.zero_add]; rfl
  | j + 1, k => by
    rw [show j + 1 + k = (j + k) + 1 by omega]
    by_cases h : m.outcome.isSome = true
    · rw [runFor_done h, runFor_done h, runFor_done h]
    · rw [M.runFor, if_neg h, M.runFor, if_neg h]; exact runFor_add m.step j k
theorem Ends.isSome {m : M} {r : Option (Nat × Nat)} {k : Nat} (h : Ends m r k) : (m.runFor k).outcome.isSome = true := by
  cases r with
  | none => have h : (m.runFor k).outcome = some .failed := h; rw [h]; rfl
  | some p => obtain ⟨b, e⟩ := p; have h : (m.runFor k).outcome = some .matched := h.1; rw [h]; rfl
theorem Ends.mono {m : M} {r : Option (Nat × Nat)} {k : Nat} (h : Ends m r k) {k' : Nat} (hk : k ≤ k') : Ends m r k' := by
  have e : m.runFor k' = m.runFor k := by
    rw [show k' = k + (k' - k) by omega, runFor_add, runFor_done h.isSome]
  unfold Ends at h ⊢; rw [e]; exact h
theorem Ends.step {m : M} {r : Option (Nat × Nat)} {k : Nat} (hm : m.outcome = none) (h : Ends m.step r k) : Ends m r (k + 1) := by
  have e : m.runFor (k + 1) = m.step.runFor k := by rw [M.runFor, if_neg (by rw [hm]; decide)]
  unfold Ends at h ⊢; rw [e]; exact h
/-- n steps of the machine, one after the other -/
theorem Ends.steps {m m' : M} {r : Option (Nat × Nat)} {k : Nat} (n : Nat) (hm : m.runFor n = m') (h : Ends m' r k) : Ends m r (n + k) := by
  subst hm
  unfold Ends at h ⊢; rw [runFor_add]; exact h

section
variable {m : M}
theorem step_exec (h0 : m.outcome = none) (h1 : m.answer = none) (h2 : m.pc < m.code.size) : m.step = m.exec := by
  unfold M.step
  rw [if_neg (by rw [h0]; decide)]
  split
  · rename_i e _; rw [h1] at e; cases e
  · rename_i e _; rw [h1] at e; cases e
  · rw [if_pos h2]
theorem step_end {b : Bool} (h0 : m.outcome = none) (h1 : m.answer = some b) (h2 : m.frames = []) : m.step = { m with outcome := some (if b then .matched else .failed) } := by
  unfold M.step
  rw [if_neg (by rw [h0]; decide)]
  split
  · rename_i yes e _; rw [h1] at e; cases e; rfl
  · rename_i e; rw [h2] at e; cases e
  · rename_i e; rw [h1] at e; cases e
theorem step_resume {b : Bool} {f : Sre.Frame} {rest : List Sre.Frame} (h0 : m.outcome = none) (h1 : m.answer = some b) (h2 : m.frames = f :: rest) :
    m.step = M.resume { m with answer := none, frames := rest, weight := m.weight - (1 + f.kept.marks.size), pc := f.pc, pos := f.pos, outermost := f.outermost } f b := by
  unfold M.step
  rw [if_neg (by rw [h0]; decide)]
  split
  · rename_i e; rw [h2] at e; cases e
  · rename_i yes f' rest' e1 e2; rw [h1] at e1; rw [h2] at e2; cases e1; cases e2; rfl
  · rename_i e; rw [h1] at e; cases e

theorem exec_fail (h : ops[m.word 0]? = some .FAILURE) : m.exec = { m with seen := m.seen.add (m.word 0) }.say false := by
  unfold M.exec; rw [h]
theorem exec_success (h : ops[m.word 0]? = some .SUCCESS) (h1 : m.wholeText = false) (h2 : m.mustAdvance = false) : m.exec = { m with seen := m.seen.add (m.word 0), handed := m.pos, answer := some true } := by
  unfold M.exec; rw [h]; dsimp only; rw [if_neg (by rw [h1, h2]; simp)]; rfl
theorem exec_char {op : Op} {yes : Bool} {sn : Seen} (h : ops[m.word 0]? = some op) (ho : op = .ANY ∨ op = .LITERAL ∨ op = .IN) (hp : m.pos < m.lim)
    (ha : accepts m.code m.pc (m.text.getD m.pos 0) (m.seen.add (m.word 0)) = .ok (yes, sn)) :
    m.exec = if yes then { m with seen := sn, pc := m.pc + itemWidth m.code m.pc, pos := m.pos + 1 } else { m with seen := sn, answer := some false } := by
  unfold M.exec; rw [h]
  rcases ho with rfl | rfl | rfl <;> (dsimp only; rw [if_neg (by omega), ha]; cases yes <;> rfl)
theorem exec_char_end {op : Op} (h : ops[m.word 0]? = some op) (ho : op = .ANY ∨ op = .LITERAL ∨ op = .IN) (hp : ¬ m.pos < m.lim) : m.exec = { m with seen := m.seen.add (m.word 0), answer := some false } := by
  unfold M.exec; rw [h]
  rcases ho with rfl | rfl | rfl <;> (dsimp only; rw [if_pos (by omega)]; rfl)
theorem exec_jump (h : ops[m.word 0]? = some .JUMP) : m.exec = { m with seen := m.seen.add (m.word 0), pc := m.pc + 1 + m.word 1 } := by
  unfold M.exec; rw [h]; rfl
theorem exec_at {yes : Bool} (h : ops[m.word 0]? = some .AT) (ha : m.isAt (m.word 1) = .ok yes) :
    m.exec = if yes then { m with seen := (m.seen.add (m.word 0)).add (43 + m.word 1), pc := m.pc + 2 } else { m with seen := (m.seen.add (m.word 0)).add (43 + m.word 1), answer := some false } := by
  unfold M.exec; rw [h]
  dsimp only
  have ha' : M.isAt { m with seen := m.seen.add (m.word 0) } (M.word { m with seen := m.seen.add (m.word 0) } 1) = .ok yes := ha
  rw [ha']
  cases yes <;> rfl
theorem exec_branch (h : ops[m.word 0]? = some .BRANCH) : m.exec = M.alternative { m with seen := m.seen.add (m.word 0) } (m.pc + 1) (m.keep m.inner.isSome) := by
  unfold M.exec; rw [h]; rfl
theorem exec_assert_not (h : ops[m.word 0]? = some .ASSERT_NOT) (hp : ¬ m.pos < m.word 2) : m.exec = M.attempt { m with seen := m.seen.add (m.word 0) } { M.frame { m with seen := m.seen.add (m.word 0) } .lookNot with kept := m.keep (true && m.inner.isSome) } (m.pc + 3) (m.pos - m.word 2) false := by
  unfold M.exec; rw [h]; dsimp only
  have hp' : ¬ m.pos < M.word { m with seen := m.seen.add (m.word 0) } 2 := hp
  rw [if_neg hp']; rfl
theorem exec_poss (h : ops[m.word 0]? = some .POSSESSIVE_REPEAT) : m.exec = M.possessive { m with seen := m.seen.add (m.word 0), loops := m.loops.push { pc := 0, outer := m.inner }, inner := some m.loops.size, handed := m.pos } m.loops.size 0 none := by
  unfold M.exec; rw [h]
end
end Mine

end
/-! ## RxScan -/
section
open PySem
namespace Mine
open PySem.Sre
section
variable {m : M}
/-- a step of the machine that reads one letter -/
theorem st_lit_yes (h0 : m.outcome = none) (h1 : m.answer = none) (h2 : m.pc < m.code.size) (h : ops[m.word 0]? = some .LITERAL) (hp : m.pos < m.lim)
    (hc : (m.text.getD m.pos 0 == m.word 1) = true) : m.step = { m with seen := m.seen.add (m.word 0), pc := m.pc + 2, pos := m.pos + 1 } := by
  have e : itemWidth m.code m.pc = 2 := by
    unfold itemWidth
    have h' : ops[m.code.getD m.pc 0]? = some .LITERAL := h
    rw [h']
  rw [step_exec h0 h1 h2, exec_char (yes := true) (sn := m.seen.add (m.word 0)) h (.inr (.inl rfl)) hp ?_, e]
  · rfl
  · have h' : ops[m.code.getD m.pc 0]? = some .LITERAL := h
    unfold accepts; rw [h']
    show Except.ok (m.text.getD m.pos 0 == m.word 1, _) = _
    rw [hc]
theorem st_lit_no (h0 : m.outcome = none) (h1 : m.answer = none) (h2 : m.pc < m.code.size) (h : ops[m.word 0]? = some .LITERAL)
    (hc : m.pos < m.lim → (m.text.getD m.pos 0 == m.word 1) = false) : m.step = { m with seen := m.seen.add (m.word 0), answer := some false } := by
  rw [step_exec h0 h1 h2]
  by_cases hp : m.pos < m.lim
  · rw [exec_char (yes := false) (sn := m.seen.add (m.word 0)) h (.inr (.inl rfl)) hp ?_]
    · rfl
    · have h' : ops[m.code.getD m.pc 0]? = some .LITERAL := h
      unfold accepts; rw [h']
      show Except.ok (m.text.getD m.pos 0 == m.word 1, _) = _
      rw [hc hp]
  · rw [exec_char_end h (.inr (.inl rfl)) hp]
theorem st_any_yes (h0 : m.outcome = none) (h1 : m.answer = none) (h2 : m.pc < m.code.size) (h : ops[m.word 0]? = some .ANY) (hp : m.pos < m.lim)
    (hc : (m.text.getD m.pos 0 != 10) = true) : m.step = { m with seen := m.seen.add (m.word 0), pc := m.pc + 1, pos := m.pos + 1 } := by
  have e : itemWidth m.code m.pc = 1 := by
    unfold itemWidth
    have h' : ops[m.code.getD m.pc 0]? = some .ANY := h
    rw [h']
  rw [step_exec h0 h1 h2, exec_char (yes := true) (sn := m.seen.add (m.word 0)) h (.inl rfl) hp ?_, e]
  · rfl
  · have h' : ops[m.code.getD m.pc 0]? = some .ANY := h
    unfold accepts; rw [h']
    show Except.ok (m.text.getD m.pos 0 != 10, _) = _
    rw [hc]
theorem st_any_no (h0 : m.outcome = none) (h1 : m.answer = none) (h2 : m.pc < m.code.size) (h : ops[m.word 0]? = some .ANY)
    (hc : m.pos < m.lim → (m.text.getD m.pos 0 != 10) = false) : m.step = { m with seen := m.seen.add (m.word 0), answer := some false } := by
  rw [step_exec h0 h1 h2]
  by_cases hp : m.pos < m.lim
  · rw [exec_char (yes := false) (sn := m.seen.add (m.word 0)) h (.inl rfl) hp ?_]
    · rfl
    · have h' : ops[m.code.getD m.pc 0]? = some .ANY := h
      unfold accepts; rw [h']
      show Except.ok (m.text.getD m.pos 0 != 10, _) = _
      rw [hc hp]
  · rw [exec_char_end h (.inl rfl) hp]
theorem st_in_yes {sn : Seen} (h0 : m.outcome = none) (h1 : m.answer = none) (h2 : m.pc < m.code.size) (h : ops[m.word 0]? = some .IN) (hp : m.pos < m.lim)
    (hc : inSet m.code (m.text.getD m.pos 0) m.code.size (m.pc + 2) true (m.seen.add (m.word 0)) = .ok (true, sn)) : m.step = { m with seen := sn, pc := m.pc + (1 + m.word 1), pos := m.pos + 1 } := by
  have e : itemWidth m.code m.pc = 1 + m.word 1 := by
    unfold itemWidth
    have h' : ops[m.code.getD m.pc 0]? = some .IN := h
    rw [h']; rfl
  rw [step_exec h0 h1 h2, exec_char (yes := true) (sn := sn) h (.inr (.inr rfl)) hp ?_, e]
  · rfl
  · have h' : ops[m.code.getD m.pc 0]? = some .IN := h
    unfold accepts; rw [h']
    exact hc
theorem st_in_no {sn : Seen} (h0 : m.outcome = none) (h1 : m.answer = none) (h2 : m.pc < m.code.size) (h : ops[m.word 0]? = some .IN) (hp : m.pos < m.lim)
    (hc : inSet m.code (m.text.getD m.pos 0) m.code.size (m.pc + 2) true (m.seen.add (m.word 0)) = .ok (false, sn)) : m.step = { m with seen := sn, answer := some false } := by
  rw [step_exec h0 h1 h2, exec_char (yes := false) (sn := sn) h (.inr (.inr rfl)) hp ?_]
  · rfl
  · have h' : ops[m.code.getD m.pc 0]? = some .IN := h
    unfold accepts; rw [h']
    exact hc
theorem st_in_end (h0 : m.outcome = none) (h1 : m.answer = none) (h2 : m.pc < m.code.size) (h : ops[m.word 0]? = some .IN) (hp : ¬ m.pos < m.lim) : m.step = { m with seen := m.seen.add (m.word 0), answer := some false } := by
  rw [step_exec h0 h1 h2, exec_char_end h (.inr (.inr rfl)) hp]
theorem st_jump (h0 : m.outcome = none) (h1 : m.answer = none) (h2 : m.pc < m.code.size) (h : ops[m.word 0]? = some .JUMP) : m.step = { m with seen := m.seen.add (m.word 0), pc := m.pc + 1 + m.word 1 } := by
  rw [step_exec h0 h1 h2, exec_jump h]
theorem st_success (h0 : m.outcome = none) (h1 : m.answer = none) (h2 : m.pc < m.code.size) (h : ops[m.word 0]? = some .SUCCESS) (h3 : m.wholeText = false) (h4 : m.mustAdvance = false) :
    m.step = { m with seen := m.seen.add (m.word 0), handed := m.pos, answer := some true } := by
  rw [step_exec h0 h1 h2, exec_success h h3 h4]
theorem st_branch (h0 : m.outcome = none) (h1 : m.answer = none) (h2 : m.pc < m.code.size) (h : ops[m.word 0]? = some .BRANCH) :
    m.step = M.alternative { m with seen := m.seen.add (m.word 0) } (m.pc + 1) (m.keep m.inner.isSome) := by
  rw [step_exec h0 h1 h2, exec_branch h]
theorem st_not (h0 : m.outcome = none) (h1 : m.answer = none) (h2 : m.pc < m.code.size) (h : ops[m.word 0]? = some .ASSERT_NOT) (hp : ¬ m.pos < m.word 2) :
    m.step = M.attempt { m with seen := m.seen.add (m.word 0) } { M.frame { m with seen := m.seen.add (m.word 0) } .lookNot with kept := m.keep (true && m.inner.isSome) } (m.pc + 3) (m.pos - m.word 2) false := by
  rw [step_exec h0 h1 h2, exec_assert_not h hp]
theorem st_poss (h0 : m.outcome = none) (h1 : m.answer = none) (h2 : m.pc < m.code.size) (h : ops[m.word 0]? = some .POSSESSIVE_REPEAT) :
    m.step = M.possessive { m with seen := m.seen.add (m.word 0), loops := m.loops.push { pc := 0, outer := m.inner }, inner := some m.loops.size, handed := m.pos } m.loops.size 0 none := by
  rw [step_exec h0 h1 h2, exec_poss h]
theorem st_at_yes (h0 : m.outcome = none) (h1 : m.answer = none) (h2 : m.pc < m.code.size) (h : ops[m.word 0]? = some .AT) (ha : m.isAt (m.word 1) = .ok true) :
    m.step = { m with seen := (m.seen.add (m.word 0)).add (43 + m.word 1), pc := m.pc + 2 } := by
  rw [step_exec h0 h1 h2, exec_at h ha]; rfl
theorem st_at_no (h0 : m.outcome = none) (h1 : m.answer = none) (h2 : m.pc < m.code.size) (h : ops[m.word 0]? = some .AT) (ha : m.isAt (m.word 1) = .ok false) :
    m.step = { m with seen := (m.seen.add (m.word 0)).add (43 + m.word 1), answer := some false } := by
  rw [step_exec h0 h1 h2, exec_at h ha]; rfl
end

def nx (pc s : Nat) (o : Bool) : Sre.Frame := { wait := .nextStart, pc := pc, pos := s, outermost := o }
/-- a machine in the midst of a search -/
def Mk (c text : Array Nat) (s pc pos hd : Nat) (o : Bool) (lps : Array Sre.Loop) (inn : Option Nat) (fs : List Sre.Frame) (w : Nat) (ans : Option Bool) (sn : Seen) : M :=
  { code := c, text, lim := text.size, start := s, lastStart := text.size, pc, pos, handed := hd, outermost := o, marks := #[], loops := lps, inner := inn, frames := fs, weight := w, answer := ans, seen := sn }
/-- the machine as it begins to try at s -/
def tr (c text : Array Nat) (pc0 s : Nat) (o : Bool) (sn : Seen) : M := Mk c text s pc0 s s o #[] none [nx pc0 s o] 1 none sn
/-- the machine comes within K steps to the end of its try -/
def Tries (c text : Array Nat) (pc0 s : Nat) (o : Bool) (b : Option Nat) (m : M) (K : Nat) : Prop :=
  ∃ j, j ≤ K ∧ ∃ pc pos hd o' sn', m.runFor j = Mk c text s pc pos hd o' #[] none [nx pc0 s o] 1 (some b.isSome) sn' ∧ ∀ e, b = some e → hd = e
theorem Tries.here {c text : Array Nat} {pc0 s : Nat} {o : Bool} {b : Option Nat} {pc pos hd : Nat} {o' : Bool} {sn : Seen} (he : ∀ e, b = some e → hd = e) {a : Option Bool} (ha : a = some b.isSome) {K : Nat} :
    Tries c text pc0 s o b (Mk c text s pc pos hd o' #[] none [nx pc0 s o] 1 a sn) K := by
  subst ha
  exact ⟨0, Nat.zero_le _, pc, pos, hd, o', sn, rfl, he⟩
theorem Tries.to {c text : Array Nat} {pc0 s : Nat} {o : Bool} {b : Option Nat} {m m' : M} {K : Nat} (e : m.step = m') (hm : m.outcome = none) (h : Tries c text pc0 s o b m' K) : Tries c text pc0 s o b m (K + 1) := by
  obtain ⟨j, hj, pc, pos, hd, o', sn', h, he⟩ := h
  refine ⟨j + 1, by omega, pc, pos, hd, o', sn', ?_, he⟩
  rw [M.runFor, if_neg (by rw [hm]; decide), e]; exact h
theorem Tries.mono {c text : Array Nat} {pc0 s : Nat} {o : Bool} {b : Option Nat} {m : M} {K K' : Nat} (h : Tries c text pc0 s o b m K) (hk : K ≤ K') : Tries c text pc0 s o b m K' := by
  obtain ⟨j, hj, h⟩ := h
  exact ⟨j, by omega, h⟩
theorem resume_next (m : M) (p q : Nat) (o : Bool) (c : Int) (l : Nat) (kept : Sre.Kept) (bg : Option Nat) (b : Bool) :
    M.resume m { wait := .nextStart, pc := p, pos := q, outermost := o, count := c, loop := l, kept := kept, began := bg } b = if b then m.say true else if q < m.lastStart then { m with mustAdvance := false }.attemptFrom (q + 1) false else m.say false := by
  unfold M.resume; rfl
theorem Mk_attemptAt (c text : Array Nat) (s' s pc pos hd : Nat) (o o' : Bool) (sn : Seen) :
    M.attemptAt (Mk c text s' pc pos hd o' #[] none [] 0 none sn) s o = tr c text pc s o sn := rfl
theorem found_ends {c text : Array Nat} {pc0 s : Nat} {o : Bool} {pc pos hd : Nat} {o' : Bool} {sn : Seen} : Ends (Mk c text s pc pos hd o' #[] none [nx pc0 s o] 1 (some true) sn) (some (s, hd)) 2 := by
  have e : (Mk c text s pc pos hd o' #[] none [nx pc0 s o] 1 (some true) sn).step = Mk c text s pc0 s hd o #[] none [] 0 (some true) sn := by
    rw [step_resume (b := true) rfl rfl rfl]
    show M.resume (Mk c text s pc0 s hd o #[] none [] 0 none sn) { wait := .nextStart, pc := pc0, pos := s, outermost := o } true = _
    rw [resume_next, if_pos rfl]
    rfl
  refine Ends.step (k := 1) rfl ?_
  rw [e]
  exact Ends.step (k := 0) rfl ⟨rfl, rfl, rfl⟩
theorem missed_ends {c text : Array Nat} {pc0 s : Nat} {o : Bool} {pc pos hd : Nat} {o' : Bool} {sn : Seen} {r : Option (Nat × Nat)} {k : Nat}
    (hc : (Mk c text s pc0 s hd o #[] none [] 0 none sn).hasFirstSet = false)
    (h : if s < text.size then Ends (tr c text pc0 (s + 1) false sn) r k else r = none) : Ends (Mk c text s pc pos hd o' #[] none [nx pc0 s o] 1 (some false) sn) r (k + 2) := by
  by_cases hs : s < text.size
  · rw [if_pos hs] at h
    refine Ends.mono (Ends.step (k := k) rfl ?_) (by omega)
    have e : (Mk c text s pc pos hd o' #[] none [nx pc0 s o] 1 (some false) sn).step = M.attemptFrom (Mk c text s pc0 s hd o #[] none [] 0 none sn) (s + 1) false := by
      rw [step_resume (b := false) rfl rfl rfl]
      show M.resume (Mk c text s pc0 s hd o #[] none [] 0 none sn) { wait := .nextStart, pc := pc0, pos := s, outermost := o } false = _
      rw [resume_next, if_neg Bool.false_ne_true]
      exact if_pos hs
    rw [e]
    unfold M.attemptFrom
    rw [hc, if_pos (show (!false) = true from rfl), Mk_attemptAt]
    exact h
  · rw [if_neg hs] at h
    subst h
    refine Ends.mono (Ends.step (k := 1) rfl ?_) (by omega)
    have e : (Mk c text s pc pos hd o' #[] none [nx pc0 s o] 1 (some false) sn).step = (Mk c text s pc0 s hd o #[] none [] 0 (some false) sn) := by
      rw [step_resume (b := false) rfl rfl rfl]
      show M.resume (Mk c text s pc0 s hd o #[] none [] 0 none sn) { wait := .nextStart, pc := pc0, pos := s, outermost := o } false = _
      rw [resume_next, if_neg Bool.false_ne_true]
      exact if_neg hs
    rw [e]
    exact Ends.step (k := 0) rfl rfl
/-- the first place from s on that fits -/
def nextFit (fit : Nat → Option Nat) : Nat → Nat → Option (Nat × Nat)
  | 0, _ => none
  | n + 1, s => match fit s with
    | some e => some (s, e)
    | none => nextFit fit n (s + 1)
theorem scan_ends {c text : Array Nat} {pc0 : Nat} {fit : Nat → Option Nat} {K : Nat} (hc : ∀ s hd o sn, (Mk c text s pc0 s hd o #[] none [] 0 none sn).hasFirstSet = false)
    (ht : ∀ s o sn, s ≤ text.size → Tries c text pc0 s o (fit s) (tr c text pc0 s o sn) K) : ∀ (n s : Nat) (o : Bool) (sn : Seen), s + n = text.size → Ends (tr c text pc0 s o sn) (nextFit fit (n + 1) s) ((K + 2) * (n + 1))
  | n, s, o, sn, hn => by
    obtain ⟨j, hj, pc, pos, hd, o', sn', h, he⟩ := ht s o sn (by omega)
    unfold nextFit
    cases hf : fit s with
    | some e =>
      rw [hf] at h
      have : hd = e := he e hf
      subst this
      refine Ends.mono (Ends.steps j h found_ends) ?_
      rw [Nat.mul_add]; omega
    | none =>
      rw [hf] at h
      refine Ends.mono (Ends.steps j h (missed_ends (k := (K + 2) * n) (hc ..) ?_)) (by rw [Nat.mul_add]; omega)
      by_cases hs : s < text.size
      · rw [if_pos hs]
        obtain ⟨n', rfl⟩ : ∃ n', n = n' + 1 := ⟨n - 1, by omega⟩
        exact scan_ends hc ht n' (s + 1) false sn' (by omega)
      · rw [if_neg hs]
        obtain rfl : n = 0 := by omega
        rfl
end Mine

end
/-! ## Rx1 -/
section
open PySem
namespace Mine
open PySem.Sre
/-- the words of the pattern of a line's first dot -/
def c1 : Array Nat := #[14, 4, 0, 1, 1, 6, 1, 16, 46, 1]
def fit1 (text : Array Nat) (s : Nat) : Option Nat := if (s == 0 || text.getD (s - 1) 0 == 10) && (decide (s < text.size) && text.getD s 0 == 46) then some (s + 1) else none
theorem try1 (text : Array Nat) (s : Nat) (o : Bool) (sn : Seen) : Tries c1 text 5 s o (fit1 text s) (tr c1 text 5 s o sn) 3 := by
  unfold fit1
  have hat : (tr c1 text 5 s o sn).isAt ((tr c1 text 5 s o sn).word 1) = .ok (s == 0 || text.getD (s - 1) 0 == 10) := rfl
  cases hb : (s == 0 || text.getD (s - 1) 0 == 10) with
  | false =>
    exact .to (st_at_no rfl rfl (by show 5 < 10; decide) rfl (hat.trans (congrArg _ hb))) rfl (.here (pc := 5) (pos := s) (hd := s) (o' := o) (fun e h => by cases h) rfl)
  | true =>
    refine .to (st_at_yes rfl rfl (by show 5 < 10; decide) rfl (hat.trans (congrArg _ hb))) rfl ?_
    cases hc : (decide (s < text.size) && text.getD s 0 == 46) with
    | false =>
      refine .to (st_lit_no rfl rfl (by show 7 < 10; decide) rfl ?_) rfl (.here (pc := 7) (pos := s) (hd := s) (o' := o) (fun e h => by cases h) rfl)
      intro (hs : s < text.size)
      rw [decide_eq_true hs] at hc
      exact hc
    | true =>
      simp only [Bool.and_eq_true, decide_eq_true_eq] at hc
      refine .to (st_lit_yes rfl rfl (by show 7 < 10; decide) rfl hc.1 hc.2) rfl ?_
      refine .to (st_success rfl rfl (by show 9 < 10; decide) rfl rfl rfl) rfl (.here (pc := 9) (pos := s + 1) (hd := s + 1) (o' := o) (fun e h => by cases h; rfl) rfl)
theorem search1 (text : Array Nat) (s : Nat) (hs : s ≤ text.size) : Ends (forSearch c1 text 0 s text.size false) (if s < text.size then nextFit (fit1 text) (text.size - s + 1) s else none) (5 * (text.size + 2)) := by
  by_cases h : s < text.size
  · rw [if_pos h]
    have e : ∃ sn, forSearch c1 text 0 s text.size false = tr c1 text 5 s true sn := by
      unfold forSearch
      dsimp only
      rw [show (header c1).1 = 1 from rfl, show (header c1).2 = 5 from rfl]
      rw [if_neg (by simp; omega)]
      exact ⟨_, rfl⟩
    obtain ⟨sn, e⟩ := e
    rw [e]
    exact (scan_ends (fun _ _ _ _ => rfl) (fun s o sn _ => try1 text s o sn) (text.size - s) s true sn (by omega)).mono (by omega)
  · rw [if_neg h]
    have e : (forSearch c1 text 0 s text.size false).outcome = none ∧ (forSearch c1 text 0 s text.size false).answer = some false ∧ (forSearch c1 text 0 s text.size false).frames = [] := by
      unfold forSearch
      dsimp only
      rw [show (header c1).1 = 1 from rfl, show (header c1).2 = 5 from rfl]
      rw [if_pos (by simp; omega)]
      exact ⟨rfl, rfl, rfl⟩
    refine Ends.mono (Ends.step (k := 0) e.1 ?_) (by omega)
    rw [step_end e.1 e.2.1 e.2.2]
    rfl
end Mine

end
/-! ## Rx2 -/
section
open PySem
namespace Mine
open PySem.Sre
/-- the words of the pattern of a line's end -/
def c2 : Array Nat := #[14, 9, 4, 1, 2, 16, 10, 16, 13, 0, 7, 7, 16, 13, 16, 10, 15, 18, 5, 16, 10, 15, 13, 11, 16, 13, 5, 5, 0, 16, 10, 1, 15, 2, 0, 1]
def fit2 (text : Array Nat) (s : Nat) : Option Nat :=
  if s < text.size then if text.getD s 0 == 13 then if decide (s + 1 < text.size) && text.getD (s + 1) 0 == 10 then some (s + 2) else some (s + 1) else if text.getD s 0 == 10 then some (s + 1) else none else none
def bf (alt s : Nat) (o : Bool) : Sre.Frame := { wait := .nextBranch, pc := alt, pos := s, outermost := o }
theorem fin2 {text : Array Nat} {s pos hd a : Nat} {o : Bool} {sn : Seen} {K : Nat} : Tries c2 text 10 s o (some pos) (Mk c2 text s 35 pos hd o #[] none [bf a s o, nx 10 s o] 2 none sn) (K + 2) :=
  .to (st_success rfl rfl (by show 35 < 36; decide) rfl rfl rfl) rfl (.to (step_resume (b := true) (f := bf a s o) (rest := [nx 10 s o]) rfl rfl rfl) rfl (.here (pc := a) (pos := s) (hd := pos) (o' := o) (fun e h => by cases h; rfl) rfl))
theorem try2 (text : Array Nat) (s : Nat) (o : Bool) (sn : Seen) (h : (fit2 text s).isSome = true) : Tries c2 text 10 s o (fit2 text s) (tr c2 text 10 s o sn) 13 := by
  unfold fit2 at h ⊢
  by_cases hs : s < text.size
  case neg => rw [if_neg hs] at h; cases h
  rw [if_pos hs] at h ⊢
  refine .to (st_branch rfl rfl (by show 10 < 36; decide) rfl) rfl ?_
  show Tries c2 text 10 s o _ (Mk c2 text s 12 s s o #[] none [bf 11 s o, nx 10 s o] 2 none _) 12
  cases ha : (text.getD s 0 == 13) with
  | true =>
    rw [if_pos rfl]
    refine .to (st_lit_yes rfl rfl (by show 12 < 36; decide) rfl hs ha) rfl ?_
    cases hb : (decide (s + 1 < text.size) && text.getD (s + 1) 0 == 10) with
    | true =>
      rw [if_pos rfl]
      simp only [Bool.and_eq_true, decide_eq_true_eq] at hb
      refine .to (st_lit_yes rfl rfl (by show 14 < 36; decide) rfl hb.1 hb.2) rfl ?_
      refine .to (st_jump rfl rfl (by show 16 < 36; decide) rfl) rfl ?_
      exact fin2 (a := 11) (hd := s)
    | false =>
      rw [if_neg Bool.false_ne_true]
      have hb' : s + 1 < text.size → (text.getD (s + 1) 0 == 10) = false := by
        intro h; rw [decide_eq_true h] at hb; exact hb
      have ha' : (text.getD s 0 == 10) = false := by
        rw [eq_of_beq ha]; rfl
      refine .to (st_lit_no rfl rfl (by show 14 < 36; decide) rfl hb') rfl ?_
      refine .to (step_resume (b := false) (f := bf 11 s o) (rest := [nx 10 s o]) rfl rfl rfl) rfl ?_
      show Tries c2 text 10 s o _ (Mk c2 text s 19 s s o #[] none [bf 18 s o, nx 10 s o] 2 none _) 9
      refine .to (st_lit_no rfl rfl (by show 19 < 36; decide) rfl (fun _ => ha')) rfl ?_
      refine .to (step_resume (b := false) (f := bf 18 s o) (rest := [nx 10 s o]) rfl rfl rfl) rfl ?_
      show Tries c2 text 10 s o _ (Mk c2 text s 24 s s o #[] none [bf 23 s o, nx 10 s o] 2 none _) 7
      refine .to (st_lit_yes rfl rfl (by show 24 < 36; decide) rfl hs ha) rfl ?_
      refine .to (st_not rfl rfl (by show 26 < 36; decide) rfl (Nat.not_lt_zero _)) rfl ?_
      show Tries c2 text 10 s o _ (Mk c2 text s 29 (s + 1) (s + 1) false #[] none [{ wait := .lookNot, pc := 26, pos := s + 1, outermost := o }, bf 23 s o, nx 10 s o] 3 none _) 5
      refine .to (st_lit_no rfl rfl (by show 29 < 36; decide) rfl hb') rfl ?_
      refine .to (step_resume (b := false) (f := { wait := .lookNot, pc := 26, pos := s + 1, outermost := o }) (rest := [bf 23 s o, nx 10 s o]) rfl rfl rfl) rfl ?_
      show Tries c2 text 10 s o _ (Mk c2 text s 32 (s + 1) (s + 1) o #[] none [bf 23 s o, nx 10 s o] 2 none _) 3
      refine .to (st_jump rfl rfl (by show 32 < 36; decide) rfl) rfl ?_
      exact fin2 (a := 23) (hd := s + 1) (K := 0)
  | false =>
    rw [ha, if_neg Bool.false_ne_true] at h
    rw [if_neg Bool.false_ne_true]
    cases hb : (text.getD s 0 == 10) with
    | false => rw [hb, if_neg Bool.false_ne_true] at h; cases h
    | true =>
      rw [if_pos rfl]
      refine .to (st_lit_no rfl rfl (by show 12 < 36; decide) rfl (fun _ => ha)) rfl ?_
      refine .to (step_resume (b := false) (f := bf 11 s o) (rest := [nx 10 s o]) rfl rfl rfl) rfl ?_
      show Tries c2 text 10 s o _ (Mk c2 text s 19 s s o #[] none [bf 18 s o, nx 10 s o] 2 none _) 10
      refine .to (st_lit_yes rfl rfl (by show 19 < 36; decide) rfl hs hb) rfl ?_
      refine .to (st_jump rfl rfl (by show 21 < 36; decide) rfl) rfl ?_
      exact fin2 (a := 18) (hd := s)
/-- the signs at which a try is begun -/
theorem set2 (c : Nat) (sn : Seen) : ∃ sn', inSet c2 c 36 5 true sn = .ok (c == 10 || c == 13, sn') := by
  have e1 : inSet c2 c 36 5 true sn = if c == 10 then .ok (true, sn.add 16) else if c == 13 then .ok (true, (sn.add 16).add 16) else .ok (false, ((sn.add 16).add 16).add 0) := rfl
  rw [e1]
  cases c == 10 <;> cases c == 13 <;> exact ⟨_, rfl⟩
theorem fit2_isSome (text : Array Nat) (s : Nat) : (fit2 text s).isSome = (decide (s < text.size) && (text.getD s 0 == 10 || text.getD s 0 == 13)) := by
  unfold fit2
  by_cases hs : s < text.size
  · rw [if_pos hs, decide_eq_true hs]
    cases text.getD s 0 == 13 <;> cases text.getD s 0 == 10 <;> cases (decide (s + 1 < text.size) && text.getD (s + 1) 0 == 10) <;> rfl
  · rw [if_neg hs, decide_eq_false hs]; rfl
theorem admitted2 (m : M) (text : Array Nat) (hc : m.code = c2) (ht : m.text = text) (hl : m.lim = text.size) : ∀ (n s : Nat) (sn : Seen), s + n = text.size →
    ∃ sn', M.admitted m (n + 1) s sn = .ok ((nextFit (fit2 text) (n + 1) s).map (·.1), sn')
  | n, s, sn, hn => by
    unfold M.admitted nextFit
    rw [hl, ht]
    by_cases hs : s < text.size
    · rw [if_neg (by omega)]
      have hcc : inSet m.code (text.getD s 0) m.code.size 5 true sn = inSet c2 (text.getD s 0) 36 5 true sn := by rw [hc]; rfl
      rw [hcc]
      obtain ⟨sn', e⟩ := set2 (text.getD s 0) sn
      rw [e]
      have hf := fit2_isSome text s
      rw [decide_eq_true hs] at hf
      cases hb : (text.getD s 0 == 10 || text.getD s 0 == 13) with
      | true =>
        rw [hb] at hf
        obtain ⟨x, hx⟩ := Option.isSome_iff_exists.1 hf
        rw [hx]
        exact ⟨_, rfl⟩
      | false =>
        rw [hb] at hf
        cases hx : fit2 text s with
        | some x => rw [hx] at hf; cases hf
        | none =>
          obtain ⟨n', rfl⟩ : ∃ n', n = n' + 1 := ⟨n - 1, by omega⟩
          exact admitted2 m text hc ht hl n' (s + 1) sn' (by omega)
    · rw [if_pos (by omega)]
      have hf := fit2_isSome text s
      rw [decide_eq_false hs] at hf
      obtain rfl : n = 0 := by omega
      cases hx : fit2 text s with
      | some x => rw [hx] at hf; cases hf
      | none => exact ⟨_, rfl⟩
theorem nextFit_some {fit : Nat → Option Nat} : ∀ {n s b e : Nat}, nextFit fit n s = some (b, e) → fit b = some e ∧ s ≤ b ∧ b < s + n
  | 0, s, b, e, h => by cases h
  | n + 1, s, b, e, h => by
    unfold nextFit at h
    cases hf : fit s with
    | some x => rw [hf] at h; cases h; exact ⟨hf, Nat.le_refl _, by omega⟩
    | none => rw [hf] at h; have := nextFit_some h; exact ⟨this.1, by omega, by omega⟩
theorem search2 (text : Array Nat) (s : Nat) (hs : s ≤ text.size) : Ends (forSearch c2 text 0 s text.size false) (if s < text.size then nextFit (fit2 text) (text.size - s + 1) s else none) (5 * (text.size + 2) + 15) := by
  by_cases h : s < text.size
  · rw [if_pos h]
    have e : ∃ sn, forSearch c2 text 0 s text.size false = M.attemptFrom (Mk c2 text s 10 s s true #[] none [] 0 none sn) s true := by
      unfold forSearch
      dsimp only
      rw [show (header c2).1 = 1 from rfl, show (header c2).2 = 10 from rfl]
      rw [if_neg (by simp; omega)]
      exact ⟨_, rfl⟩
    obtain ⟨sn, e⟩ := e
    rw [e]
    unfold M.attemptFrom
    rw [show M.hasFirstSet (Mk c2 text s 10 s s true #[] none [] 0 none sn) = true from rfl, if_neg (by decide)]
    have hlen : (Mk c2 text s 10 s s true #[] none [] 0 none sn).lim + 1 - s = (text.size - s) + 1 := by show text.size + 1 - s = _; omega
    rw [hlen]
    obtain ⟨sn', ea⟩ := admitted2 (Mk c2 text s 10 s s true #[] none [] 0 none sn) text rfl rfl rfl (text.size - s) s (Mk c2 text s 10 s s true #[] none [] 0 none sn).seen (by omega)
    rw [ea]
    cases hn : nextFit (fit2 text) (text.size - s + 1) s with
    | none =>
      show Ends (Mk c2 text s 10 s s true #[] none [] 0 (some false) sn') none _
      refine Ends.mono (k := 1) (Ends.step (k := 0) rfl ?_) (by omega)
      rfl
    | some p =>
      obtain ⟨b, en⟩ := p
      have hf := (nextFit_some hn).1
      show Ends (tr c2 text 10 b true sn') (some (b, en)) _
      obtain ⟨j, hj, pc, pos, hd, o', sn'', hh, he⟩ := try2 text b true sn' (by rw [hf]; rfl)
      rw [hf] at hh he
      have : hd = en := he en rfl
      subst this
      exact Ends.mono (Ends.steps j hh found_ends) (by omega)
  · rw [if_neg h]
    have e : (forSearch c2 text 0 s text.size false).outcome = none ∧ (forSearch c2 text 0 s text.size false).answer = some false ∧ (forSearch c2 text 0 s text.size false).frames = [] := by
      unfold forSearch
      dsimp only
      rw [show (header c2).1 = 1 from rfl, show (header c2).2 = 10 from rfl]
      rw [if_pos (by simp; omega)]
      exact ⟨rfl, rfl, rfl⟩
    refine Ends.mono (Ends.step (k := 0) e.1 ?_) (by omega)
    rw [step_end e.1 e.2.1 e.2.2]
    rfl
end Mine

end
/-! ## Rx0 -/
section
open PySem
namespace Mine
open PySem.Sre
/-- the words of the pattern of a text in quotes -/
def c0 : Array Nat := #[14, 8, 1, 2, 4294967295, 1, 1, 34, 0, 16, 34, 28, 22, 0, 4294967295, 7, 11, 13, 7, 21, 16, 34, 16, 92, 0, 15, 8, 6, 16, 92, 2, 15, 2, 0, 1, 16, 34, 1]
/-- one turn of the loop in the quotes -/
def body0 (text : Array Nat) (p : Nat) : Option Nat :=
  if p < text.size then if text.getD p 0 == 34 then none else if text.getD p 0 == 92 then if decide (p + 1 < text.size) && text.getD (p + 1) 0 != 10 then some (p + 2) else none else some (p + 1) else none
def loop0 (text : Array Nat) : Nat → Nat → Nat
  | 0, p => p
  | n + 1, p => match body0 text p with
    | some q => loop0 text n q
    | none => p
def tail0 (text : Array Nat) (e : Nat) : Option Nat := if decide (e < text.size) && text.getD e 0 == 34 then some (e + 1) else none
def fit0 (text : Array Nat) (s : Nat) : Option Nat := if decide (s < text.size) && text.getD s 0 == 34 then tail0 text (loop0 text (text.size - s) (s + 1)) else none
def lp0 : Sre.Loop := { pc := 0, outer := none }
def pf (count : Int) (q : Nat) (o : Bool) : Sre.Frame := { wait := .possMore, pc := 11, pos := q, outermost := o, count := count, kept := { whole := true }, loop := 0 }
def bt (a q : Nat) : Sre.Frame := { wait := .nextBranch, pc := a, pos := q, outermost := false, kept := { whole := true } }
theorem poss_go (m : M) (i : Nat) (count : Int) (began : Option Nat) (h1 : m.word 2 = 0) (h3 : m.word 3 = maxRepeat) (hc : 0 ≤ count) (hb : began ≠ some m.handed) :
    m.possessive i count began = m.attempt { m.frame .possMore with pos := m.handed, loop := i, count := count, kept := m.keep true } (m.pc + 4) m.handed false := by
  unfold M.possessive
  dsimp only
  rw [h1, h3, if_neg (by omega), if_pos]
  simp [hb]
theorem poss_stop (m : M) (i : Nat) (count : Int) (h1 : m.word 2 = 0) (hc : 0 ≤ count) :
    m.possessive i count (some m.handed) = { m with inner := (m.loopAt i).outer, loops := m.loops.pop, pc := m.pc + 2 + m.word 1, pos := m.handed } := by
  unfold M.possessive
  dsimp only
  rw [h1, if_neg (by omega), if_neg]
  simp
theorem set0 (c : Nat) (sn : Seen) : ∃ sn', inSet c0 c 38 19 true sn = .ok (!(c == 34 || c == 92), sn') := by
  have e1 : inSet c0 c 38 19 true sn = if c == 34 then .ok (false, (sn.add 21).add 16) else if c == 92 then .ok (false, ((sn.add 21).add 16).add 16) else .ok (true, (((sn.add 21).add 16).add 16).add 0) := rfl
  rw [e1]
  cases c == 34 <;> cases c == 92 <;> exact ⟨_, rfl⟩
theorem in0_no {text : Array Nat} {s q hd w : Nat} {o o' : Bool} {lps : Array Sre.Loop} {inn : Option Nat} {fs : List Sre.Frame} {sn : Seen} {b : Option Nat} {K : Nat} (hs : q < text.size) (hc : (text.getD q 0 == 34 || text.getD q 0 == 92) = true)
    (h : ∀ sn', Tries c0 text 9 s o b (Mk c0 text s 17 q hd o' lps inn fs w (some false) sn') K) : Tries c0 text 9 s o b (Mk c0 text s 17 q hd o' lps inn fs w none sn) (K + 1) := by
  obtain ⟨sn', e⟩ := set0 (text.getD q 0) (sn.add 13)
  rw [hc] at e
  exact .to (st_in_no rfl rfl (by show 17 < 38; decide) rfl hs e) rfl (h sn')
theorem in0_yes {text : Array Nat} {s q hd w : Nat} {o o' : Bool} {lps : Array Sre.Loop} {inn : Option Nat} {fs : List Sre.Frame} {sn : Seen} {b : Option Nat} {K : Nat} (hs : q < text.size) (hc : (text.getD q 0 == 34 || text.getD q 0 == 92) = false)
    (h : ∀ sn', Tries c0 text 9 s o b (Mk c0 text s 25 (q + 1) hd o' lps inn fs w none sn') K) : Tries c0 text 9 s o b (Mk c0 text s 17 q hd o' lps inn fs w none sn) (K + 1) := by
  obtain ⟨sn', e⟩ := set0 (text.getD q 0) (sn.add 13)
  rw [hc] at e
  exact .to (st_in_yes rfl rfl (by show 17 < 38; decide) rfl hs e) rfl (h sn')
theorem tail0_tries {text : Array Nat} {s e : Nat} {o : Bool} {hd : Nat} {sn : Seen} : Tries c0 text 9 s o (tail0 text e) (Mk c0 text s 35 e hd o #[] none [nx 9 s o] 1 none sn) 2 := by
  unfold tail0
  cases hb : (decide (e < text.size) && text.getD e 0 == 34) with
  | true =>
    simp only [Bool.and_eq_true, decide_eq_true_eq] at hb
    refine .to (st_lit_yes rfl rfl (by show 35 < 38; decide) rfl hb.1 hb.2) rfl ?_
    exact .to (st_success rfl rfl (by show 37 < 38; decide) rfl rfl rfl) rfl (.here (pc := 37) (pos := e + 1) (hd := e + 1) (o' := o) (fun e h => by cases h; rfl) rfl)
  | false =>
    refine .to (st_lit_no rfl rfl (by show 35 < 38; decide) rfl ?_) rfl (.here (pc := 35) (pos := e) (hd := hd) (o' := o) (fun e h => by cases h) rfl)
    intro (h : e < text.size)
    rw [decide_eq_true h] at hb
    exact hb
/-- the machine as a turn of the loop begins at q -/
def L0 (text : Array Nat) (s q : Nat) (count : Int) (o : Bool) (sn : Seen) : M := Mk c0 text s 15 q q false #[lp0] (some 0) [pf count q o, nx 9 s o] 2 none sn
theorem after0 {text : Array Nat} {s q hd p p' : Nat} {count : Int} {o o' : Bool} {sn : Seen} {b : Option Nat} {K : Nat} (hc : 0 ≤ count) (hq : q ≠ hd)
    (h : Tries c0 text 9 s o b (L0 text s hd (count + 1) o sn) K) : Tries c0 text 9 s o b (Mk c0 text s p p' hd o' #[lp0] (some 0) [pf count q o, nx 9 s o] 2 (some true) sn) (K + 1) := by
  refine .to ((step_resume (b := true) (f := pf count q o) (rest := [nx 9 s o]) rfl rfl rfl).trans ?_) rfl h
  show M.possessive (Mk c0 text s 11 q hd o #[lp0] (some 0) [nx 9 s o] 1 none sn) 0 (count + 1) (some q) = _
  rw [poss_go _ _ _ _ rfl rfl (by omega) (by intro e; exact hq (Option.some.inj e))]
  rfl
theorem stop0 {text : Array Nat} {s q hd p p' : Nat} {count : Int} {o o' : Bool} {sn : Seen} (hc : 0 ≤ count) :
    Tries c0 text 9 s o (tail0 text q) (Mk c0 text s p p' hd o' #[lp0] (some 0) [pf count q o, nx 9 s o] 2 (some false) sn) 3 := by
  refine .to ((step_resume (b := false) (f := pf count q o) (rest := [nx 9 s o]) rfl rfl rfl).trans ?_) rfl (tail0_tries (hd := q) (sn := sn))
  show M.possessive (Mk c0 text s 11 q q o #[lp0] (some 0) [nx 9 s o] 1 none sn) 0 count (some (Mk c0 text s 11 q q o #[lp0] (some 0) [nx 9 s o] 1 none sn).handed) = _
  rw [poss_stop _ _ _ rfl hc]
  rfl
set_option maxHeartbeats 2000000 in
theorem loop0_tries (text : Array Nat) (s : Nat) (o : Bool) : ∀ (n q : Nat) (count : Int) (sn : Seen), text.size ≤ q + n → 0 ≤ count → Tries c0 text 9 s o (tail0 text (loop0 text (n + 1) q)) (L0 text s q count o sn) (9 * n + 12)
  | n, q, count, sn, hn, hc => by
    unfold loop0
    have ih : ∀ q' sn', q < q' → q < text.size → Tries c0 text 9 s o (tail0 text (loop0 text n q')) (L0 text s q' (count + 1) o sn') (9 * n + 3) := by
      intro q' sn' h h'
      obtain ⟨n', rfl⟩ : ∃ n', n = n' + 1 := ⟨n - 1, by omega⟩
      exact (loop0_tries text s o n' q' (count + 1) sn' (by omega) (by omega)).mono (by omega)
    refine Tries.mono (K := 9 * n + 3 + 9) (.to (st_branch rfl rfl (by show 15 < 38; decide) rfl) rfl ?_) (by omega)
    show Tries c0 text 9 s o _ (Mk c0 text s 17 q q false #[lp0] (some 0) [bt 16 q, pf count q o, nx 9 s o] 3 none _) (9 * n + 3 + 8)
    by_cases hs : q < text.size
    · cases h34 : (text.getD q 0 == 34) with
      | true =>
        have hb : body0 text q = none := by unfold body0; rw [if_pos hs, h34]; rfl
        rw [hb]
        refine in0_no hs (by rw [h34]; rfl) fun sn' => ?_
        refine .to (step_resume (b := false) (f := bt 16 q) (rest := [pf count q o, nx 9 s o]) rfl rfl rfl) rfl ?_
        show Tries c0 text 9 s o _ (Mk c0 text s 28 q q false #[lp0] (some 0) [bt 27 q, pf count q o, nx 9 s o] 3 none _) (9 * n + 3 + 6)
        refine .to (st_lit_no rfl rfl (by show 28 < 38; decide) rfl (fun _ => by show (text.getD q 0 == 92) = false; rw [eq_of_beq h34]; rfl)) rfl ?_
        refine .to (step_resume (b := false) (f := bt 27 q) (rest := [pf count q o, nx 9 s o]) rfl rfl rfl) rfl ?_
        show Tries c0 text 9 s o _ (Mk c0 text s 27 q q false #[lp0] (some 0) [pf count q o, nx 9 s o] 2 (some false) _) _; exact (stop0 (p := 27) (p' := q) (o' := false) (hd := q) hc).mono (by omega)
      | false =>
        cases h92 : (text.getD q 0 == 92) with
        | false =>
          have hb : body0 text q = some (q + 1) := by unfold body0; rw [if_pos hs, h34, h92]; rfl
          rw [hb]
          refine in0_yes hs (by rw [h34, h92]; rfl) fun sn' => ?_
          refine .to (st_jump rfl rfl (by show 25 < 38; decide) rfl) rfl ?_
          refine .to (st_success rfl rfl (by show 34 < 38; decide) rfl rfl rfl) rfl ?_
          refine .to (step_resume (b := true) (f := bt 16 q) (rest := [pf count q o, nx 9 s o]) rfl rfl rfl) rfl ?_
          exact (after0 (p := 16) (p' := q) (o' := false) (hd := q + 1) hc (by omega) (ih (q + 1) _ (by omega) hs)).mono (by omega)
        | true =>
          refine in0_no hs (by rw [h34, h92]; rfl) fun sn' => ?_
          refine .to (step_resume (b := false) (f := bt 16 q) (rest := [pf count q o, nx 9 s o]) rfl rfl rfl) rfl ?_
          show Tries c0 text 9 s o _ (Mk c0 text s 28 q q false #[lp0] (some 0) [bt 27 q, pf count q o, nx 9 s o] 3 none _) (9 * n + 3 + 6)
          refine .to (st_lit_yes rfl rfl (by show 28 < 38; decide) rfl hs h92) rfl ?_
          cases h10 : (decide (q + 1 < text.size) && text.getD (q + 1) 0 != 10) with
          | true =>
            have hb : body0 text q = some (q + 2) := by unfold body0; rw [if_pos hs, h34, h92, h10]; rfl
            rw [hb]
            simp only [Bool.and_eq_true, decide_eq_true_eq] at h10
            refine .to (st_any_yes rfl rfl (by show 30 < 38; decide) rfl h10.1 h10.2) rfl ?_
            refine .to (st_jump rfl rfl (by show 31 < 38; decide) rfl) rfl ?_
            refine .to (st_success rfl rfl (by show 34 < 38; decide) rfl rfl rfl) rfl ?_
            refine .to (step_resume (b := true) (f := bt 27 q) (rest := [pf count q o, nx 9 s o]) rfl rfl rfl) rfl ?_
            exact (after0 (p := 27) (p' := q) (o' := false) (hd := q + 2) hc (by omega) (ih (q + 2) _ (by omega) hs)).mono (by omega)
          | false =>
            have hb : body0 text q = none := by unfold body0; rw [if_pos hs, h34, h92, h10]; rfl
            rw [hb]
            refine .to (st_any_no rfl rfl (by show 30 < 38; decide) rfl ?_) rfl ?_
            · intro (h : q + 1 < text.size)
              rw [decide_eq_true h] at h10
              exact h10
            show Tries c0 text 9 s o _ (Mk c0 text s 30 (q + 1) q false #[lp0] (some 0) [bt 27 q, pf count q o, nx 9 s o] 3 (some false) _) (9 * n + 3 + 4)
            refine .to (step_resume (b := false) (f := bt 27 q) (rest := [pf count q o, nx 9 s o]) rfl rfl rfl) rfl ?_
            show Tries c0 text 9 s o _ (Mk c0 text s 27 q q false #[lp0] (some 0) [pf count q o, nx 9 s o] 2 (some false) _) _; exact (stop0 (p := 27) (p' := q) (o' := false) (hd := q) hc).mono (by omega)
    · have hb : body0 text q = none := by unfold body0; rw [if_neg hs]
      rw [hb]
      refine .to (st_in_end rfl rfl (by show 17 < 38; decide) rfl hs) rfl ?_
      show Tries c0 text 9 s o _ (Mk c0 text s 17 q q false #[lp0] (some 0) [bt 16 q, pf count q o, nx 9 s o] 3 (some false) _) (9 * n + 3 + 7)
      refine .to (step_resume (b := false) (f := bt 16 q) (rest := [pf count q o, nx 9 s o]) rfl rfl rfl) rfl ?_
      show Tries c0 text 9 s o _ (Mk c0 text s 28 q q false #[lp0] (some 0) [bt 27 q, pf count q o, nx 9 s o] 3 none _) (9 * n + 3 + 6)
      refine .to (st_lit_no rfl rfl (by show 28 < 38; decide) rfl (fun h => absurd h hs)) rfl ?_
      show Tries c0 text 9 s o _ (Mk c0 text s 28 q q false #[lp0] (some 0) [bt 27 q, pf count q o, nx 9 s o] 3 (some false) _) (9 * n + 3 + 5)
      refine .to (step_resume (b := false) (f := bt 27 q) (rest := [pf count q o, nx 9 s o]) rfl rfl rfl) rfl ?_
      show Tries c0 text 9 s o _ (Mk c0 text s 27 q q false #[lp0] (some 0) [pf count q o, nx 9 s o] 2 (some false) _) _
      exact (stop0 (p := 27) (p' := q) (o' := false) (hd := q) hc).mono (by omega)
theorem try0 (text : Array Nat) (s : Nat) (o : Bool) (sn : Seen) (hs : s ≤ text.size) : Tries c0 text 9 s o (fit0 text s) (tr c0 text 9 s o sn) (9 * text.size + 14) := by
  unfold fit0
  cases hc : (decide (s < text.size) && text.getD s 0 == 34) with
  | false =>
    refine Tries.mono (K := 1) (.to (st_lit_no rfl rfl (by show 9 < 38; decide) rfl ?_) rfl (.here (pc := 9) (pos := s) (hd := s) (o' := o) (fun e h => by cases h) rfl)) (by omega)
    intro (hs : s < text.size)
    rw [decide_eq_true hs] at hc
    exact hc
  | true =>
    simp only [Bool.and_eq_true, decide_eq_true_eq] at hc
    refine .to (st_lit_yes rfl rfl (by show 9 < 38; decide) rfl hc.1 hc.2) rfl ?_
    refine .to ((st_poss rfl rfl (by show 11 < 38; decide) rfl).trans (poss_go _ _ _ _ rfl rfl (Int.le_refl _) (by intro e; cases e))) rfl ?_
    rw [if_pos rfl]
    obtain ⟨n, hn⟩ : ∃ n, text.size - s = n + 1 := ⟨text.size - s - 1, by omega⟩
    rw [hn]
    exact (loop0_tries text s o n (s + 1) 0 _ (by omega) (Int.le_refl _)).mono (by omega)
theorem search0 (text : Array Nat) (s : Nat) (hs : s ≤ text.size) : Ends (forSearch c0 text 0 s text.size false) (if s + 1 < text.size then nextFit (fit0 text) (text.size - s + 1) s else none) ((9 * text.size + 16) * (text.size + 2)) := by
  by_cases h : s + 1 < text.size
  · rw [if_pos h]
    have e : ∃ sn, forSearch c0 text 0 s text.size false = tr c0 text 9 s true sn := by
      unfold forSearch
      dsimp only
      rw [show (header c0).1 = 2 from rfl, show (header c0).2 = 9 from rfl]
      rw [if_neg (by simp; omega)]
      exact ⟨_, rfl⟩
    obtain ⟨sn, e⟩ := e
    rw [e]
    refine (scan_ends (fun _ _ _ _ => rfl) (fun s o sn hs => try0 text s o sn hs) (text.size - s) s true sn (by omega)).mono ?_
    exact Nat.mul_le_mul_left _ (by omega)
  · rw [if_neg h]
    have e : (forSearch c0 text 0 s text.size false).outcome = none ∧ (forSearch c0 text 0 s text.size false).answer = some false ∧ (forSearch c0 text 0 s text.size false).frames = [] := by
      unfold forSearch
      dsimp only
      rw [show (header c0).1 = 2 from rfl, show (header c0).2 = 9 from rfl]
      rw [if_pos (by simp; omega)]
      exact ⟨rfl, rfl, rfl⟩
    refine Ends.mono (Ends.step (k := 0) e.1 ?_) (by rw [Nat.add_mul]; omega)
    rw [step_end e.1 e.2.1 e.2.2]
    rfl
end Mine

end
/-! ## RxSub -/
section
open PySem
namespace Mine
open PySem.Sre
/-- a pattern whose search is known -/
structure Rx (c : Array Nat) (fit : Array Nat → Nat → Option Nat) : Prop where
  search : ∀ text s, s ≤ text.size → text.size ≤ 16777216 → Ends (forSearch c text 0 s text.size false) (nextFit (fit text) (text.size - s + 1) s) (2 ^ 60)
  adv : ∀ text b e, fit text b = some e → b < e ∧ e ≤ text.size
theorem nextFit_none {fit : Nat → Option Nat} : ∀ {n s : Nat}, (∀ b, s ≤ b → fit b = none) → nextFit fit n s = none
  | 0, _, _ => rfl
  | n + 1, s, h => by unfold nextFit; rw [h s (Nat.le_refl _)]; exact nextFit_none fun b hb => h b (by omega)
theorem fit1_adv (text : Array Nat) (b e : Nat) (h : fit1 text b = some e) : b < e ∧ e ≤ text.size := by
  unfold fit1 at h
  split at h
  · rename_i hc; cases h
    simp only [Bool.and_eq_true, decide_eq_true_eq] at hc
    omega
  · cases h
theorem fit2_adv (text : Array Nat) (b e : Nat) (h : fit2 text b = some e) : b < e ∧ e ≤ text.size := by
  unfold fit2 at h
  split at h
  · split at h
    · split at h
      · rename_i hc; cases h
        simp only [Bool.and_eq_true, decide_eq_true_eq] at hc
        omega
      · cases h; omega
    · split at h
      · cases h; omega
      · cases h
  · cases h
theorem body0_adv (text : Array Nat) (p q : Nat) (h : body0 text p = some q) : p < q := by
  unfold body0 at h
  split at h
  · split at h
    · cases h
    · split at h
      · split at h
        · cases h; omega
        · cases h
      · cases h; omega
  · cases h
theorem loop0_le (text : Array Nat) : ∀ n p, p ≤ loop0 text n p
  | 0, p => Nat.le_refl _
  | n + 1, p => by
    unfold loop0
    cases hb : body0 text p with
    | none => exact Nat.le_refl _
    | some q => exact Nat.le_trans (Nat.le_of_lt (body0_adv text p q hb)) (loop0_le text n q)
theorem fit0_adv (text : Array Nat) (b e : Nat) (h : fit0 text b = some e) : b + 1 < e ∧ e ≤ text.size := by
  unfold fit0 at h
  split at h
  · unfold tail0 at h
    split at h
    · rename_i hc; cases h
      simp only [Bool.and_eq_true, decide_eq_true_eq] at hc
      have := loop0_le text (text.size - b) (b + 1)
      omega
    · cases h
  · cases h
theorem bound_ok {n : Nat} (h : n ≤ 16777216) : (9 * n + 16) * (n + 2) + 15 ≤ 2 ^ 60 := by
  have : (9 * n + 16) * (n + 2) ≤ (9 * 16777216 + 16) * (16777216 + 2) := Nat.mul_le_mul (by omega) (by omega)
  omega
theorem bound_ok' {n : Nat} (h : n ≤ 16777216) : 5 * (n + 2) + 15 ≤ 2 ^ 60 := by omega
theorem rx1 : Rx c1 fit1 where
  search text s hs hn := by
    have := (search1 text s hs).mono (k' := 2 ^ 60) (by omega)
    by_cases h : s < text.size
    · rw [if_pos h] at this; exact this
    · rw [if_neg h] at this
      rw [nextFit_none fun b hb => ?_]
      · exact this
      cases hf : fit1 text b with
      | none => rfl
      | some e => have := fit1_adv text b e hf; omega
  adv := fit1_adv
theorem rx2 : Rx c2 fit2 where
  search text s hs hn := by
    have := (search2 text s hs).mono (k' := 2 ^ 60) (by omega)
    by_cases h : s < text.size
    · rw [if_pos h] at this; exact this
    · rw [if_neg h] at this
      rw [nextFit_none fun b hb => ?_]
      · exact this
      cases hf : fit2 text b with
      | none => rfl
      | some e => have := fit2_adv text b e hf; omega
  adv := fit2_adv
theorem rx0 : Rx c0 fit0 where
  search text s hs hn := by
    have := (search0 text s hs).mono (k' := 2 ^ 60) (by have := bound_ok hn; omega)
    by_cases h : s + 1 < text.size
    · rw [if_pos h] at this; exact this
    · rw [if_neg h] at this
      rw [nextFit_none fun b hb => ?_]
      · exact this
      cases hf : fit0 text b with
      | none => rfl
      | some e => have := fit0_adv text b e hf; omega
  adv text b e h := by have := fit0_adv text b e h; omega
/-- what a substitution leaves of the text from s on -/
def subOut (fit : Nat → Option Nat) (rep : List Nat) (text : Array Nat) : Nat → Nat → List Nat
  | 0, s => text.toList.drop s
  | n + 1, s => match nextFit fit (text.size - s + 1) s with
    | some (b, e) => (text.extract s b).toList ++ (rep ++ subOut fit rep text n e)
    | none => text.toList.drop s
end Mine

end
/-! ## SubWp -/
section
open PySem PySem.W PySem.Builtin.Re
namespace Mine
/-- a machine that has come to an answer -/
def Told (r : Option (Nat × Nat)) (m : Sre.M) : Prop := match r with
  | some (b, e) => m.outcome = some .matched ∧ m.start = b ∧ m.handed = e
  | none => m.outcome = some .failed
theorem Ends.told {m : Sre.M} {r : Option (Nat × Nat)} {k : Nat} (h : Ends m r k) : Told r (m.runFor k) := h
section
variable {M : Model} {A : Around} {E : Value → Shared → Prop} {s : Shared}
theorem wpAny_reDrive {r : Option (Nat × Nat)} {Q : Sre.M → Shared → Prop} : ∀ (turns : Nat) (m : Sre.M) (k : Nat), Ends m r k → k ≤ 4 * turns → 0 < turns → (∀ m', Told r m' → Q m' s) → wpAny M A (reDrive turns m) Q E s
  | 0, _, _, _, _, h, _ => absurd h (Nat.lt_irrefl 0)
  | turns + 1, m, k, h, hk, _, hq => by
    show wpAny M A (if (m.runFor 4).outcome.isSome = true then pure (m.runFor 4) else rule "sre.turn" >>= fun _ => reDrive turns (m.runFor 4)) Q E s
    by_cases ho : (m.runFor 4).outcome.isSome = true
    · rw [if_pos ho]
      refine wpAny_pure (hq _ ?_)
      have e : m.runFor (4 + k) = m.runFor 4 := by rw [runFor_add, runFor_done ho]
      have := (h.mono (k' := 4 + k) (by omega)).told
      rw [e] at this; exact this
    · rw [if_neg ho]
      refine wpAny_bind (wpAny_rule ?_)
      have hk4 : 4 < k := by
        rcases Nat.lt_or_ge 4 k with h' | h'
        · exact h'
        · exact absurd (h.mono h').isSome ho
      have h' : Ends (m.runFor 4) r (k - 4) := by
        have e : m.runFor k = (m.runFor 4).runFor (k - 4) := by rw [← runFor_add, show 4 + (k - 4) = k by omega]
        unfold Ends at h ⊢; rw [e] at h; exact h
      exact wpAny_reDrive turns _ _ h' (by omega) (by omega) hq
theorem wpAny_rules {Q : Unit → Shared → Prop} (p : Nat → Bool) (f : Nat → String) (hq : Q () s) : ∀ l : List Nat,
    wpAny M A (forIn l () fun i _ => if p i = true then rule (f i) >>= fun _ => (pure (ForInStep.yield ()) : Sem (ForInStep Unit)) else pure (ForInStep.yield ())) Q E s
  | [] => by rw [List.forIn_nil]; exact wpAny_pure hq
  | i :: l => by
    rw [List.forIn_cons]
    refine wpAny_bind ?_
    by_cases hp : p i = true
    · rw [if_pos hp]; exact wpAny_bind (wpAny_rule (wpAny_pure (wpAny_rules p f hq l)))
    · rw [if_neg hp]; exact wpAny_pure (wpAny_rules p f hq l)
theorem wpAny_reRunToEnd {m : Sre.M} {r : Option (Nat × Nat)} {Q : Option Sre.M → Shared → Prop} (h : Ends m r (2 ^ 60)) (hs : ∀ b e m', r = some (b, e) → m'.start = b → m'.handed = e → Q (some m') s)
    (hn : r = none → Q none s) : wpAny M A (reRunToEnd m) Q E s := by
  unfold reRunToEnd
  refine wpAny_bind (wpAny_reDrive _ _ _ h (by decide) (by decide) fun m' hm => ?_)
  refine wpAny_bind (wpAny_rules (fun i => m'.seen.has i) (fun i => Sre.names.getD i "") ?_ _)
  cases r with
  | none =>
    have hm : m'.outcome = some .failed := hm
    rw [hm]; exact wpAny_pure (hn rfl)
  | some p =>
    obtain ⟨b, e⟩ := p
    obtain ⟨h1, h2, h3⟩ := (hm : m'.outcome = some .matched ∧ m'.start = b ∧ m'.handed = e)
    rw [h1]; exact wpAny_pure (hs b e m' rfl h2 h3)
end
end Mine

end
/-! ## SubStr -/
section
open PySem PySem.W PySem.Builtin.Re PyProof.Rows
namespace Mine
theorem entry_sub_loop : entryFor table "re.Pattern.sub.loop" = some Builtin.«re.Pattern.sub.loop» := by first | exact entryFor_of_fast (by kernel_rfl) | exact entryFor_of_tree (by kernel_rfl)
theorem plain_sub_loop : plainId "re.Pattern.sub.loop" = true := by decide +kernel
/-- an object that is a pattern -/
def IsPat (h : Heap) (p : Addr) (code : Array Nat) (kind : Nat) : Prop :=
  ∃ o fs c oc items n, h.get? p = some o ∧ o.cls = .type "re.Pattern" ∧ o.data = .fields fs ∧ reRawNat (fs.getD 2 .none) = 0 ∧ reRawNat (fs.getD 6 .none) = kind ∧ fs.getD 5 .none = .ref c ∧
    h.get? c = some oc ∧ oc.data = .seq items n ∧ (items.map reRawOf).map (·.toNat) = code
theorem IsPat.ext {h h' : Heap} {p : Addr} {code : Array Nat} {kind : Nat} (x : IsPat h p code kind) (e : ∀ b o, h.get? b = some o → h'.get? b = some o) : IsPat h' p code kind := by
  obtain ⟨o, fs, c, oc, items, n, h1, h0, h2, h3, h4, h5, h6, h7, h8⟩ := x
  exact ⟨o, fs, c, oc, items, n, e _ _ h1, h0, h2, h3, h4, h5, e _ _ h6, h7, h8⟩
def flat (ys : List Str) : List Nat := ys.flatMap (·.cps.toList)
theorem join_flat : ∀ ys : List Str, (Str.join ⟨#[]⟩ ys).cps.toList = flat ys
  | [] => rfl
  | [x] => by simp [flat, Str.join]
  | x :: y :: r => by
    have ih := join_flat (y :: r)
    show (x ++ ⟨#[]⟩ ++ Str.join ⟨#[]⟩ (y :: r)).cps.toList = _
    have e : (x ++ ⟨#[]⟩ ++ Str.join ⟨#[]⟩ (y :: r)).cps = x.cps ++ #[] ++ (Str.join ⟨#[]⟩ (y :: r)).cps := rfl
    rw [e, Array.toList_append, ih]
    simp [flat]
theorem strs_push {vs : List Value} {ys : List Str} (h : StrsAre vs ys) (y : Str) (t : Tok) : StrsAre (vs ++ [.str y t]) (ys ++ [y]) := by
  induction h with
  | nil => exact .cons y t .nil
  | cons y' t' _ ih => exact .cons y' t' ih
section
variable {prog : Program} {w : World} {A : Around} {E : Value → Shared → Prop} {s : Shared}
theorem whole_str {p : Addr} {code : Array Nat} {x : Str} {t : Tok} {Q : ReTarget → Shared → Prop} (hp : IsPat s.heap p code 0)
    (hq : Q { pattern := .ref p, string := .str x t, code := code, text := x.cps, kind := 0, groups := 0, pos := 0, lim := x.cps.size } s) : wpAny (model prog w) A (reWholeTarget (.ref p) (.str x t)) Q E s := by
  obtain ⟨o, fs, c, oc, items, n, h1, h0, h2, h3, h4, h5, h6, h7, h8⟩ := hp
  unfold reWholeTarget
  refine wpAny_bind (wpAny_fieldsOf h1 h2 ?_)
  refine wpAny_bind (show wpAny _ _ (reTextOf (.str x t)) _ _ _ from wpAny_pure ?_)
  dsimp only
  rw [h4, h3]
  refine wpAny_bind (show wpAny _ _ (reNoCollectionInside (.str x t) 0) _ _ _ from wpAny_pure ?_)
  rw [h5]
  unfold reRawItems
  refine wpAny_bind (wpAny_bind (wpAny_seqItems h6 h7 ?_))
  refine wpAny_pure ?_
  refine wpAny_pure ?_
  have e : Array.map (fun x => x.toNat) (Array.map reRawOf ((some items).getD #[])) = code := h8
  rw [e]
  exact hq
end
end Mine

end
/-! ## SubStr2 -/
section
open PySem PySem.W PySem.Builtin.Re PyProof.Rows
namespace Mine
section
variable {prog : Program} {w : World} {A : Around} {E : Value → Shared → Prop} {s : Shared}
theorem push_list {P : Addr} {vs : List Value} {v : Value} {Q : Unit → Shared → Prop} (hl : s.heap.IsList P vs.toArray) (hz : vs.length ≤ 16777215)
    (h : ∀ h' : Heap, h'.IsList P (vs ++ [v]).toArray → (∀ b o, b ≠ P → s.heap.get? b = some o → h'.get? b = some o) → h'.objs.size = s.heap.objs.size → Q () { s with heap := h' }) :
    wpAny (model prog w) A (updateSeq P (·.push v)) Q E s := by
  obtain ⟨o, ho, hc, n, hd⟩ := hl
  have e24 : sizeLine = 16777216 := by decide
  refine wpAny_updateSeq ho hd ?_ (by rw [List.size_toArray, e24]; omega) (by rw [Array.size_push, List.size_toArray, e24]; omega)
  obtain ⟨c, d, dt, sl⟩ := o
  simp only at hc hd
  subst hc hd
  refine h _ ?_ (fun b o hb hbo => ?_) ?_
  · rw [show (vs ++ [v]).toArray = vs.toArray.push v by simp]
    exact ⟨_, Heap.get?_update_self _ ho rfl, rfl, _, rfl⟩
  · rw [Heap.get?_update_other _ _ (Ne.symm hb)]; exact hbo
  · simp [Heap.update]
theorem flat_append (a b : List Str) : flat (a ++ b) = flat a ++ flat b := by simp [flat]
theorem flat_one (y : Str) : flat [y] = y.cps.toList := by simp [flat]
theorem slice_str {text : Array Nat} {b e : Nat} {Q : Value → Shared → Prop} (hz : text.size ≤ 65536) (h : Q (.str ⟨text.extract b e⟩ s.toks) { s with toks := s.toks + 1 }) : wpAny (model prog w) A (reSlice text 0 b e) Q E s := by
  have e24 : sizeLine = 16777216 := by decide
  unfold reSlice
  refine wpAny_mkStr h ?_
  show (text.extract b e).size ≤ _
  rw [Array.size_extract, e24]; omega
end
theorem flat_length : ∀ ys : List Str, (ys.map (·.length)).sum = (flat ys).length
  | [] => rfl
  | y :: ys => by
    have ih := flat_length ys
    simp only [List.map_cons, List.sum_cons, ih, flat, List.flatMap_cons, List.length_append, Array.length_toList]
    rfl
theorem sub_loop {code : Array Nat} {fit : Array Nat → Nat → Option Nat} (RX : Rx code fit) {prog : Program} {w : World} {A : Around} {R : Result → Shared → Prop} {x rep : Str} {t u : Tok} {p P : Addr} {h₀ : Heap} (hx : x.cps.size ≤ 65536) (hrep : rep.cps.size ≤ 8)
    (hp : IsPat h₀ p code 0) (hP : h₀.get? P = none) : ∀ (n start : Nat) (k : Int) (vs : List Value) (ys : List Str) (s : Shared), x.cps.size ≤ start + n → start ≤ x.cps.size → StrsAre vs ys → vs.length ≤ 2 * start → (flat ys).length ≤ start * 9 →
    s.heap.IsList P vs.toArray → (∀ b o, h₀.get? b = some o → s.heap.get? b = some o) →
    (∀ y t' h' tk, y.cps.toList = flat ys ++ subOut (fit x.cps) rep.cps.toList x.cps (n + 1) start → (∀ b o, h₀.get? b = some o → h'.get? b = some o) → h'.objs.size = s.heap.objs.size → R (.ok (.ret (.str y t'))) { s with heap := h', toks := tk }) →
    codeAny (model prog w) A (.builtin "re.Pattern.sub.loop" ⟨[.ref p, .str x t, .str rep u, rawInt 0, rawInt 0, rawInt k, rawInt start, rawInt start, .bool false, .ref P, .bool false], []⟩) R s := by
    intro n
    induction n using Nat.strongRecOn with
    | _ n ih =>
    intro start k vs ys s hn hs hv hvl hfl hl hk hR
    refine codeAny_builtin entry_sub_loop ?_
    rw [Around.under_plainId plain_sub_loop _]
    show wpAny _ _ (reWholeTarget (.ref p) (.str x t) >>= _) _ _ s
    refine wpAny_bind (whole_str (hp.ext hk) ?_)
    dsimp only
    refine wpAny_bind (show wpAny _ _ (reLiteralCannotBeTurned (.str rep u)) _ _ _ from wpAny_pure ?_)
    have hsub : subOut (fit x.cps) rep.cps.toList x.cps (n + 1) start = match nextFit (fit x.cps) (x.cps.size - start + 1) start with
      | some (b, e) => (x.cps.extract start b).toList ++ (rep.cps.toList ++ subOut (fit x.cps) rep.cps.toList x.cps n e)
      | none => x.cps.toList.drop start := rfl
    rw [hsub] at hR
    refine wpAny_bind (show wpAny _ _ (reRunToEnd (Sre.forSearch code x.cps 0 start x.cps.size false)) _ _ _ from wpAny_reRunToEnd (RX.search x.cps start hs (by omega)) (fun b e m hf hm1 hm2 => ?_) (fun hf => ?_))
    · rw [hf] at hR
      dsimp only at hR ⊢
      obtain ⟨hfb, hb1, hb2⟩ := nextFit_some hf
      obtain ⟨hbe, hes⟩ := RX.adv _ _ _ hfb
      obtain ⟨n', rfl⟩ : ∃ n', n = n' + 1 := ⟨n - 1, by omega⟩
      have hlast : ∀ (vs' : List Value) (ys' : List Str) (s' : Shared), StrsAre vs' ys' → flat ys' = flat ys ++ (x.cps.extract start b).toList → vs'.length ≤ vs.length + 1 → s'.heap.IsList P vs'.toArray → (∀ b o, h₀.get? b = some o → s'.heap.get? b = some o) →
          (∃ h' tk, s' = { s with heap := h', toks := tk } ∧ h'.objs.size = s.heap.objs.size) →
          wpAny (model prog w) A.in1 (updateSeq P (·.push (.str rep u))) (fun _ s' => codeAny (model prog w) A (.builtin "re.Pattern.sub.loop" ⟨[.ref p, .str x t, .str rep u, rawInt 0, rawInt 0, rawInt (k + 1), rawInt e, rawInt e, .bool false, .ref P, .bool false], []⟩) R s') (fun e s' => R (.error e) s') s' := by
        intro vs' ys' s' hv' hfl' hvl' hl' hk' hs'
        obtain ⟨h', tk, rfl, hsize⟩ := hs'
        refine push_list hl' (by omega) fun h'' hl'' hk'' hsize' => ?_
        refine ih n' (by omega) e (k + 1) (vs' ++ [.str rep u]) (ys' ++ [rep]) _ (by omega) hes (strs_push hv' _ _) ?_ ?_ hl'' (fun b o hb => hk'' _ _ (fun eq => by subst eq; rw [hP] at hb; cases hb) (hk' _ _ hb)) ?_
        · rw [List.length_append]; simp only [List.length_cons, List.length_nil]; omega
        · have e1 : (x.cps.extract start b).toList.length = b - start := by rw [Array.length_toList, Array.size_extract]; omega
          have e2 : rep.cps.toList.length = rep.cps.size := Array.length_toList
          rw [flat_append, flat_one, hfl', List.length_append, List.length_append, e1, e2]; omega
        · intro y t' h3 tk3 hy hk3 hs3
          refine hR y t' h3 tk3 ?_ hk3 (hs3.trans (hsize'.trans hsize))
          rw [hy, flat_append, flat_one, hfl']; simp
      have hne : (m.handed == m.start) = false := by rw [hm1, hm2]; exact beq_eq_false_iff_ne.mpr (by omega)
      rw [hne, hm2, hm1]
      show wpAny _ _ (if start < b then _ else _) _ _ _
      by_cases hsb : start < b
      · rw [if_pos hsb]
        refine wpAny_bind (slice_str hx ?_)
        refine wpAny_bind (push_list (s := { s with toks := s.toks + 1 }) hl (by omega) fun h' hl' hk' hsize' => ?_)
        show wpAny _ _ (updateSeq P (·.push (.str rep u)) >>= _) _ _ _
        refine wpAny_bind (wpAny_mono (hlast _ _ _ (strs_push hv _ _) (by rw [flat_append, flat_one]; rfl) (by simp) hl' (fun b o hb => hk' _ _ (fun eq => by subst eq; rw [hP] at hb; cases hb) (hk _ _ hb)) ⟨h', _, rfl, hsize'⟩) (fun _ s' hc => ?_) (fun _ _ h => h))
        exact wpAny_pure ⟨plainId_quiet plain_sub_loop _, hc⟩
      · rw [if_neg hsb]
        show wpAny _ _ (updateSeq P (·.push (.str rep u)) >>= _) _ _ _
        refine wpAny_bind (wpAny_mono (hlast vs ys s hv ?_ (by omega) hl hk ⟨s.heap, s.toks, rfl, rfl⟩) (fun _ s' hc => ?_) (fun _ _ h => h))
        · obtain rfl : b = start := by omega
          simp
        · exact wpAny_pure ⟨plainId_quiet plain_sub_loop _, hc⟩
    · rw [hf] at hR
      dsimp only at hR ⊢
      have hfin : ∀ (vs' : List Value) (ys' : List Str) (s' : Shared), StrsAre vs' ys' → flat ys' = flat ys ++ x.cps.toList.drop start → s'.heap.IsList P vs'.toArray → (∀ b o, h₀.get? b = some o → s'.heap.get? b = some o) →
          (∃ h' tk, s' = { s with heap := h', toks := tk } ∧ h'.objs.size = s.heap.objs.size) →
          wpAny (model prog w) A.in1 (do
            let joiner ← reSlice x.cps 0 0 0
            let text ← if ((← seqItems? (.ref P)).getD #[]).isEmpty then pure joiner else call (.builtin "str.join") [joiner, .ref P]
            ret text) (fun fin s' => match fin with | .done f => R (.ok f) s' | .again c' => c'.quiet = true ∧ codeAny (model prog w) A c' R s') (fun e s' => R (.error e) s') s' := by
        intro vs' ys' s' hv' hfl' hl' hk' hs'
        obtain ⟨h', tk, rfl, hsize⟩ := hs'
        refine wpAny_bind (slice_str hx ?_)
        dsimp only
        rw [show (x.cps.extract 0 0) = #[] by simp]
        refine wpAny_bind (wpAny_seqItems (o := hl'.choose) hl'.choose_spec.1 hl'.choose_spec.2.2.choose_spec ?_)
        show wpAny _ _ (if vs'.toArray.isEmpty = true then _ else _) _ _ _
        by_cases he : vs'.toArray.isEmpty = true
        · rw [if_pos he]
          refine wpAny_bind (wpAny_pure (wpAny_pure (hR ⟨#[]⟩ _ h' _ ?_ hk' hsize)))
          rw [← hfl']
          cases hv' with
          | nil => rfl
          | cons _ _ _ => simp at he
        · rw [if_neg he]
          have hjl : (ys'.map (·.length)).sum = (flat ys').length := flat_length ys'
          refine wpAny_bind (join_list (s := { s with heap := h', toks := _ }) hl' hv' ?_ fun t' k => ?_)
          · have e3 : x.cps.toList.length = x.cps.size := Array.length_toList
            rw [hjl, hfl', show (⟨#[]⟩ : Str).length = 0 from rfl, Nat.mul_zero, List.length_append, List.length_drop, e3]
            omega
          · refine wpAny_pure (hR _ t' h' k ?_ hk' hsize)
            rw [← hfl', ← join_flat]
            show (Builtin.Str.glued ⟨#[]⟩ ys').cps.toList = _
            rw [StrLaws.glued_eq_join]
      show wpAny _ _ (if start < x.cps.size then _ else _) _ _ _
      by_cases hsb : start < x.cps.size
      · rw [if_pos hsb]
        refine wpAny_bind (slice_str hx ?_)
        refine wpAny_bind (push_list (s := { s with toks := s.toks + 1 }) hl (by omega) fun h' hl' hk' hsize' => ?_)
        refine hfin _ _ _ (strs_push hv _ _) ?_ hl' (fun b o hb => hk' _ _ (fun eq => by subst eq; rw [hP] at hb; cases hb) (hk _ _ hb)) ⟨h', _, rfl, hsize'⟩
        rw [flat_append, flat_one]
        have e4 : (x.cps.extract start x.cps.size).toList = x.cps.toList.drop start := by
          simp only [Array.toList_extract, List.extract_eq_take_drop]
          exact List.take_of_length_le (by rw [List.length_drop, Array.length_toList]; exact Nat.le_refl _)
        exact congrArg (flat ys ++ ·) e4
      · rw [if_neg hsb]
        refine hfin _ _ _ hv ?_ hl hk ⟨s.heap, s.toks, rfl, rfl⟩
        rw [List.drop_of_length_le (by rw [Array.length_toList]; omega)]; simp
end Mine

end
/-! ## SubCall -/
section
open PySem PySem.W PySem.Builtin.Re PyProof.Rows
namespace Mine
set_option maxRecDepth 100000
theorem slot_pat_sub : Slot "re.Pattern" "sub" "re.Pattern.sub" :=
  .of (owner := "re.Pattern") (n := "sub") (by rw [typeLookup_type, builtinLookup_eq_fast]; kernel_rfl) (by decide +kernel) (by decide +kernel) (by decide +kernel)
    (by first | exact .inl (by decide +kernel) | exact .inr (by decide +kernel)) (by rw [isSubtype_type]; kernel_rfl)
theorem entry_pat_sub : entryFor table "re.Pattern.sub" = some Builtin.«re.Pattern.sub» := by first | exact entryFor_of_tree (by kernel_rfl) | exact entryFor_of_fast (by kernel_rfl)
theorem nocall_str : typeLookup (.type "str") "__call__" = pure none := by rw [typeLookup_type, builtinLookup_eq_fast]; kernel_rfl
theorem nocall_bytes : typeLookup (.type "bytes") "__call__" = pure none := by rw [typeLookup_type, builtinLookup_eq_fast]; kernel_rfl
theorem named_sub (a b : Value) : reNamed "re.Pattern.sub" "sub" ["repl", "string", "count"] 2 [a, b] [] = pure [some a, some b, none] := by kernel_rfl
theorem args_pat_sub (a b c : Value) : argsOk "re.Pattern.sub" ⟨[a, b, c], []⟩ := by
  unfold argsOk; kernel_rfl
theorem get_size_none (h : Heap) : h.get? h.objs.size = none := by
  cases e : h.get? h.objs.size with
  | none => rfl
  | some o => exact absurd (Heap.lt_size e) (Nat.lt_irrefl _)
section
variable {prog : Program} {w : World} {A : Around} {E : Value → Shared → Prop} {s : Shared}
/-- the outcome of a substitution in a text -/
def subText (fit : Array Nat → Nat → Option Nat) (rep x : Str) : List Nat := subOut (fit x.cps) rep.cps.toList x.cps (x.cps.size + 1) 0
theorem sub_str {code : Array Nat} {fit : Array Nat → Nat → Option Nat} (RX : Rx code fit) {x rep : Str} {t u : Tok} {p : Addr} {Q : Value → Shared → Prop} (hx : x.cps.size ≤ 65536) (hrep : rep.cps.size ≤ 8) (hlit : rep.cps.contains 92 = false)
    (hp : IsPat s.heap p code 0)
    (hq : ∀ y t' h' tk, y.cps.toList = subText fit rep x → (∀ b o, s.heap.get? b = some o → h'.get? b = some o) → Q (.str y t') { s with heap := h', toks := tk }) :
    wpAny (model prog w) A (call (.builtin "re.Pattern.sub") [.ref p, .str rep u, .str x t]) Q E s := by
  have hT : s.TypeIs (.ref p) "re.Pattern" := by
    obtain ⟨o, fs, c, oc, items, n, h1, h0, _⟩ := hp
    exact ⟨o, h1, h0⟩
  refine wpAny_call (codeAny_call_builtin slot_pat_sub.plain entry_pat_sub (slot_pat_sub.check _ _ _ _ _ _ _ _ hT (args_pat_sub _ _ _) ?_))
  show wpAny _ _ (reNamed "re.Pattern.sub" "sub" ["repl", "string", "count"] 2 [.str rep u, .str x t] [] >>= _) _ _ s
  refine wpAny_bind (wpAny_of_eq (named_sub _ _) ?_)
  refine wpAny_bind (wpAny_pure ?_)
  refine wpAny_bind (wpAny_specialOf (show s.TypeIs (.str rep u) "str" from typeIs_str _ _ _) nocall_str ?_)
  refine wpAny_bind (show wpAny _ _ (asStr? (.str rep u)) _ _ _ from wpAny_pure ?_)
  refine wpAny_bind (show wpAny _ _ (pure (!rep.cps.contains 92)) _ _ _ from wpAny_pure ?_)
  rw [hlit]
  refine wpAny_bind (show wpAny _ _ (pure (Value.str rep u, 0)) _ _ _ from wpAny_pure ?_)
  refine wpAny_bind (wpAny_holding (whole_str hp ?_))
  refine wpAny_bind (wpAny_newList ?_)
  refine wpAny_pure ⟨plainId_quiet plain_sub_loop _, ?_⟩
  refine sub_loop RX hx hrep (h₀ := s.heap) hp (get_size_none _) x.cps.size 0 0 [] [] _ (by omega) (by omega) .nil (by simp) (by simp [flat]) ⟨_, Heap.get?_push_size _ rfl, rfl, _, rfl⟩ (fun b o hb => Heap.get?_push_of_some _ hb) ?_
  intro y t' h' tk hy hk hsz
  exact hq y t' h' tk (by rw [hy]; rfl) hk
end
end Mine

end
/-! ## BytesJoin -/
section
open PySem PySem.W PySem.Builtin PySem.Builtin.Re PyProof.Rows
namespace Mine
set_option maxRecDepth 100000
inductive BytesAre : List Value → List (Array UInt8) → Prop
  | nil : BytesAre [] []
  | cons (y : Array UInt8) (t : Tok) {vs ys} : BytesAre vs ys → BytesAre (.bytes y t :: vs) (y :: ys)
theorem BytesAre.length {vs : List Value} {ys : List (Array UInt8)} (h : BytesAre vs ys) : vs.length = ys.length := by
  induction h with
  | nil => rfl
  | cons _ _ _ ih => simp [ih]
theorem BytesAre.push {vs : List Value} {ys : List (Array UInt8)} (h : BytesAre vs ys) (y : Array UInt8) (t : Tok) : BytesAre (vs ++ [.bytes y t]) (ys ++ [y]) := by
  induction h with
  | nil => exact .cons y t .nil
  | cons y' t' _ ih => exact .cons y' t' ih
theorem BytesAre.at {vs : List Value} {ys : List (Array UInt8)} (h : BytesAre vs ys) : ∀ {i : Nat}, i < vs.length → ∃ y t, vs[i]? = some (.bytes y t) ∧ ys[i]? = some y := by
  induction h with
  | nil => intro i hi; simp at hi
  | cons y t _ ih =>
    intro i hi
    cases i with
    | zero => exact ⟨y, t, rfl, rfl⟩
    | succ i => obtain ⟨y', t', h1, h2⟩ := ih (i := i) (by simpa using hi); exact ⟨y', t', by simpa using h1, by simpa using h2⟩
def flatB (ys : List (Array UInt8)) : List UInt8 := ys.flatMap (·.toList)
theorem joined_empty_from : ∀ (ys : List (Array UInt8)) (k : Nat) (out : Array UInt8), ((ys.zipIdx k).foldl (fun out (p : Array UInt8 × Nat) => (if p.2 > 0 then out ++ #[] else out) ++ p.1) out).toList = out.toList ++ flatB ys
  | [], k, out => by simp [flatB]
  | y :: ys, k, out => by
    rw [List.zipIdx_cons, List.foldl_cons, joined_empty_from ys (k + 1)]
    dsimp only
    by_cases h : k > 0
    · rw [if_pos h]; simp [flatB]
    · rw [if_neg h]; simp [flatB]
theorem joined_empty (ys : List (Array UInt8)) : (Bytes.joined #[] ys).toList = flatB ys := by
  have := joined_empty_from ys 0 #[]
  simpa [Bytes.joined] using this
theorem sum_sizes : ∀ (ys : List (Array UInt8)) (k : Nat), ys.foldl (fun a y => a + y.size) k = k + (flatB ys).length
  | [], k => by simp [flatB]
  | y :: ys, k => by rw [List.foldl_cons, sum_sizes ys]; simp [flatB]; omega
theorem take_eq {id : String} {b : Array UInt8} {t : Tok} : Bytes.takeBufferQuiet? id (.bytes b t) 0 = pure (some (b, none)) := by
  have e : Bytes.takeBuffer? id (.bytes b t) 0 = pure (some (b, none)) := by
    unfold Bytes.takeBuffer?
    rw [KBy.special_eq KBy.look_buffer, KBy.own_buffer]
    simp only [pure_bind]
    have : ∀ full, Bytes.buffer? id (.bytes b t) full = pure (some b) := by
      intro full
      unfold Bytes.buffer?
      rw [KBy.special_eq KBy.look_buffer, KBy.own_buffer, KBy.own_release]
      kernel_rfl
    rw [this]
    rfl
  unfold Bytes.takeBufferQuiet?
  rw [e]; rfl
section
variable {prog : Program} {w : World} {A : Around} {E : Value → Shared → Prop} {s : Shared}
theorem wpAny_joinLetGo {M : Model} {Q : Unit → Shared → Prop} (h : Q () s) : ∀ (taken : List (Value × Option Value)) (keep : List Value), (∀ p ∈ taken, p.2 = none) → wpAny M A (Bytes.joinLetGo taken keep) Q E s
  | [], _, _ => wpAny_pure h
  | (x, w) :: rest, keep, hw => by
    have : w = none := hw (x, w) (List.mem_cons_self ..)
    subst this
    exact wpAny_bind (wpAny_letGo (wpAny_joinLetGo h rest keep fun p hp => hw p (List.mem_cons_of_mem _ hp)))
theorem slot_bytes_join : Slot "bytes" "join" "bytes.join" :=
  .of (owner := "bytes") (n := "join") (by rw [typeLookup_type, builtinLookup_eq_fast]; kernel_rfl) (by decide +kernel) (by decide +kernel) (by decide +kernel)
    (by first | exact .inl (by decide +kernel) | exact .inr (by decide +kernel)) (by rw [isSubtype_type]; kernel_rfl)
theorem entry_bytes_join : entryFor table "bytes.join" = some Builtin.«bytes.join» := by first | exact entryFor_of_tree (by kernel_rfl) | exact entryFor_of_fast (by kernel_rfl)
theorem args_bytes_join (a b : Value) : argsOk "bytes.join" ⟨[a, b], []⟩ := by
  unfold argsOk; kernel_rfl
theorem bytes_join {P : Addr} {vs : List Value} {ys : List (Array UInt8)} {t : Tok} {Q : Value → Shared → Prop} (hl : s.heap.IsList P vs.toArray) (hv : BytesAre vs ys) (hne : vs ≠ []) (hsz : (flatB ys).length ≤ 16777216)
    (hq : ∀ y t' tk, y.toList = flatB ys → Q (.bytes y t') { s with toks := tk }) : wpAny (model prog w) A (call (.builtin "bytes.join") [.bytes #[] t, .ref P]) Q E s := by
  obtain ⟨o, ho, hc, n, hd⟩ := hl
  refine wpAny_call (codeAny_call_builtin slot_bytes_join.plain entry_bytes_join (slot_bytes_join.check _ _ _ _ _ _ _ _ (typeIs_bytes _ _ _) (args_bytes_join _ _) ?_))
  show wpAny _ _ (Bytes.joinItems (.ref P) >>= _) _ _ s
  refine wpAny_bind (show wpAny _ _ (Bytes.joinItems (.ref P)) _ _ _ from ?_)
  unfold Bytes.joinItems
  refine wpAny_bind (wpAny_typeOf (T := "list") ⟨o, ho, hc⟩ ?_)
  refine wpAny_pure ?_
  refine wpAny_bind (wpAny_seqItems ho hd ?_)
  dsimp only
  rw [if_pos (by decide)]
  have hlen := hv.length
  match vs, hv, hlen, hne with
  | [], _, _, hne => exact absurd rfl hne
  | [_], .cons y u .nil, _, _ =>
    refine wpAny_bind (wpAny_typeOf (typeIs_bytes _ _ _) ?_)
    rw [if_pos (by decide)]
    refine wpAny_bind (wpAny_rule (wpAny_pure ?_))
    exact hq y u s.toks (by simp [flatB])
  | v :: v' :: r, hv, hlen, _ =>
    refine wpAny_bind ?_
    rw [Std.Legacy.Range.forIn_eq_forIn_range']
    simp only [Std.Legacy.Range.size, Nat.sub_zero, Nat.add_sub_cancel, Nat.div_one]
    refine wpAny_forIn_list _
      (fun rest (b : Array (Array UInt8) × List (Value × Option Value)) s' => s' = s ∧ ∃ i, rest = List.range' i ((v :: v' :: r).toArray.size - i) ∧ i ≤ (v :: v' :: r).toArray.size ∧ b.1 = (ys.take i).toArray ∧ ∀ p ∈ b.2, p.2 = none)
      _ ?_ ?_ _ _ ⟨rfl, 0, by simp, Nat.zero_le _, by simp, by simp⟩
    · rintro x rest b s' ⟨rfl, i, hr, hi, hb1, hb2⟩
      have hlt : i < (v :: v' :: r).toArray.size := by
        rcases Nat.lt_or_ge i (v :: v' :: r).toArray.size with h | h
        · exact h
        · rw [Nat.sub_eq_zero_of_le h] at hr; simp at hr
      obtain ⟨rfl, hrest⟩ : x = i ∧ rest = List.range' (i + 1) ((v :: v' :: r).toArray.size - (i + 1)) := by
        have e : (v :: v' :: r).toArray.size - i = ((v :: v' :: r).toArray.size - (i + 1)) + 1 := by omega
        rw [e, List.range'_succ] at hr
        injection hr with h1 h2
        exact ⟨h1, h2⟩
      obtain ⟨y, u, h1, h2⟩ := hv.at (i := x) (by simpa using hlt)
      have hgd : (v :: v' :: r).toArray.getD x .none = .bytes y u := by
        rw [Array.getD_eq_getD_getElem?, List.getElem?_toArray, h1]; rfl
      refine wpAny_bind (wpAny_seqItems ho hd ?_)
      dsimp only
      rw [hgd]
      have hnext : (∃ i, rest = List.range' i ((v :: v' :: r).toArray.size - i) ∧ i ≤ (v :: v' :: r).toArray.size ∧ (b.1.push y) = (ys.take i).toArray ∧ ∀ p ∈ b.2 ++ [(Value.bytes y u, none)], p.2 = none) := by
        refine ⟨x + 1, hrest, hlt, ?_, ?_⟩
        · rw [hb1, List.take_add_one, h2]; simp
        · intro p hp
          rcases List.mem_append.1 hp with hp | hp
          · exact hb2 p hp
          · rw [List.mem_singleton.1 hp]
      have hsame : ((v :: v' :: r).toArray.size != (v :: v' :: r).toArray.size) = false := by simp
      split
      · refine wpAny_bind (wpAny_of_eq (KBy.special_eq KBy.look_buffer) ?_)
        dsimp only
        refine wpAny_bind (wpAny_holding (wpAny_of_eq take_eq ?_))
        refine wpAny_bind (wpAny_seqItems ho hd ?_)
        dsimp only
        rw [hsame, if_neg Bool.false_ne_true]
        exact wpAny_pure ⟨rfl, hnext⟩
      · refine wpAny_bind (wpAny_holding (wpAny_of_eq take_eq ?_))
        refine wpAny_bind (wpAny_seqItems ho hd ?_)
        dsimp only
        rw [hsame, if_neg Bool.false_ne_true]
        exact wpAny_pure ⟨rfl, hnext⟩
    · rintro b s' ⟨rfl, i, hr, hi, hb1, hb2⟩
      have hi' : i = (v :: v' :: r).toArray.size := by
        have := congrArg List.length hr
        simp at this
        simp at hi ⊢
        omega
      have hb1' : b.1.toList = ys := by
        rw [hb1, hi']; simp [hlen]
      refine wpAny_bind (wpAny_pure ?_)
      have hfold : b.1.foldl (fun x1 x2 => x1 + x2.size) ((#[] : Array UInt8).size * (b.1.size - 1)) = (flatB ys).length := by
        rw [← Array.foldl_toList, hb1', sum_sizes]; simp
      rw [hfold, if_neg (by rw [KBy.tooLong_not hsz]; decide)]
      have e24 : sizeLine = 16777216 := by decide
      refine wpAny_bind (wpAny_mkBytes ?_ ?_)
      · refine wpAny_bind (wpAny_holding (wpAny_point ?_))
        refine wpAny_bind (wpAny_joinLetGo ?_ _ _ hb2)
        refine wpAny_pure (hq _ _ _ ?_)
        rw [hb1', joined_empty]
      · rw [e24, ← Array.length_toList, hb1', joined_empty]; exact hsz
end
end Mine

end
/-! ## SubBytes -/
section
open PySem PySem.W PySem.Builtin PySem.Builtin.Re PyProof.Rows
namespace Mine
def nums (x : Array UInt8) : Array Nat := x.map (·.toNat)
theorem nums_size (x : Array UInt8) : (nums x).size = x.size := by simp [nums]
theorem nums_back (x : Array UInt8) (b e : Nat) : (((nums x).extract b e).map (·.toUInt8)) = x.extract b e := by
  apply Array.ext'
  simp only [nums, Array.toList_map, Array.toList_extract, List.extract_eq_take_drop, List.map_take, List.map_drop, List.map_map]
  congr 2
  conv => rhs; rw [← List.map_id x.toList]
  apply List.map_congr_left
  intro a _
  show a.toNat.toUInt8 = a
  simp
theorem nums_cut (x : Array UInt8) (b e : Nat) : (x.extract b e).toList.map (·.toNat) = ((nums x).extract b e).toList := by
  simp only [nums, Array.toList_map, Array.toList_extract, List.extract_eq_take_drop, List.map_take, List.map_drop]
def nb (ys : List (Array UInt8)) : List Nat := (flatB ys).map (·.toNat)
theorem nb_append (a b : List (Array UInt8)) : nb (a ++ b) = nb a ++ nb b := by simp [nb, flatB]
theorem nb_one (y : Array UInt8) : nb [y] = y.toList.map (·.toNat) := by simp [nb, flatB]
section
variable {prog : Program} {w : World} {A : Around} {E : Value → Shared → Prop} {s : Shared}
theorem whole_bytes {p : Addr} {code : Array Nat} {x : Array UInt8} {t : Tok} {Q : ReTarget → Shared → Prop} (hp : IsPat s.heap p code 1)
    (hq : Q { pattern := .ref p, string := .bytes x t, code := code, text := nums x, kind := 1, groups := 0, pos := 0, lim := (nums x).size } s) : wpAny (model prog w) A (reWholeTarget (.ref p) (.bytes x t)) Q E s := by
  obtain ⟨o, fs, c, oc, items, n, h1, h0, h2, h3, h4, h5, h6, h7, h8⟩ := hp
  unfold reWholeTarget
  refine wpAny_bind (wpAny_fieldsOf h1 h2 ?_)
  refine wpAny_bind (show wpAny _ _ (Bytes.bufferQuiet? "_sre" (.bytes x t) >>= _) _ _ _ from wpAny_bind (wpAny_of_eq KBy.quiet_eq (wpAny_pure ?_)))
  dsimp only
  rw [h4, h3]
  refine wpAny_bind (show wpAny _ _ (isInstance (.bytes x t) (.type "bytes") >>= _) _ _ _ from wpAny_bind (wpAny_of_eq KBy.isInstance_eq (wpAny_pure ?_)))
  rw [h5]
  unfold reRawItems
  refine wpAny_bind (wpAny_bind (wpAny_seqItems h6 h7 ?_))
  refine wpAny_pure ?_
  refine wpAny_pure ?_
  have e : Array.map (fun x => x.toNat) (Array.map reRawOf ((some items).getD #[])) = code := h8
  rw [e]
  exact hq
theorem slice_bytes {x : Array UInt8} {b e : Nat} {Q : Value → Shared → Prop} (hz : (nums x).size ≤ 65536) (h : Q (.bytes (x.extract b e) s.toks) { s with toks := s.toks + 1 }) : wpAny (model prog w) A (reSlice (nums x) 1 b e) Q E s := by
  have e24 : sizeLine = 16777216 := by decide
  unfold reSlice
  rw [if_neg (by decide), nums_back]
  refine wpAny_mkBytes h ?_
  rw [Array.size_extract, e24]
  rw [nums_size] at hz
  omega
theorem literal_bytes {b : Array UInt8} {u : Tok} {Q : Unit → Shared → Prop} (h : Q () s) : wpAny (model prog w) A (reLiteralCannotBeTurned (.bytes b u)) Q E s := by
  unfold reLiteralCannotBeTurned
  refine wpAny_bind (show wpAny _ _ (asStr? (.bytes b u)) _ _ _ from wpAny_bind (show wpAny _ _ (notAStandIn (.bytes b u)) _ _ _ from wpAny_pure (wpAny_pure ?_)))
  exact wpAny_bind (wpAny_of_eq KBy.isInstance_eq (wpAny_pure h))
end
theorem sub_loopB {code : Array Nat} {fit : Array Nat → Nat → Option Nat} (RX : Rx code fit) {prog : Program} {w : World} {A : Around} {R : Result → Shared → Prop} {x : Array UInt8} {t u : Tok} {p P : Addr} {h₀ : Heap} (hx : (nums x).size ≤ 65536) 
    (hp : IsPat h₀ p code 1) (hP : h₀.get? P = none) : ∀ (n start : Nat) (k : Int) (vs : List Value) (ys : List (Array UInt8)) (s : Shared), (nums x).size ≤ start + n → start ≤ (nums x).size → BytesAre vs ys → vs.length ≤ 2 * start → (nb ys).length ≤ start * 9 →
    s.heap.IsList P vs.toArray → (∀ b o, h₀.get? b = some o → s.heap.get? b = some o) →
    (∀ (y : Array UInt8) t' h' tk, y.toList.map (·.toNat) = nb ys ++ subOut (fit (nums x)) [] (nums x) (n + 1) start → (∀ b o, h₀.get? b = some o → h'.get? b = some o) → h'.objs.size = s.heap.objs.size → R (.ok (.ret (.bytes y t'))) { s with heap := h', toks := tk }) →
    codeAny (model prog w) A (.builtin "re.Pattern.sub.loop" ⟨[.ref p, .bytes x t, .bytes #[] u, rawInt 0, rawInt 0, rawInt k, rawInt start, rawInt start, .bool false, .ref P, .bool false], []⟩) R s := by
    intro n
    induction n using Nat.strongRecOn with
    | _ n ih =>
    intro start k vs ys s hn hs hv hvl hfl hl hk hR
    refine codeAny_builtin entry_sub_loop ?_
    rw [Around.under_plainId plain_sub_loop _]
    show wpAny _ _ (reWholeTarget (.ref p) (.bytes x t) >>= _) _ _ s
    refine wpAny_bind (whole_bytes (hp.ext hk) ?_)
    dsimp only
    refine wpAny_bind (literal_bytes ?_)
    have hsub : subOut (fit (nums x)) [] (nums x) (n + 1) start = match nextFit (fit (nums x)) ((nums x).size - start + 1) start with
      | some (b, e) => ((nums x).extract start b).toList ++ ([] ++ subOut (fit (nums x)) [] (nums x) n e)
      | none => (nums x).toList.drop start := rfl
    rw [hsub] at hR
    refine wpAny_bind (show wpAny _ _ (reRunToEnd (Sre.forSearch code (nums x) 0 start (nums x).size false)) _ _ _ from wpAny_reRunToEnd (RX.search (nums x) start hs (by omega)) (fun b e m hf hm1 hm2 => ?_) (fun hf => ?_))
    · rw [hf] at hR
      dsimp only at hR ⊢
      obtain ⟨hfb, hb1, hb2⟩ := nextFit_some hf
      obtain ⟨hbe, hes⟩ := RX.adv _ _ _ hfb
      obtain ⟨n', rfl⟩ : ∃ n', n = n' + 1 := ⟨n - 1, by omega⟩
      have hlast : ∀ (vs' : List Value) (ys' : List (Array UInt8)) (s' : Shared), BytesAre vs' ys' → nb ys' = nb ys ++ ((nums x).extract start b).toList → vs'.length ≤ vs.length + 1 → s'.heap.IsList P vs'.toArray → (∀ b o, h₀.get? b = some o → s'.heap.get? b = some o) →
          (∃ h' tk, s' = { s with heap := h', toks := tk } ∧ h'.objs.size = s.heap.objs.size) →
          wpAny (model prog w) A.in1 (updateSeq P (·.push (.bytes #[] u))) (fun _ s' => codeAny (model prog w) A (.builtin "re.Pattern.sub.loop" ⟨[.ref p, .bytes x t, .bytes #[] u, rawInt 0, rawInt 0, rawInt (k + 1), rawInt e, rawInt e, .bool false, .ref P, .bool false], []⟩) R s') (fun e s' => R (.error e) s') s' := by
        intro vs' ys' s' hv' hfl' hvl' hl' hk' hs'
        obtain ⟨h', tk, rfl, hsize⟩ := hs'
        refine push_list hl' (by omega) fun h'' hl'' hk'' hsize' => ?_
        refine ih n' (by omega) e (k + 1) (vs' ++ [.bytes #[] u]) (ys' ++ [#[]]) _ (by omega) hes (BytesAre.push hv' _ _) ?_ ?_ hl'' (fun b o hb => hk'' _ _ (fun eq => by subst eq; rw [hP] at hb; cases hb) (hk' _ _ hb)) ?_
        · rw [List.length_append]; simp only [List.length_cons, List.length_nil]; omega
        · have e1 : ((nums x).extract start b).toList.length = b - start := by rw [Array.length_toList, Array.size_extract]; omega
          rw [nb_append, nb_one, hfl', List.length_append, List.length_append, e1]; simp [flatB, nb] at hfl ⊢; omega
        · intro y t' h3 tk3 hy hk3 hs3
          refine hR y t' h3 tk3 ?_ hk3 (hs3.trans (hsize'.trans hsize))
          rw [hy, nb_append, nb_one, hfl']; simp
      have hne : (m.handed == m.start) = false := by rw [hm1, hm2]; exact beq_eq_false_iff_ne.mpr (by omega)
      rw [hne, hm2, hm1]
      show wpAny _ _ (if start < b then _ else _) _ _ _
      by_cases hsb : start < b
      · rw [if_pos hsb]
        refine wpAny_bind (slice_bytes hx ?_)
        refine wpAny_bind (push_list (s := { s with toks := s.toks + 1 }) hl (by omega) fun h' hl' hk' hsize' => ?_)
        show wpAny _ _ (updateSeq P (·.push (.bytes #[] u)) >>= _) _ _ _
        refine wpAny_bind (wpAny_mono (hlast _ _ _ (BytesAre.push hv _ _) (by rw [nb_append, nb_one]; exact congrArg (nb ys ++ ·) (nums_cut x start b)) (by simp) hl' (fun b o hb => hk' _ _ (fun eq => by subst eq; rw [hP] at hb; cases hb) (hk _ _ hb)) ⟨h', _, rfl, hsize'⟩) (fun _ s' hc => ?_) (fun _ _ h => h))
        exact wpAny_pure ⟨plainId_quiet plain_sub_loop _, hc⟩
      · rw [if_neg hsb]
        show wpAny _ _ (updateSeq P (·.push (.bytes #[] u)) >>= _) _ _ _
        refine wpAny_bind (wpAny_mono (hlast vs ys s hv ?_ (by omega) hl hk ⟨s.heap, s.toks, rfl, rfl⟩) (fun _ s' hc => ?_) (fun _ _ h => h))
        · obtain rfl : b = start := by omega
          simp
        · exact wpAny_pure ⟨plainId_quiet plain_sub_loop _, hc⟩
    · rw [hf] at hR
      dsimp only at hR ⊢
      have hfin : ∀ (vs' : List Value) (ys' : List (Array UInt8)) (s' : Shared), BytesAre vs' ys' → nb ys' = nb ys ++ (nums x).toList.drop start → s'.heap.IsList P vs'.toArray → (∀ b o, h₀.get? b = some o → s'.heap.get? b = some o) →
          (∃ h' tk, s' = { s with heap := h', toks := tk } ∧ h'.objs.size = s.heap.objs.size) →
          wpAny (model prog w) A.in1 (do
            let joiner ← reSlice (nums x) 1 0 0
            let text ← if ((← seqItems? (.ref P)).getD #[]).isEmpty then pure joiner else call (.builtin "bytes.join") [joiner, .ref P]
            ret text) (fun fin s' => match fin with | .done f => R (.ok f) s' | .again c' => c'.quiet = true ∧ codeAny (model prog w) A c' R s') (fun e s' => R (.error e) s') s' := by
        intro vs' ys' s' hv' hfl' hl' hk' hs'
        obtain ⟨h', tk, rfl, hsize⟩ := hs'
        refine wpAny_bind (slice_bytes hx ?_)
        dsimp only
        rw [show (x.extract 0 0) = #[] by simp]
        refine wpAny_bind (wpAny_seqItems (o := hl'.choose) hl'.choose_spec.1 hl'.choose_spec.2.2.choose_spec ?_)
        show wpAny _ _ (if vs'.toArray.isEmpty = true then _ else _) _ _ _
        by_cases he : vs'.toArray.isEmpty = true
        · rw [if_pos he]
          refine wpAny_bind (wpAny_pure (wpAny_pure (hR #[] _ h' _ ?_ hk' hsize)))
          rw [← hfl']
          cases hv' with
          | nil => rfl
          | cons _ _ _ => simp at he
        · rw [if_neg he]
          refine wpAny_bind (bytes_join (s := { s with heap := h', toks := _ }) hl' hv' (by intro e; subst e; exact he rfl) ?_ fun y t' k hy => ?_)
          · have e3 : (nums x).toList.length = (nums x).size := Array.length_toList
            have e5 : (flatB ys').length = (nb ys').length := by simp [nb]
            rw [e5, hfl', List.length_append, List.length_drop, e3]
            omega
          · refine wpAny_pure (hR y t' h' k ?_ hk' hsize)
            rw [← hfl', hy]; rfl
      show wpAny _ _ (if start < (nums x).size then _ else _) _ _ _
      by_cases hsb : start < (nums x).size
      · rw [if_pos hsb]
        refine wpAny_bind (slice_bytes hx ?_)
        refine wpAny_bind (push_list (s := { s with toks := s.toks + 1 }) hl (by omega) fun h' hl' hk' hsize' => ?_)
        refine hfin _ _ _ (BytesAre.push hv _ _) ?_ hl' (fun b o hb => hk' _ _ (fun eq => by subst eq; rw [hP] at hb; cases hb) (hk _ _ hb)) ⟨h', _, rfl, hsize'⟩
        rw [nb_append, nb_one]
        have e4 : ((nums x).extract start (nums x).size).toList = (nums x).toList.drop start := by
          simp only [Array.toList_extract, List.extract_eq_take_drop]
          exact List.take_of_length_le (by rw [List.length_drop, Array.length_toList]; exact Nat.le_refl _)
        exact congrArg (nb ys ++ ·) ((nums_cut x start _).trans e4)
      · rw [if_neg hsb]
        refine hfin _ _ _ hv ?_ hl hk ⟨s.heap, s.toks, rfl, rfl⟩
        rw [List.drop_of_length_le (by rw [Array.length_toList]; omega)]; simp
section
variable {prog : Program} {w : World} {A : Around} {E : Value → Shared → Prop} {s : Shared}
theorem sub_bytes {code : Array Nat} {fit : Array Nat → Nat → Option Nat} (RX : Rx code fit) {x : Array UInt8} {t u : Tok} {p : Addr} {Q : Value → Shared → Prop} (hx : x.size ≤ 65536)
    (hp : IsPat s.heap p code 1)
    (hq : ∀ (y : Array UInt8) t' h' tk, y.toList.map (·.toNat) = subOut (fit (nums x)) [] (nums x) (x.size + 1) 0 → (∀ b o, s.heap.get? b = some o → h'.get? b = some o) → Q (.bytes y t') { s with heap := h', toks := tk }) :
    wpAny (model prog w) A (call (.builtin "re.Pattern.sub") [.ref p, .bytes #[] u, .bytes x t]) Q E s := by
  have hT : s.TypeIs (.ref p) "re.Pattern" := by
    obtain ⟨o, fs, c, oc, items, n, h1, h0, _⟩ := hp
    exact ⟨o, h1, h0⟩
  refine wpAny_call (codeAny_call_builtin slot_pat_sub.plain entry_pat_sub (slot_pat_sub.check _ _ _ _ _ _ _ _ hT (args_pat_sub _ _ _) ?_))
  show wpAny _ _ (reNamed "re.Pattern.sub" "sub" ["repl", "string", "count"] 2 [.bytes #[] u, .bytes x t] [] >>= _) _ _ s
  refine wpAny_bind (wpAny_of_eq (named_sub _ _) ?_)
  refine wpAny_bind (wpAny_pure ?_)
  refine wpAny_bind (wpAny_specialOf (typeIs_bytes _ _ _) nocall_bytes ?_)
  refine wpAny_bind (show wpAny _ _ (asStr? (.bytes #[] u)) _ _ _ from wpAny_bind (show wpAny _ _ (notAStandIn (.bytes #[] u)) _ _ _ from wpAny_pure (wpAny_pure ?_)))
  refine wpAny_bind (wpAny_of_eq KBy.quiet_eq ?_)
  refine wpAny_bind (wpAny_pure ?_)
  rw [show (!(#[] : Array UInt8).contains 92) = true by simp]
  refine wpAny_bind (show wpAny _ _ (pure (Value.bytes #[] u, 0)) _ _ _ from wpAny_pure ?_)
  refine wpAny_bind (wpAny_holding (whole_bytes hp ?_))
  refine wpAny_bind (wpAny_newList ?_)
  refine wpAny_pure ⟨plainId_quiet plain_sub_loop _, ?_⟩
  refine sub_loopB RX (by rw [nums_size]; exact hx) (h₀ := s.heap) hp (get_size_none _) (nums x).size 0 0 [] [] _ (by omega) (by omega) .nil (by simp) (by simp [nb, flatB]) ⟨_, Heap.get?_push_size _ rfl, rfl, _, rfl⟩ (fun b o hb => Heap.get?_push_of_some _ hb) ?_
  intro y t' h' tk hy hk hsz
  exact hq y t' h' tk (by rw [hy, nums_size]; rfl) hk
end
end Mine

end
/-! ## BytesCount -/
section
open PySem PySem.W PySem.Builtin PySem.Builtin.Re PyProof.Rows
namespace Mine
set_option maxRecDepth 100000
theorem extract_one (b : Array UInt8) (c : UInt8) (i : Nat) (hi : i < b.size) : (b.extract i (i + 1) == #[c]) = (b.toList[i]'(by simpa using hi) == c) := by
  have e : b.extract i (i + 1) = #[b[i]] := by
    apply Array.ext'
    simp only [Array.toList_extract, List.extract_eq_take_drop]
    rw [show i + 1 - i = 1 by omega, List.drop_eq_getElem_cons (by simpa using hi)]
    simp
  rw [e]
  simp
theorem occ_count (b : Array UInt8) (c : UInt8) : (Bytes.occurrences b #[c] 0 b.size).length = b.toList.count c := by
  unfold Bytes.occurrences
  dsimp only
  rw [List.length_reverse]
  have key : ∀ k, k ≤ b.size → (((List.range k).map (· + 0)).foldl (fun (acc : List Nat × Nat) (i : Nat) => if i ≥ acc.2 && b.extract i (i + (#[c] : Array UInt8).size) == #[c] then (i :: acc.1, i + (#[c] : Array UInt8).size) else acc) ([], 0)).1.length = (b.toList.take k).count c
      ∧ (((List.range k).map (· + 0)).foldl (fun (acc : List Nat × Nat) (i : Nat) => if i ≥ acc.2 && b.extract i (i + (#[c] : Array UInt8).size) == #[c] then (i :: acc.1, i + (#[c] : Array UInt8).size) else acc) ([], 0)).2 ≤ k := by
    intro k
    induction k with
    | zero => intro _; simp
    | succ k ih =>
      intro hk
      obtain ⟨h1, h2⟩ := ih (by omega)
      rw [List.range_succ, List.map_append, List.foldl_append]
      simp only [List.map_cons, List.map_nil, List.foldl_cons, List.foldl_nil, Nat.add_zero]
      rw [List.take_succ_eq_append_getElem (by simp; omega), List.count_append]
      have hx := extract_one b c k hk
      simp only [Nat.add_zero] at h1 h2
      rw [show (#[c] : Array UInt8).size = 1 from rfl] at h1 h2 ⊢
      rw [hx, decide_eq_true h2, Bool.true_and]
      by_cases hb : (b.toList[k]'(by simp; omega) == c) = true
      · rw [if_pos hb]
        refine ⟨?_, Nat.le_refl _⟩
        rw [List.length_cons, h1, eq_of_beq hb]; simp
      · rw [if_neg hb]
        refine ⟨?_, by omega⟩
        rw [h1]
        have : b.toList[k]'(by simp; omega) ≠ c := fun e => hb (by rw [e]; simp)
        rw [List.count_singleton, if_neg hb]; simp
  have := (key b.size (Nat.le_refl _)).1
  rw [show b.size + 1 - (0 + (#[c] : Array UInt8).size) = b.size by simp]
  rw [this, List.take_of_length_le (by simp)]
theorem slot_bytes_count : Slot "bytes" "count" "bytes.count" :=
  .of (owner := "bytes") (n := "count") (by rw [typeLookup_type, builtinLookup_eq_fast]; kernel_rfl) (by decide +kernel) (by decide +kernel) (by decide +kernel)
    (by first | exact .inl (by decide +kernel) | exact .inr (by decide +kernel)) (by rw [isSubtype_type]; kernel_rfl)
theorem entry_bytes_count : entryFor table "bytes.count" = some Builtin.«bytes.count» := by first | exact entryFor_of_tree (by kernel_rfl) | exact entryFor_of_fast (by kernel_rfl)
theorem args_bytes_count (a b : Value) : argsOk "bytes.count" ⟨[a, b], []⟩ := by
  unfold argsOk; kernel_rfl
section
variable {prog : Program} {w : World} {A : Around} {E : Value → Shared → Prop} {s : Shared}
theorem selfSome (a b : Value) : selfAndSome (s!"{Bytes.Kind.bytes.name}.{"count"}") "count" 1 3 ⟨[a, b], []⟩ = pure (a, [b]) := by kernel_rfl
theorem search_args (b : Array UInt8) (c : UInt8) (t u : Tok) : Bytes.searchArgs .bytes "count" ⟨[.bytes b t, .bytes #[c] u], []⟩ = pure (b, #[c], if b.size = 0 then none else some (0, b.size)) := by
  unfold Bytes.searchArgs
  dsimp only
  rw [selfSome]
  simp only [pure_bind, List.getElem?_cons_zero, List.getElem?_cons_succ, List.getElem?_nil, List.headD_cons]
  rw [show Bytes.bound? none = pure none from rfl]
  simp only [pure_bind]
  rw [KBy.buffer_eq]
  simp only [pure_bind]
  rw [show Bytes.payload (.bytes b t) = pure b from rfl]
  simp only [pure_bind]
  have e : Bytes.window b.size none none = ((0 : Int), (b.size : Int)) := by
    unfold Bytes.window
    dsimp only [Option.getD]
    rw [if_neg (by omega), if_neg (by omega), Int.min_def, if_pos (Int.le_refl _)]
  rw [e]
  congr 1
  by_cases h : b.size = 0
  · rw [if_pos h]; simp [h]
  · rw [if_neg h]
    have : ¬ ((b.size : Int) - 0 < ((#[c] : Array UInt8).size : Int)) := by
      simp; omega
    rw [if_neg this]; simp
theorem bytes_count {b : Array UInt8} {c : UInt8} {t u : Tok} {Q : Value → Shared → Prop} (h : ∀ t' tk, Q (.int (b.toList.count c : Nat) t') { s with toks := tk }) : wpAny (model prog w) A (call (.builtin "bytes.count") [.bytes b t, .bytes #[c] u]) Q E s := by
  refine wpAny_call (codeAny_call_builtin slot_bytes_count.plain entry_bytes_count (slot_bytes_count.check _ _ _ _ _ _ _ _ (typeIs_bytes _ _ _) (args_bytes_count _ _) ?_))
  show wpAny _ _ (Bytes.searchArgs .bytes "count" ⟨[.bytes b t, .bytes #[c] u], []⟩ >>= _) _ _ s
  refine wpAny_bind (wpAny_of_eq (search_args b c t u) ?_)
  by_cases hb : b.size = 0
  · rw [if_pos hb]
    have e : b.toList.count c = 0 := by
      have : b.toList = [] := by rw [← List.length_eq_zero_iff]; simpa using hb
      rw [this]; rfl
    rw [e] at h
    exact wpAny_bind (wpAny_mkInt (wpAny_pure (h _ _)))
  · rw [if_neg hb]
    dsimp only
    rw [if_neg (by simp), occ_count]
    exact wpAny_bind (wpAny_mkInt (wpAny_pure (h _ _)))
end
end Mine

end
/-! ## WalkRules -/
section
open PySem PySem.W PySem.Builtin PySem.Builtin.Re PyProof.Rows
set_option maxRecDepth 100000
namespace Mine
theorem plainAttrs_pat : PlainAttrs "re.Pattern" :=
  ⟨⟨"object.__getattribute__", by rw [typeLookup_type, builtinLookup_eq_fast]; kernel_rfl, by decide +kernel⟩, by rw [typeLookup_type, builtinLookup_eq_fast]; kernel_rfl⟩
theorem plainAttrs_bytes : PlainAttrs "bytes" :=
  ⟨⟨"bytes.__getattribute__", by rw [typeLookup_type, builtinLookup_eq_fast]; kernel_rfl, by decide +kernel⟩, by rw [typeLookup_type, builtinLookup_eq_fast]; kernel_rfl⟩
theorem type_pat_sub : typeOf (.builtin "re.Pattern.sub") = pure (.type "method_descriptor") := by show builtinType _ = _; rw [builtinType_eq_fast]; kernel_rfl
theorem type_bytes_count : typeOf (.builtin "bytes.count") = pure (.type "method_descriptor") := by show builtinType _ = _; rw [builtinType_eq_fast]; kernel_rfl
section
variable {M : Model} {A : Around} {E : Value → Shared → Prop} {s : Shared}
theorem getMethod_sub {p : Addr} {o : Obj} {pl : Sem Bool} {Q : Value × List Value → Shared → Prop} (ho : s.heap.get? p = some o) (hc : o.cls = .type "re.Pattern") (hd : o.dict = none)
    (h : Q (.builtin "re.Pattern.sub", [.ref p]) s) : wpAny M A (getMethod (.ref p) "sub" pl) Q E s :=
  getMethod_builtin (T := "re.Pattern") ⟨o, ho, hc⟩ plainAttrs_pat slot_pat_sub type_pat_sub (fun a e => by cases e; exact ⟨o, ho, hd⟩) h
theorem getMethod_count {b : Array UInt8} {t : Tok} {pl : Sem Bool} {Q : Value × List Value → Shared → Prop}
    (h : Q (.builtin "bytes.count", [.bytes b t]) s) : wpAny M A (getMethod (.bytes b t) "count" pl) Q E s :=
  getMethod_builtin (typeIs_bytes _ _ _) plainAttrs_bytes slot_bytes_count type_bytes_count (fun a e => nomatch e) h
end
section
variable {prog : Program} {w : World} {A : Around} {E : Value → Shared → Prop} {s : Shared} {h₀ : Heap} {L : Addr} {m : Str → Option Value}
theorem getMethod_subF {p : Addr} {o : Obj} {pl : Sem Bool} {Q : Value × List Value → Shared → Prop} (F : Fr h₀ L s.heap m) (ho : h₀.get? p = some o) (hc : o.cls = .type "re.Pattern") (hd : o.dict = none)
    (h : Q (.builtin "re.Pattern.sub", [.ref p]) s) : wpAny (model prog w) A (getMethod (.ref p) "sub" pl) Q E s := getMethod_sub (F.keep _ _ ho) hc hd h
theorem sub_bytesF {code : Array Nat} {fit : Array Nat → Nat → Option Nat} {x : Array UInt8} {t u : Tok} {p : Addr} {Q : Value → Shared → Prop} (F : Fr h₀ L s.heap m) (hp : IsPat h₀ p code 1) (RX : Rx code fit) (hx : x.size ≤ 65536)
    (hq : ∀ (y : Array UInt8) t' h' tk, y.toList.map (·.toNat) = subOut (fit (nums x)) [] (nums x) (x.size + 1) 0 → Fr h₀ L h' m → News h₀ L h' [] → Q (.bytes y t') { s with heap := h', toks := tk }) :
    wpAny (model prog w) A (call (.builtin "re.Pattern.sub") [.ref p, .bytes #[] u, .bytes x t]) Q E s :=
  sub_bytes RX hx (hp.ext F.keep) fun y t' h' tk hy hk => hq y t' h' tk hy (F.after hk) News.nil
theorem sub_strF {code : Array Nat} {fit : Array Nat → Nat → Option Nat} {x rep : Str} {t u : Tok} {p : Addr} {Q : Value → Shared → Prop} (F : Fr h₀ L s.heap m) (hp : IsPat h₀ p code 0) (RX : Rx code fit) (hx : x.cps.size ≤ 65536) (hrep : rep.cps.size ≤ 8) (hlit : rep.cps.contains 92 = false)
    (hq : ∀ (y : Str) t' h' tk, y.cps.toList = subText fit rep x → Fr h₀ L h' m → News h₀ L h' [] → Q (.str y t') { s with heap := h', toks := tk }) :
    wpAny (model prog w) A (call (.builtin "re.Pattern.sub") [.ref p, .str rep u, .str x t]) Q E s :=
  sub_str RX hx hrep hlit (hp.ext F.keep) fun y t' h' tk hy hk => hq y t' h' tk hy (F.after hk) News.nil
end
end Mine

end
/-! ## WStd -/
section
open PySem PySem.W PySem.Builtin PySem.Builtin.Re PyProof.Rows
set_option maxRecDepth 100000
set_option linter.unusedVariables false
namespace Mine
noncomputable abbrev sT (g : Nat → Obj) (w : World) : Shared := sE g w startOs
@[irreducible] noncomputable def mgT (g : Nat → Obj) (w : World) : Str → Option Value := (sT g w).heap.nsMap mainGlobals
@[irreducible] noncomputable def mbT (g : Nat → Obj) (w : World) : Str → Option Value := (sT g w).heap.nsMap builtinsNs
/-- what stands at every heap of the call -/
structure Std (g : Nat → Obj) (w : World) (h : Heap) : Prop where
  keep : ∀ b o, (sT g w).heap.get? b = some o → h.get? b = some o
  top : Top qV (looseW qV looseV) (ExcName.means (sT g w).heap) (mgT g w) (mbT g w) h
theorem Std.ext {g : Nat → Obj} {w : World} {h h' : Heap} (S : Std g w h) (k : ∀ b o, h.get? b = some o → h'.get? b = some o) : Std g w h' :=
  ⟨fun b o e => k _ _ (S.keep b o e), S.top.keeps k⟩
section
variable (g : Nat → Obj) (w : World)
theorem at36 : (sT g w).heap.get? 36 = some (o36A w.params) := by kernel_rfl
theorem at35 : (sT g w).heap.get? 35 = some (o35A w.params) := by kernel_rfl
theorem at49 : (sT g w).heap.get? 49 = some (o49A w.params) := by kernel_rfl
theorem at48 : (sT g w).heap.get? 48 = some (o48A w.params) := by kernel_rfl
theorem at54 : (sT g w).heap.get? 54 = some (o54A w.params) := by kernel_rfl
theorem at53 : (sT g w).heap.get? 53 = some (o53A w.params) := by kernel_rfl
theorem at37 : (sT g w).heap.get? 37 = some (o37A w.params) := by kernel_rfl
theorem at44 : (sT g w).heap.get? 44 = some (o44A w.params) := by kernel_rfl
theorem at43 : (sT g w).heap.get? 43 = some (o43A w.params) := by kernel_rfl
theorem pat36 : IsPat (sT g w).heap 36 c0 1 := ⟨_, _, 35, _, _, _, at36 g w, rfl, rfl, rfl, rfl, rfl, at35 g w, rfl, by first | kernel_rfl | simp [reRawOf, c0, c1, c2]⟩
theorem pat49 : IsPat (sT g w).heap 49 c1 0 := ⟨_, _, 48, _, _, _, at49 g w, rfl, rfl, rfl, rfl, rfl, at48 g w, rfl, by first | kernel_rfl | simp [reRawOf, c0, c1, c2]⟩
theorem pat54 : IsPat (sT g w).heap 54 c2 0 := ⟨_, _, 53, _, _, _, at54 g w, rfl, rfl, rfl, rfl, rfl, at53 g w, rfl, by first | kernel_rfl | simp [reRawOf, c0, c1, c2]⟩
theorem gl_quoted : mgT g w (Str.ofString "_quoted") = some (.ref 36) := by unfold mgT; kernel_rfl
theorem gl_re1 : mgT g w (Str.ofString "_twin_re_1") = some (.ref 49) := by unfold mgT; kernel_rfl
theorem gl_re2 : mgT g w (Str.ofString "_twin_re_2") = some (.ref 54) := by unfold mgT; kernel_rfl
end
/-- entering a def of the top -/
theorem enter {g : Nat → Obj} {w : World} {A : Around} {E : Value → Shared → Prop} {s : Shared} {a : Addr} {o : Obj} {fd : FuncData} {body : List Stmt} {args : List Value} {binds : List (Str × Value)} {Q : Value → Shared → Prop}
    (S : Std g w s.heap) (hroom : A.depth < recursionLimit) (ho : (sT g w).heap.get? a = some o) (hdata : o.data = .func fd) (hcd : (sT g w).heap.CodeRec fd.code fd.qualname)
    (hbody : fd.body = .stmts body) (hbind : BindsTo s fd ⟨args, []⟩ binds)
    (hcell : ∀ x ∈ fd.scope.names, x.2 ≠ .cell) (hloc : ∀ x ∈ binds, fd.scope.names.lookup x.1 = some .local)
    (h : ∀ h₁, Fr s.heap s.heap.objs.size h₁ (fun x => binds.reverse.lookup x) →
      wpAny (model pT w) (A.deeper (callEnv fd s.heap.objs.size a)) (execs body (callEnv fd s.heap.objs.size a)) (fun f s' => Q (match f with | .ret v => v | _ => .none) s') (fun _ _ => False)
        { s with heap := h₁, toks := s.toks + binds.length })
    (hco : fd.scope.isCoroutine = false := by rfl) (hgen : fd.scope.isGenerator = false := by rfl) (hk : fd.scope.kind = .function := by rfl) :
    wpAny (model pT w) A (PySem.call (.ref a) args) Q E s :=
  wpAny_call (codeAny_call_def hroom (S.keep _ _ ho) hdata S.top.nolimit (hcd.keeps S.keep) hbody hbind hcell hloc (fun h₁ hns hkeep => wpAny_mono (h h₁ ⟨hns, hkeep, Nat.le_refl _⟩) (fun _ _ x => x) fun _ _ x => x.elim) hco hgen hk)
end Mine

end
/-! ## Walk1 -/
section
open PySem PySem.W PySem.Builtin PySem.Builtin.Re PyProof.Rows
set_option maxRecDepth 100000
set_option linter.unusedVariables false
namespace Mine
theorem resetWalk1 : True := by
  w_top off
  exact trivial
local macro_rules | `(tactic| walk_at "eval Name") => `(tactic| ((with_reducible show wpAny _ _ (eval (Expr.Name _ _) (envOf _ _ _ _ _)) _ _ _); refine ld_global_at (by assumption) (Top.g (by assumption)) (by assumption) ?_))
local macro_rules | `(tactic| walk_at "getMethod ref") => `(tactic| ((with_reducible show wpAny _ _ (getMethod (Value.ref _) _ _) _ _ _); refine getMethod_subF (by assumption) (by assumption) rfl rfl ?_))
local macro_rules | `(tactic| walk_at "getMethod bytes") => `(tactic| ((with_reducible show wpAny _ _ (getMethod (Value.bytes _ _) _ _) _ _ _); refine getMethod_count ?_))
local macro_rules | `(tactic| walk_at "call builtin:re.Pattern.sub") => `(tactic| ((with_reducible show wpAny _ _ (call (Value.builtin "re.Pattern.sub") [Value.ref _, Value.bytes _ _, Value.bytes _ _]) _ _ _); refine sub_bytesF (by assumption) (by assumption) (by assumption) (by assumption) ?_; intro _ _ _ _ _ _ _))
local macro_rules | `(tactic| walk_at "call builtin:bytes.count") => `(tactic| ((with_reducible show wpAny _ _ (call (Value.builtin "bytes.count") _) _ _ _); refine bytes_count ?_; intro _ _))
def strip (l : List Nat) (n : Nat) : List Nat := subOut (fit0 l.toArray) [] l.toArray (n + 1) 0
theorem count_nums : ∀ (l : List UInt8) (c : UInt8), (l.map (·.toNat)).count c.toNat = l.count c
  | [], _ => rfl
  | a :: l, c => by
    rw [List.map_cons, List.count_cons, List.count_cons, count_nums l c]
    congr 1
    by_cases h : a = c
    · subst h; simp
    · have : a.toNat ≠ c.toNat := fun e => h (UInt8.toNat_inj.1 e)
      simp [h, this]
theorem depth_call (g : Nat → Obj) (w : World) {A : Around} {E : Value → Shared → Prop} {s : Shared} {d : Array UInt8} {t t' : Tok} {k : Int} {Q : Value → Shared → Prop}
    (S : Std g w s.heap) (hroom : A.depth < recursionLimit) (hd : d.size ≤ 65536)
    (hq : ∀ (out : List Nat) t'' h' tk, out = subOut (fit0 (nums d)) [] (nums d) (d.size + 1) 0 → (∀ b o, s.heap.get? b = some o → h'.get? b = some o) → Q (.int (k + (out.count 40 : Nat) - (out.count 41 : Nat)) t'') { s with heap := h', toks := tk }) :
    wpAny (model pT w) A (PySem.call (.ref 44) [.bytes d t, .int k t']) Q E s := by
  refine enter (binds := [(Str.ofString "data", .bytes d t), (Str.ofString "depth", .int k t')]) S hroom (at44 g w) rfl ⟨43, _, _, _, rfl, at43 g w, rfl, rfl⟩ rfl (BindsTo.of_defaults (items := #[Value.int 0 328]) rfl (S.keep _ _ (at37 g w)) rfl (by rfl) (by rfl)) (by decide) (by simp; decide) ?_
  intro h₁ F
  have N : News s.heap s.heap.objs.size h₁ [] := News.nil
  have T := S.top
  have G1 := gl_quoted g w
  have K36 := S.keep _ _ (at36 g w)
  have P36 := (pat36 g w).ext S.keep
  have RX := rx0
  show wpAny _ _ (execs (dB 2) (envOf (Str.ofString "_paren_depth") (dS 2) s.heap.objs.size 44 (.ref 43))) _ _ _
  conv in dB 2 => whnf
  conv in dS 2 => whnf
  clear S
  repeat' walk1
  rename_i y t1 h2 tk2 hy F2 N2 h3 F3 N3 t2 tk3 t3 tk4
  have e40 : List.count 40 y.toList = (y.toList.map (·.toNat)).count 40 := (count_nums y.toList 40).symm
  have e41 : List.count 41 y.toList = (y.toList.map (·.toNat)).count 41 := (count_nums y.toList 41).symm
  rw [e40, e41, hy]
  exact hq _ _ h3 _ rfl F3.keep
end Mine

end
/-! ## Walk2 -/
section
open PySem PySem.W PySem.Builtin PySem.Builtin.Re PyProof.Rows
set_option maxRecDepth 100000
set_option linter.unusedVariables false
namespace Mine
theorem resetWalk2 : True := by
  w_top off
  exact trivial
local macro_rules | `(tactic| walk_at "eval Name") => `(tactic| ((with_reducible show wpAny _ _ (eval (Expr.Name _ _) (envOf _ _ _ _ _)) _ _ _); refine ld_global_at (by assumption) (Top.g (by assumption)) (by assumption) ?_))
local macro_rules | `(tactic| walk_at "getMethod ref") => `(tactic| ((with_reducible show wpAny _ _ (getMethod (Value.ref _) _ _) _ _ _); refine getMethod_subF (by assumption) (by assumption) rfl rfl ?_))
local macro_rules | `(tactic| walk_at "call builtin:re.Pattern.sub") => `(tactic| ((with_reducible show wpAny _ _ (call (Value.builtin "re.Pattern.sub") [Value.ref _, Value.str _ _, Value.str _ _]) _ _ _); refine sub_strF (by assumption) (by assumption) (by assumption) (by first | assumption | (rw [← Array.length_toList, ‹Array.toList _ = _›]; assumption)) (by decide +kernel) (by decide +kernel) ?_; intro _ _ _ _ _ _ _))
section
variable (g : Nat → Obj) (w : World)
theorem at61 : (sT g w).heap.get? 61 = some (o61A w.params) := by kernel_rfl
theorem at60 : (sT g w).heap.get? 60 = some (o60A w.params) := by kernel_rfl
def crlfS : Str := Str.ofString "\r\n"
def dotsS : Str := Str.ofString ".."
theorem gl_crlf : mgT g w (Str.ofString "CRLF") = some (.str (Str.ofString "\r\n") 397) := by unfold mgT; kernel_rfl
end
def cnv (x : Str) : Str := ⟨(subText fit2 crlfS x).toArray⟩
def sendS (x : Str) : Str := ⟨(subText fit1 dotsS (cnv x)).toArray⟩
theorem str_of_list {y : Str} {l : List Nat} (h : y.cps.toList = l) : y = ⟨l.toArray⟩ := by
  obtain ⟨c⟩ := y
  rw [← h]
theorem quote_call (g : Nat → Obj) (w : World) {A : Around} {E : Value → Shared → Prop} {s : Shared} {x : Str} {t : Tok} {Q : Value → Shared → Prop}
    (S : Std g w s.heap) (hroom : A.depth < recursionLimit) (hx : x.cps.size ≤ 65536) (hx2 : (subText fit2 (Str.ofString "\r\n") x).length ≤ 65536)
    (hq : ∀ t'' h' tk, (∀ b o, s.heap.get? b = some o → h'.get? b = some o) → Q (.str (sendS x) t'') { s with heap := h', toks := tk }) :
    wpAny (model pT w) A (PySem.call (.ref 61) [.str x t]) Q E s := by
  refine enter (binds := [(Str.ofString "data", .str x t)]) S hroom (at61 g w) rfl ⟨60, _, _, _, rfl, at60 g w, rfl, rfl⟩ rfl (.of_eq (by rfl)) (by decide) (by simp; decide) ?_
  intro h₁ F
  have N : News s.heap s.heap.objs.size h₁ [] := News.nil
  have T := S.top
  have G1 := gl_re1 g w
  have G2 := gl_re2 g w
  have G3 := gl_crlf g w
  have K49 := S.keep _ _ (at49 g w)
  have K54 := S.keep _ _ (at54 g w)
  have P49 := (pat49 g w).ext S.keep
  have P54 := (pat54 g w).ext S.keep
  have RX1 := rx1
  have RX2 := rx2
  show wpAny _ _ (execs (dB 7) (envOf (Str.ofString "quotedata") (dS 7) s.heap.objs.size 61 (.ref 60))) _ _ _
  conv in dB 7 => whnf
  conv in dS 7 => whnf
  clear S
  repeat' walk1
  rename_i y1 t1 h1 tk1 e1 F1 N1 y2 t2 h2 tk2 e2 F2 N2
  have e3 : y2 = sendS x := by
    rw [str_of_list e2, str_of_list e1]; rfl
  rw [e3]
  exact hq _ h2 _ F2.keep
end Mine

end
/-! ## Walk3 -/
section
open PySem PySem.W PySem.Builtin PySem.Builtin.Re PyProof.Rows
set_option maxRecDepth 100000
set_option linter.unusedVariables false
namespace Mine
theorem resetWalk3 : True := by
  w_top off
  exact trivial
def b1list : List Int := [65024, 65025, 65026, 65027, 65028, 65029, 6150, 65030, 65031, 65032, 65033, 6155, 6156, 6157, 8203, 8204, 8205, 65034, 65035, 65036, 65037, 65038, 65039, 173, 847, 8288, 65279]
def inB1 (k : Int) : Bool := b1list.contains k
def chk (e : Int × Value) : Bool := match e.2 with
  | .int i _ => e.1 == hashInt i
  | _ => false
theorem elems_of_chk {w : World} {l : List (Int × Value)} (h : l.all chk = true) : ElemsOf (intKind pT w) l := by
  intro e he
  have hc := List.all_eq_true.1 h e he
  obtain ⟨a, v⟩ := e
  cases v with
  | int i t => exact ⟨⟨i, intKind_is _ _ _ _, eq_of_beq hc⟩, rfl⟩
  | _ => simp [chk] at hc
theorem at69 (g : Nat → Obj) (w : World) : (sT g w).heap.get? 69 = some (o69C w.params) := by kernel_rfl
def keyOf (e : Int × Value) : Int := match e.2 with
  | .int i _ => i
  | _ => 0
theorem is_key {k : Int} {e : Int × Value} (h : chk e = true) : Value.isInt k e.2 = (k == keyOf e) := by
  obtain ⟨a, v⟩ := e
  cases v with
  | int i t => simp only [Value.isInt, keyOf]; exact Bool.beq_comm
  | _ => simp [chk] at h
theorem set69 (g : Nat → Obj) (w : World) : (sT g w).heap.SetOf (intKind pT w) 69 inB1 27 := by
  have hchk : ∀ es ep t, (o69C w.params).data = .set es ep t → es.toList.all chk = true ∧ es.toList.map keyOf = b1list ∧ es.size = 27 ∧ t.fits es.size = true := by
    intro es ep t h
    unfold o69C at h
    injection h with h1 h2 h3
    subst h1 h3
    exact ⟨by kernel_rfl, by kernel_rfl, by kernel_rfl, by kernel_rfl⟩
  obtain ⟨es, ep, t, hd⟩ : ∃ es ep t, (o69C w.params).data = .set es ep t := ⟨_, _, _, rfl⟩
  obtain ⟨h1, h2, h3, h4⟩ := hchk es ep t hd
  refine ⟨_, es, ep, t, at69 g w, ⟨rfl, rfl, rfl⟩, hd, elems_of_chk h1, ?_, ?_, h4, h3⟩
  · intro k
    unfold inB1
    rw [← h2, List.contains_iff_mem, List.mem_map]
    constructor
    · rintro ⟨e, he, rfl⟩
      refine ⟨e, he, ?_⟩
      show Value.isInt (keyOf e) e.2 = true
      rw [is_key (List.all_eq_true.1 h1 e he)]; simp
    · rintro ⟨e, he, hk⟩
      refine ⟨e, he, ?_⟩
      have hk : Value.isInt k e.2 = true := hk
      rw [is_key (List.all_eq_true.1 h1 e he)] at hk
      exact (eq_of_beq hk).symm
  · rw [h3]; decide
theorem gl_b1 (g : Nat → Obj) (w : World) : mgT g w (Str.ofString "b1_set") = some (.ref 69) := by unfold mgT; kernel_rfl
theorem at79 (g : Nat → Obj) (w : World) : (sT g w).heap.get? 79 = some (o79C w.params) := by kernel_rfl
theorem at78 (g : Nat → Obj) (w : World) : (sT g w).heap.get? 78 = some (o78C w.params) := by kernel_rfl
theorem setOf_keeps {w : World} {h h' : Heap} {a : Addr} {S : Int → Bool} {n : Nat} (x : h.SetOf (intKind pT w) a S n) (k : ∀ b o, h.get? b = some o → h'.get? b = some o) : h'.SetOf (intKind pT w) a S n := by
  obtain ⟨o, es, ep, t, ho, r⟩ := x
  exact ⟨o, es, ep, t, k _ _ ho, r⟩
theorem in_b1F {w : World} {A : Around} {E : Value → Shared → Prop} {s : Shared} {h₀ : Heap} {L : Addr} {m : Str → Option Value} {i : Int} {t : Tok} {Q : Value → Shared → Prop} (F : Fr h₀ L s.heap m) (hS : h₀.SetOf (intKind pT w) 69 inB1 27)
    (h : Q (.bool (inB1 i)) { s with toks := s.toks + 1 }) : wpAny (model pT w) A (compareOp .In (.int i t) (.ref 69)) Q E s :=
  wpAny_inSet_of (intKind_is _ _ _ _) rfl (setOf_keeps hS F.keep) h
local macro_rules | `(tactic| walk_at "eval Name") => `(tactic| ((with_reducible show wpAny _ _ (eval (Expr.Name _ _) (envOf _ _ _ _ _)) _ _ _); refine ld_global_at (by assumption) (Top.g (by assumption)) (by assumption) ?_))
theorem no_ord (g : Nat → Obj) (w : World) : mgT g w (Str.ofString "ord") = none := by unfold mgT; kernel_rfl
theorem bi_ord (g : Nat → Obj) (w : World) : mbT g w (Str.ofString "ord") = some (.builtin "ord") := by unfold mbT; kernel_rfl
local macro_rules | `(tactic| walk_at "eval Name") => `(tactic| ((with_reducible show wpAny _ _ (eval (Expr.Name _ _) (envOf _ _ _ _ _)) _ _ _); refine ld_builtin_at (by assumption) (Top.g (by assumption)) (by assumption) (Top.b (by assumption)) (by assumption) ?_))
local macro_rules | `(tactic| walk_at "compareOp In int ref") => `(tactic| (refine in_b1F (by assumption) (by assumption) ?_))
local macro_rules | `(tactic| walk_at "call builtin:ord") => `(tactic| (refine ord_of_char ?_))
theorem in_call (g : Nat → Obj) (w : World) {A : Around} {E : Value → Shared → Prop} {s : Shared} {c : Nat} {t : Tok} {Q : Value → Shared → Prop}
    (S : Std g w s.heap) (hroom : A.depth < recursionLimit)
    (hq : ∀ h' tk, (∀ b o, s.heap.get? b = some o → h'.get? b = some o) → Q (.bool (inB1 c)) { s with heap := h', toks := tk }) :
    wpAny (model pT w) A (PySem.call (.ref 79) [.str ⟨#[c]⟩ t]) Q E s := by
  refine enter (binds := [(Str.ofString "code", .str ⟨#[c]⟩ t)]) S hroom (at79 g w) rfl ⟨78, _, _, _, rfl, at78 g w, rfl, rfl⟩ rfl (.of_eq (by rfl)) (by decide) (by simp; decide) ?_
  intro h₁ F
  have N : News s.heap s.heap.objs.size h₁ [] := News.nil
  have T := S.top
  have G1 := gl_b1 g w
  have G2 := no_ord g w
  have G3 := bi_ord g w
  have S69 := setOf_keeps (set69 g w) S.keep
  show wpAny _ _ (execs (dB 10) (envOf (Str.ofString "in_table_b1") (dS 10) s.heap.objs.size 79 (.ref 78))) _ _ _
  conv in dB 10 => whnf
  conv in dS 10 => whnf
  clear S
  repeat' walk1
  exact hq _ _ F.keep
end Mine

end
/-! ## Walk4 -/
section
open PySem PySem.W PySem.Builtin PySem.Builtin.Re PyProof.Rows
set_option maxRecDepth 100000
set_option linter.unusedVariables false
namespace Mine
/-- what the fold's table says of a sign -/
noncomputable def b3at (k : Int) : Option Str := (b3tab.find? fun p => p.1 == k).map (·.2)
noncomputable def foldS (c : Nat) : Str := match b3at c with
  | some x => x
  | none => Txt.lower ⟨#[c]⟩
theorem find_entL {es : List DictEntry} {l : List (Int × Str)} (h : EntL es l) (k : Int) : match (l.find? fun p => p.1 == k) with
    | some p => ∃ u, (es.find? fun e => Value.isInt k e.key).map (·.val) = some (.str p.2 u)
    | none => (es.find? fun e => Value.isInt k e.key).map (·.val) = none := by
  induction h with
  | nil => rfl
  | @cons k' x t u es l _ ih =>
    rw [List.find?_cons, List.find?_cons]
    have e : Value.isInt k (Value.int k' t) = (k' == k) := rfl
    dsimp only
    rw [e]
    cases hb : (k' == k) with
    | true => exact ⟨u, rfl⟩
    | false => exact ih
theorem intKeys_entL {es : List DictEntry} {l : List (Int × Str)} (h : EntL es l) : ∀ e ∈ es, ∃ k t, e.key = .int k t ∧ e.hash = hashInt k := by
  induction h with
  | nil => intro e he; simp at he
  | cons _ ih =>
    intro e he
    rcases List.mem_cons.1 he with rfl | he
    · exact ⟨_, _, rfl, rfl⟩
    · exact ih e he
/-- the table of the fold stands in the heap -/
structure B3At (w : World) (h : Heap) : Prop where
  is : ∃ f, h.MapOf (intKind pT w) 80 f ∧ ∀ k, match b3at k with
    | some x => ∃ u, f k = some (.str x u)
    | none => f k = none
  dict : ∃ o, h.get? 80 = some o ∧ o.dict = none
theorem B3At.ext {w : World} {h h' : Heap} (x : B3At w h) (k : ∀ b o, h.get? b = some o → h'.get? b = some o) : B3At w h' := by
  obtain ⟨⟨f, ⟨o, es, ep, ho, r⟩, hf⟩, o', ho', hd⟩ := x
  exact ⟨⟨f, ⟨o, es, ep, k _ _ ho, r⟩, hf⟩, o', k _ _ ho', hd⟩
theorem raw80 (g : Nat → Obj) (w : World) : (sT g w).heap.objs[80]? = some (g 80) := by kernel_rfl
theorem b3_at (g : Nat → Obj) (w : World) (hb : B3 (g 80)) : B3At w (sT g w).heap := by
  obtain ⟨es, n, hl, ho⟩ := hb
  have h80 : (sT g w).heap.get? 80 = some (dictOb es.toArray n) := by
    have := raw80 g w
    rw [ho] at this
    exact Heap.get?_some_iff.mpr ⟨this, rfl⟩
  refine ⟨⟨fun k => findBy Value.isInt es.toArray k, Heap.IntMap.mapOf ⟨_, es.toArray, n, h80, rfl, rfl, fun e he => intKeys_entL hl e (by simpa using he), fun _ => rfl⟩ (fun o h => by rw [h80] at h; cases h; exact ⟨rfl, rfl⟩), fun k => ?_⟩, _, h80, rfl⟩
  have := find_entL hl k
  unfold b3at findBy
  show match Option.map (fun x => x.snd) (List.find? (fun p => p.fst == k) b3tab) with
    | some x => ∃ u, Option.map (fun x => x.val) (Array.find? (fun e => Value.isInt k e.key) es.toArray) = some (Value.str x u)
    | none => Option.map (fun x => x.val) (Array.find? (fun e => Value.isInt k e.key) es.toArray) = none
  rw [List.find?_toArray]
  cases hf : (b3tab.find? fun p => p.1 == k) with
  | none => rw [hf] at this; exact this
  | some p => rw [hf] at this; exact this
theorem gl_b3 (g : Nat → Obj) (w : World) : mgT g w (Str.ofString "b3_exceptions") = some (.ref 80) := by unfold mgT; kernel_rfl
theorem at125 (g : Nat → Obj) (w : World) : (sT g w).heap.get? 125 = some (o125E w.params) := by kernel_rfl
theorem at124 (g : Nat → Obj) (w : World) : (sT g w).heap.get? 124 = some (o124E w.params) := by kernel_rfl
section
variable {w : World} {A : Around} {E : Value → Shared → Prop} {s : Shared} {h₀ : Heap} {L : Addr} {m : Str → Option Value}
theorem get_meth {pl : Sem Bool} {Q : Value × List Value → Shared → Prop} (X : Fr h₀ L s.heap m) (B : B3At w h₀)
    (h : Q (.builtin "dict.get", [.ref 80]) s) : wpAny (model pT w) A (getMethod (.ref 80) "get" pl) Q E s := by
  obtain ⟨⟨f, hm, hf⟩, hd⟩ := B.ext X.keep
  exact getMethod_builtin hm.typeIs F.plainAttrs_dict F.slot_dict_get F.type_dict_get (fun a e => by cases e; exact hd) h
theorem get_some {i : Int} {t : Tok} {x : Str} {Q : Value → Shared → Prop} (X : Fr h₀ L s.heap m) (B : B3At w h₀) (hx : b3at i = some x) (h : ∀ u, Q (.str x u) { s with toks := s.toks + 1 }) :
    wpAny (model pT w) A (call (.builtin "dict.get") [.ref 80, .int i t]) Q E s := by
  obtain ⟨⟨f, hm, hf⟩, hd⟩ := B.ext X.keep
  refine call_meetsIn F.slot_dict_get hm.typeIs F.entry_dict_get (F.args_dict_get_2 _ _) (meets_dict_get (intKind pT w) 80 (intKind_is pT w i t) (by decide)) ⟨f, hm, ?_⟩
  have := hf i
  rw [hx] at this
  obtain ⟨u, hu⟩ := this
  rw [hu]; exact h u
theorem get_none {i : Int} {t : Tok} {Q : Value → Shared → Prop} (X : Fr h₀ L s.heap m) (B : B3At w h₀) (hx : b3at i = none) (h : Q .none { s with toks := s.toks + 1 }) :
    wpAny (model pT w) A (call (.builtin "dict.get") [.ref 80, .int i t]) Q E s := by
  obtain ⟨⟨f, hm, hf⟩, hd⟩ := B.ext X.keep
  refine call_meetsIn F.slot_dict_get hm.typeIs F.entry_dict_get (F.args_dict_get_2 _ _) (meets_dict_get (intKind pT w) 80 (intKind_is pT w i t) (by decide)) ⟨f, hm, ?_⟩
  have := hf i
  rw [hx] at this
  rw [this]; exact h
end
end Mine

end
/-! ## Walk4b -/
section
open PySem PySem.W PySem.Builtin PySem.Builtin.Re PyProof.Rows
set_option maxRecDepth 100000
set_option linter.unusedVariables false
namespace Mine
theorem resetWalk4b : True := by
  w_top off
  exact trivial
local macro_rules | `(tactic| walk_at "eval Name") => `(tactic| ((with_reducible show wpAny _ _ (eval (Expr.Name _ _) (envOf _ _ _ _ _)) _ _ _); refine ld_global_at (by assumption) (Top.g (by assumption)) (by assumption) ?_))
local macro_rules | `(tactic| walk_at "eval Name") => `(tactic| ((with_reducible show wpAny _ _ (eval (Expr.Name _ _) (envOf _ _ _ _ _)) _ _ _); refine ld_builtin_at (by assumption) (Top.g (by assumption)) (by assumption) (Top.b (by assumption)) (by assumption) ?_))
local macro_rules | `(tactic| walk_at "call builtin:ord") => `(tactic| (refine ord_of_char ?_))
local macro_rules | `(tactic| walk_at "getMethod ref") => `(tactic| ((with_reducible show wpAny _ _ (getMethod (Value.ref _) _ _) _ _ _); refine get_meth (by assumption) (by assumption) ?_))
local macro_rules | `(tactic| walk_at "call builtin:dict.get") => `(tactic| ((with_reducible show wpAny _ _ (call (Value.builtin "dict.get") [Value.ref _, Value.int _ _]) _ _ _); first | (refine get_some (by assumption) (by assumption) (by assumption) ?_; intro _) | (refine get_none (by assumption) (by assumption) (by assumption) ?_)))
theorem lower_one {prog : Program} {w : World} {A : Around} {E : Value → Shared → Prop} {s : Shared} {c : Nat} {t : Tok} {Q : Value → Shared → Prop} (h : Q (.str (Txt.lower ⟨#[c]⟩) s.toks) { s with toks := s.toks + 1 }) : wpAny (model prog w) A (call (.builtin "str.lower") [.str ⟨#[c]⟩ t]) Q E s :=
  SCL.lower (by show 1 ≤ 5592405; decide) fun _ => h
local macro_rules | `(tactic| walk_at "call builtin:str.lower") => `(tactic| (refine lower_one ?_))
theorem map_call (g : Nat → Obj) (w : World) {A : Around} {E : Value → Shared → Prop} {s : Shared} {c : Nat} {t : Tok} {Q : Value → Shared → Prop}
    (S : Std g w s.heap) (B : B3At w s.heap) (hroom : A.depth < recursionLimit)
    (hq : ∀ u h' tk, (∀ b o, s.heap.get? b = some o → h'.get? b = some o) → Q (.str (foldS c) u) { s with heap := h', toks := tk }) :
    wpAny (model pT w) A (PySem.call (.ref 125) [.str ⟨#[c]⟩ t]) Q E s := by
  refine enter (binds := [(Str.ofString "code", .str ⟨#[c]⟩ t)]) S hroom (at125 g w) rfl ⟨124, _, _, _, rfl, at124 g w, rfl, rfl⟩ rfl (.of_eq (by rfl)) (by decide) (by simp; decide) ?_
  intro h₁ F
  have N : News s.heap s.heap.objs.size h₁ [] := News.nil
  have T := S.top
  have G1 := gl_b3 g w
  have G2 := no_ord g w
  have G3 := bi_ord g w
  show wpAny _ _ (execs (dB 12) (envOf (Str.ofString "map_table_b3") (dS 12) s.heap.objs.size 125 (.ref 124))) _ _ _
  conv in dB 12 => whnf
  conv in dS 12 => whnf
  clear S
  unfold foldS at hq
  cases hc : b3at c with
  | some x =>
    rw [hc] at hq
    repeat' walk1
    rename_i u h2 F2 N2
    exact hq u h2 _ F2.keep
  | none =>
    rw [hc] at hq
    repeat' walk1
    rename_i h2 F2 N2
    exact hq _ h2 _ F2.keep
end Mine

end
/-! ## Walk5 -/
section
open PySem PySem.W PySem.Builtin PySem.Builtin.Re PyProof.Rows
set_option maxRecDepth 100000
set_option maxHeartbeats 8000000
set_option linter.unusedVariables false
namespace Mine
theorem resetWalk5 : True := by
  w_top off
  exact trivial
local macro_rules | `(tactic| walk_at "no such key") => `(tactic| fail)
theorem at132 (g : Nat → Obj) (w : World) : (sT g w).heap.get? 132 = some (o132E w.params) := by kernel_rfl
theorem at131 (g : Nat → Obj) (w : World) : (sT g w).heap.get? 131 = some (o131E w.params) := by kernel_rfl
theorem no_chr (g : Nat → Obj) (w : World) : mgT g w (Str.ofString "chr") = none := by unfold mgT; kernel_rfl
theorem bi_chr (g : Nat → Obj) (w : World) : mbT g w (Str.ofString "chr") = some (.builtin "chr") := by unfold mbT; kernel_rfl
theorem no_list (g : Nat → Obj) (w : World) : mgT g w (Str.ofString "list") = none := by unfold mgT; kernel_rfl
theorem bi_list (g : Nat → Obj) (w : World) : mbT g w (Str.ofString "list") = some (.type "list") := by unfold mbT; kernel_rfl
theorem no_range (g : Nat → Obj) (w : World) : mgT g w (Str.ofString "range") = none := by unfold mgT; kernel_rfl
theorem bi_range (g : Nat → Obj) (w : World) : mbT g w (Str.ofString "range") = some (.type "range") := by unfold mbT; kernel_rfl
local macro_rules | `(tactic| walk_at "eval Name") => `(tactic| ((with_reducible show wpAny _ _ (eval (Expr.Name _ _) (envOf _ _ _ _ _)) _ _ _); refine ld_global_at (by assumption) (Top.g (by assumption)) (by assumption) ?_))
local macro_rules | `(tactic| walk_at "eval Name") => `(tactic| ((with_reducible show wpAny _ _ (eval (Expr.Name _ _) (envOf _ _ _ _ _)) _ _ _); refine ld_builtin_at (by assumption) (Top.g (by assumption)) (by assumption) (Top.b (by assumption)) (by assumption) ?_))
theorem item_strsA {prog : Program} {w : World} {A : Around} {E : Value → Shared → Prop} {s : Shared} {value slice : Expr} {a : Addr} {vs : List Value} {ys : List Str} {k : Int} {u : Tok} {Q : Value → Shared → Prop} (hl : s.heap.IsList a vs.toArray) (hv : StrsAre vs ys)
    (h0 : 0 ≤ k) (hk : k < ys.length) (hfit : k < 2 ^ 63) (h : ∀ y t', ys[k.toNat]? = some y → Q (.str y t') s)
    (hs : subscripted slice false (.ref a) (.int k u) = operate [.ref a, .int k u] (getItem (.ref a) (.int k u)) := by with_unfolding_all rfl) :
    wpAny (model prog w) A (subscriptTail value slice (.ref a) (.int k u)) Q E s := by
  obtain ⟨l, hvl, ht⟩ := strsAre_values hv
  subst hvl ht
  have hlt : k.toNat < l.length := by simp at hk; omega
  exact item_listR (x := .str l[k.toNat].1 l[k.toNat].2) hl h0 hfit (by simp [strValues, hlt]) (h _ _ (by simp [hlt])) hs
theorem getD_fits {L : List Int} (h : (L.all fun i => decide (0 ≤ i) && decide (i ≤ 1114111)) = true) (k : Nat) : 0 ≤ L.getD k 0 ∧ L.getD k 0 ≤ 1114111 := by
  rw [List.getD_eq_getElem?_getD]
  cases hk : L[k]? with
  | none => exact ⟨Int.le_refl _, by decide⟩
  | some i =>
    have := List.all_eq_true.1 h i (List.mem_of_getElem? hk)
    simpa using this
local macro_rules | `(tactic| walk_at "call builtin:chr") => `(tactic| (refine chr_of_range (getD_fits (by decide +kernel) _).1 (getD_fits (by decide +kernel) _).2 ?_))
local macro_rules | `(tactic| walk_at "binaryOp Add ref ref") => `(tactic| (refine add_lists_ints (by assumption) (by assumption) (News.isList (by assumption) (by first | exact .head _ | exact .tail _ (.head _) | exact .tail _ (.tail _ (.head _)))) (by assumption) (by repeat constructor) (IntsAre.ofCarried (by assumption)) ?_; intro _ _ _ _))
local macro_rules | `(tactic| walk_at "subscriptTail Constant str") => `(tactic| (refine item_str_fmod (by decide) (by decide +kernel) (by decide +kernel) ?_; intro _))
def tblS : List Str := [Str.ofString "(", Str.ofString ")", Str.ofString "\"", Str.ofString "\\", Str.ofString "\n", Str.ofString "\r", Str.ofString ".", Str.ofString "", Str.ofString "", Str.ofString "\"", Str.ofString "\\", Str.ofString "\\\n"]
def ptsI : List Int := 173 :: 847 :: 6150 :: 6155 :: 6156 :: 6157 :: 8203 :: 8204 :: 8205 :: 8288 :: 65279 :: rangeInts 65024 1 ((65040 : Int) - 65024).toNat
def pieceS (n : Int) : Str :=
  if n.fmod 12 = 7 then ⟨#[(ptsI.getD ((n.fdiv 12).fmod 27).toNat 0).toNat]⟩
  else if n.fmod 12 = 8 then Txt.item (Str.ofString "Qßﬃ℡㏇ẞͺ") ((n.fdiv 12).fmod 7)
  else (tblS[(n.fmod 12).toNat]?).getD ⟨#[]⟩
local macro_rules | `(tactic| walk_at "subscriptTail List") => `(tactic| (refine item_strsA (ys := tblS) (News.isList (by assumption) (.head _)) (by unfold tblS; repeat constructor) (Int.fmod_nonneg_of_pos _ (by decide)) (Int.fmod_lt_of_pos _ (by decide)) (Int.lt_trans (Int.fmod_lt_of_pos _ (by decide)) (by decide)) ?_; intro _ _ _))
theorem piece_call (g : Nat → Obj) (w : World) {A : Around} {E : Value → Shared → Prop} {s : Shared} {n : Int} {t : Tok} {Q : Value → Shared → Prop}
    (S : Std g w s.heap) (hroom : A.depth < recursionLimit) (hA : A.handled = none) (h0 : 0 ≤ n) (h1 : n < 1000000)
    (hq : ∀ u h' tk, (∀ b o, s.heap.get? b = some o → h'.get? b = some o) → Q (.str (pieceS n) u) { s with heap := h', toks := tk }) :
    wpAny (model pT w) A (PySem.call (.ref 132) [.int n t]) Q E s := by
  cases A
  dsimp only at hA hroom
  subst hA
  refine enter (binds := [(Str.ofString "cell", .int n t)]) S hroom (at132 g w) rfl ⟨131, _, _, _, rfl, at131 g w, rfl, rfl⟩ rfl (.of_eq (by rfl)) (by decide) (by simp; decide) ?_
  intro h₁ F
  have N : News s.heap s.heap.objs.size h₁ [] := News.nil
  have T := S.top
  have G1 := no_chr g w
  have G2 := bi_chr g w
  have G3 := no_list g w
  have G4 := bi_list g w
  have G5 := no_range g w
  have G6 := bi_range g w
  show wpAny _ _ (execs (dB 14) (envOf (Str.ofString "_law_piece") (dS 14) s.heap.objs.size 132 (.ref 131))) _ _ _
  conv in dB 14 => whnf
  conv in dS 14 => whnf
  clear S
  repeat' walk1
  · have e : pieceS n = ⟨#[(ptsI.getD ((n.fdiv 12).fmod 27).toNat 0).toNat]⟩ := by unfold pieceS; rw [if_pos (by assumption)]
    rw [e] at hq
    exact hq _ _ _ (Fr.keep (by assumption))
  · have e : pieceS n = Txt.item (Str.ofString "Qßﬃ℡㏇ẞͺ") ((n.fdiv 12).fmod 7) := by unfold pieceS; rw [if_neg (by assumption), if_pos (by assumption)]
    rw [e] at hq
    exact hq _ _ _ (Fr.keep (by assumption))
  · rename_i y t2 hy
    have e : pieceS n = y := by unfold pieceS; rw [if_neg (by assumption), if_neg (by assumption), hy]; rfl
    rw [e] at hq
    exact hq _ _ _ (Fr.keep (by assumption))
end Mine

end
/-! ## ForStr -/
section
open PySem PySem.W PySem.Builtin PySem.Builtin.Re PyProof.Rows
set_option maxRecDepth 100000
namespace Mine
/-- a loop over the signs of a text, with an invariant of one's own -/
theorem for_signs {prog : Program} {w : World} {A : Around} {E : Value → Shared → Prop} {s : Shared} {h₀ : Heap} {L a : Addr} {m : Str → Option Value} {name : Str} {scope : Scope} {cd : Value} {Q : Flow → Shared → Prop} {news : List (Addr × Obj)}
    {x sn : Str} {px ps pos : Pos} {body : List Stmt} {y : Str} {tk : Tok} (hh : A.handled = none) (F : Fr h₀ L s.heap m) (N : News h₀ L s.heap news) (hsv : m sn = some (.str y tk)) (hx : (envOf name scope L a cd).kindOf x = some .local)
    (hp : ((envOf name scope L a cd).scope.kind == .class || ((envOf name scope L a cd).scope.kind == .module && (envOf name scope L a cd).locals != (envOf name scope L a cd).globals)) = false)
    (J : Nat → (Str → Option Value) → List (Addr × Obj) → Prop) (h0 : J 0 m news)
    (step : ∀ i c u m₁ news₁ s₁ own wr, i < y.cps.size → y.cps[i]? = some c → J i m₁ news₁ → (∀ p ∈ news₁, p.1 ∉ wr) → wr = [s.heap.objs.size] → (∀ p ∈ own, p.1 = s.heap.objs.size) →
      Fr h₀ L s₁.heap (fun z => if z = x then some (.str ⟨#[c]⟩ u) else m₁ z) → News h₀ L s₁.heap (own ++ news₁) →
      wpAny (model prog w) A (execs body (envOf name scope L a cd)) (LoopStepU h₀ L wr own (J (i + 1)) s₁) E s₁)
    (hR : ∀ h' tk' m' news', Fr h₀ L h' m' → News h₀ L h' news' → J y.cps.size m' news' → Q .next { s with heap := h', toks := tk' })
    (hk : scope.kind = .function := by rfl) (hl : (envOf name scope L a cd).kindOf sn = some .local := by rfl) (hd : (sn == ("__debug__" : Str)) = false := by decide)
    (hE : PassesOwn (model prog w) A (envOf name scope L a cd) E := by passes_own) :
    wpAny (model prog w) A (exec (.For (.Name x px) (.Name sn ps) body [] pos) (envOf name scope L a cd)) Q E s := by
  refine For_invU h₀ hx hp (ld F hsv (wpAny_pyIter_str fun o St W hst => ?_) hk hl hd) (fun _ => rfl) hE
  have hLne : L ≠ s.heap.objs.size := Nat.ne_of_lt F.ns.lt
  refine ⟨s.heap.objs.size, [s.heap.objs.size], [s.heap.objs.size], y.cps.size, SignAt y, St, m, news, J, rfl, W A hh, ?_, ?_, ?_, hst, F.push _, ?_, h0, ?_, ?_⟩
  · simp; exact hLne
  · intro b hb
    rw [List.mem_singleton.1 hb]
    cases e : h₀.get? s.heap.objs.size with
    | none => rfl
    | some o' => exact absurd (Heap.lt_size (F.keep _ _ e)) (Nat.lt_irrefl _)
  · intro p hp hb
    exact News.apart N p hp (List.mem_singleton.1 hb)
  · exact N.pushKeep _
  · intro i v m₁ news₁ s₁ own hi hP hJ hoff hsub _ _ _ F₁ N₁
    obtain ⟨c, u, hc, rfl⟩ := hP
    exact step i c u m₁ news₁ s₁ own _ hi hc hJ hoff rfl (fun p hp => List.mem_singleton.1 (hsub p hp)) F₁ N₁
  · intro h' tk' m' news' F' N' _ hJ
    exact hR h' tk' m' news' F' N' hJ
end Mine

end
/-! ## Walk6 -/
section
open PySem PySem.W PySem.Builtin PySem.Builtin.Re PyProof.Rows
set_option maxRecDepth 100000
set_option maxHeartbeats 8000000
set_option linter.unusedVariables false
namespace Mine
theorem resetWalk6 : True := by
  w_top off
  exact trivial
theorem at146 (g : Nat → Obj) (w : World) : (sT g w).heap.get? 146 = some (o146E w.params) := by kernel_rfl
theorem at145 (g : Nat → Obj) (w : World) : (sT g w).heap.get? 145 = some (o145E w.params) := by kernel_rfl
theorem gl_in (g : Nat → Obj) (w : World) : mgT g w (Str.ofString "in_table_b1") = some (.ref 79) := by unfold mgT; kernel_rfl
theorem gl_map (g : Nat → Obj) (w : World) : mgT g w (Str.ofString "map_table_b3") = some (.ref 125) := by unfold mgT; kernel_rfl
local macro_rules | `(tactic| walk_at "eval Name") => `(tactic| ((with_reducible show wpAny _ _ (eval (Expr.Name _ _) (envOf _ _ _ _ _)) _ _ _); refine ld_global_at (by assumption) (Top.g (by assumption)) (by assumption) ?_))
theorem strs_len {vs : List Value} {ys : List Str} (h : StrsAre vs ys) : vs.length = ys.length := by
  induction h with
  | nil => rfl
  | cons z u _ ih => simp [ih]
theorem take_more {l : List Nat} {i c : Nat} (h : l[i]? = some c) : l.take (i + 1) = l.take i ++ [c] := by
  rw [List.take_add_one, h]; rfl
noncomputable def foldsOf (l : List Nat) : List Str := (l.filter (fun (c : Nat) => !inB1 c)).map foldS
theorem folds_in {l : List Nat} {i c : Nat} (h : l[i]? = some c) (hc : inB1 c = true) : foldsOf (l.take (i + 1)) = foldsOf (l.take i) := by
  unfold foldsOf; rw [take_more h, List.filter_append, List.map_append]; simp [hc]
theorem folds_out {l : List Nat} {i c : Nat} (h : l[i]? = some c) (hc : inB1 c = false) : foldsOf (l.take (i + 1)) = foldsOf (l.take i) ++ [foldS c] := by
  unfold foldsOf; rw [take_more h, List.filter_append, List.map_append]; simp [hc]
theorem folds_len (l : List Nat) : (foldsOf l).length ≤ l.length := by
  unfold foldsOf; rw [List.length_map]; exact List.length_filter_le _ _
noncomputable def prepS (x : Str) : Str := Txt.join (Str.ofString "") (foldsOf x.cps.toList)
theorem callF {w : World} {A : Around} {E : Value → Shared → Prop} {s : Shared} {h₀ : Heap} {env : Env} {pos : Pos} {f : Addr} {o : Obj} {fd : FuncData} {e : Expr} {rest : List Expr} {Q : Value → Shared → Prop} (ho : h₀.get? f = some o) (hdat : o.data = .func fd)
    (h : wpAny (model pT w) A (spliced (backTo pos (starEach (e :: rest) env))) (fun vs s₁ => (∀ b o, h₀.get? b = some o → s₁.heap.get? b = some o) ∧ wpAny (model pT w) A (call (.ref f) vs) Q E s₁) E s)
    (he : starEach (e :: rest) env = (false, eval e env) :: starEach rest env := by rfl) :
    wpAny (model pT w) A (callWith pos (.ref f) [] (backTo pos (starEach (e :: rest) env)) []) Q E s :=
  callWith_meth hdat ho h he
local macro_rules | `(tactic| walk_at "eval Name") => `(tactic| ((with_reducible show wpAny _ _ (eval (Expr.Name _ _) (envOf _ _ _ _ _)) _ _ _); refine ld (by assumption) (by assumption) ?_))
def keptJ (K : Addr) (x : Str) (i : Nat) (m : Str → Option Value) (news : List (Addr × Obj)) : Prop :=
  m (Str.ofString "kept") = some (.ref K) ∧ ∃ vs ys n, StrsAre vs ys ∧ news = [(K, { cls := .type "list", data := .seq vs.toArray n })] ∧ ys = foldsOf (x.cps.toList.take i)
local macro_rules | `(tactic| walk_at "callWith ref") => `(tactic| (refine callF (by assumption) (by rfl) ?_))
local macro_rules | `(tactic| walk_at "And") => `(tactic| (refine ⟨Fr.keep (by assumption), ?_⟩))
local macro_rules | `(tactic| walk_at "call ref") => `(tactic| (refine in_call _ _ (Std.ext (by assumption) (Fr.keep (by assumption))) (by assumption) ?_; intro h2 tk2 k2; have F2 := Fr.after (by assumption) k2; have N2 := News.keepsAll (by assumption) k2; clear k2))
local macro_rules | `(tactic| walk_at "call ref") => `(tactic| (refine map_call _ _ (Std.ext (by assumption) (Fr.keep (by assumption))) (B3At.ext (by assumption) (Fr.keep (by assumption))) (by assumption) ?_; intro u2 h2 tk2 k2; have F2 := Fr.after (by assumption) k2; have N2 := News.keepsAll (by assumption) k2; clear k2))
theorem app_meth {w : World} {A : Around} {E : Value → Shared → Prop} {s : Shared} {h₀ : Heap} {L K : Addr} {own : List (Addr × Obj)} {its : Array Value} {n : Nat} {pl : Sem Bool} {Q : Value × List Value → Shared → Prop}
    (N : News h₀ L s.heap (own ++ [(K, { cls := .type "list", data := .seq its n })])) (h : Q (.builtin "list.append", [.ref K]) s) :
    wpAny (model pT w) A (getMethod (.ref K) (Str.ofString "append") pl) Q E s := getMethod_append_N N (List.mem_append_right _ (.head _)) h
theorem app_call {w : World} {A : Around} {E : Value → Shared → Prop} {s : Shared} {h₀ : Heap} {L K : Addr} {m : Str → Option Value} {own : List (Addr × Obj)} {its : Array Value} {n : Nat} {x : Value} {Q : Value → Shared → Prop}
    (F : Fr h₀ L s.heap m) (N : News h₀ L s.heap (own ++ [(K, { cls := .type "list", data := .seq its n })])) (hK : ∀ p ∈ own, p.1 ≠ K) (hsz : its.size ≤ sizeLine)
    (h : ∀ h', Fr h₀ L h' m → News h₀ L h' (own ++ [(K, { cls := .type "list", data := .seq (its.push x) (n + 1) })]) → Q .none { s with heap := h' }) :
    wpAny (model pT w) A (call (.builtin "list.append") [.ref K, x]) Q E s := by
  have hm := N _ (List.mem_append_right _ (.head _))
  refine append_at (hsz := hsz) hm.1 fun h' hs ho' => h h' (F.change hs hm.2.1 hm.2.2) ?_
  intro p hp
  rcases List.mem_append.1 hp with hp | hp
  · have := N p (List.mem_append_left _ hp)
    exact ⟨(hs.2 _ (hK p hp)).trans this.1, this.2⟩
  · rw [List.mem_singleton] at hp
    subst hp
    exact ⟨ho', hm.2.1, hm.2.2⟩
local macro_rules | `(tactic| walk_at "getMethod ref") => `(tactic| (refine app_meth (by assumption) ?_))
local macro_rules | `(tactic| walk_at "call builtin:list.append") => `(tactic| (refine app_call (by assumption) (by assumption) (by assumption) (by assumption) ?_; intro _ _ _))
theorem prep_call (g : Nat → Obj) (w : World) {A : Around} {E : Value → Shared → Prop} {s : Shared} {x : Str} {t : Tok} {Q : Value → Shared → Prop}
    (S : Std g w s.heap) (B : B3At w s.heap) (hroom : A.depth + 1 < recursionLimit) (hA : A.handled = none) (hx : x.cps.size ≤ 65536) (hx2 : ((foldsOf x.cps.toList).map (·.length)).sum ≤ 16777216)
    (hq : ∀ u h' tk, (∀ b o, s.heap.get? b = some o → h'.get? b = some o) → Q (.str (prepS x) u) { s with heap := h', toks := tk }) :
    wpAny (model pT w) A (PySem.call (.ref 146) [.str x t]) Q E s := by
  cases A
  dsimp only at hA hroom
  subst hA
  refine enter (binds := [(Str.ofString "text", .str x t)]) S (Nat.lt_of_succ_lt hroom) (at146 g w) rfl ⟨145, _, _, _, rfl, at145 g w, rfl, rfl⟩ rfl (.of_eq (by rfl)) (by decide) (by simp; decide) ?_
  intro h₁ F
  have N : News s.heap s.heap.objs.size h₁ [] := News.nil
  have T := S.top
  have G1 := gl_in g w
  have G2 := gl_map g w
  have K79 := S.keep _ _ (at79 g w)
  have K125 := S.keep _ _ (at125 g w)
  show wpAny _ _ (execs (dB 16) (envOf (Str.ofString "_law_prepared") (dS 16) s.heap.objs.size 146 (.ref 145))) _ _ _
  conv in dB 16 => whnf
  conv in dS 16 => whnf
  iterate 7 walk1
  refine for_signs rfl (by assumption) (by assumption) rfl rfl rfl (keptJ h₁.objs.size x) ⟨rfl, [], [], _, .nil, rfl, rfl⟩ ?_ ?_
  · intro i c u m₁ news₁ s₁ own wr hi hc hJ hoff hwr hown F₁ N₁
    obtain ⟨hm, vs, ys, n, hvs, rfl, rfl⟩ := hJ
    have hms : (fun z => if z = Str.ofString "sign" then some (Value.str ⟨#[c]⟩ u) else m₁ z) (Str.ofString "sign") = some (.str ⟨#[c]⟩ u) := if_pos rfl
    have hmk : (fun z => if z = Str.ofString "sign" then some (Value.str ⟨#[c]⟩ u) else m₁ z) (Str.ofString "kept") = some (.ref h₁.objs.size) := (if_neg (by decide)).trans hm
    have hKo : ∀ p ∈ own, p.1 ≠ h₁.objs.size := fun p hp e => hoff _ (.head _) (by rw [hwr, ← hown p hp, e]; exact .head _)
    have hsz : vs.toArray.size ≤ sizeLine := by
      have e1 := strs_len hvs
      have e2 : vs.length ≤ x.cps.size := by
        rw [e1]
        refine Nat.le_trans (folds_len _) ?_
        rw [List.length_take, Array.length_toList]
        exact Nat.min_le_right _ _
      have e3 : 65536 ≤ sizeLine := by decide +kernel
      rw [List.size_toArray]
      exact Nat.le_trans e2 (Nat.le_trans hx e3)
    have hcl : x.cps.toList[i]? = some c := by rw [← hc]; simp
    generalize hM : (fun z => if z = Str.ofString "sign" then some (Value.str ⟨#[c]⟩ u) else m₁ z) = M at F₁ hms hmk
    clear hM
    repeat' walk1
    · rename_i h2 tk2 F2 N2 hb
      exact LoopStepU.intro F2 N2 hoff ⟨hmk, vs, _, n, hvs, rfl, (folds_in hcl hb).symm⟩
    · rename_i h2 tk2 F2 N2 hb u3 h3 tk3 F3 N3 h4 F4 N4
      refine LoopStepU.intro F4 N4 ?_ ⟨hmk, vs ++ [.str (foldS c) u3], _, n + 1, strs_push hvs _ _, by simp, (folds_out hcl hb).symm⟩
      intro p hp
      rw [List.mem_singleton] at hp
      subst hp
      exact hoff (h₁.objs.size, { cls := .type "list", data := .seq vs.toArray n }) (List.mem_singleton.2 rfl)
  · intro h' tk' m' news' F' N' hJ
    obtain ⟨hm, vs, ys, n, hvs, rfl, rfl⟩ := hJ
    repeat' walk1
    refine join_list (N'.isList (.head _)) hvs ?_ ?_
    · rw [List.take_of_length_le (by simp)]; show _ + _ * 0 ≤ _; omega
    intro t2 k2
    repeat' walk1
    rw [List.take_of_length_le (by simp)]
    exact hq _ _ _ F'.keep
end Mine

end
/-! ## ForRange -/
section
open PySem PySem.W PySem.Builtin PySem.Builtin.Re PyProof.Rows
set_option maxRecDepth 100000
namespace Mine
/-- a loop over a range, with an invariant of one's own -/
theorem loop_range {prog : Program} {w : World} {A : Around} {E : Value → Shared → Prop} {s : Shared} {h₀ : Heap} {L a r : Addr} {m : Str → Option Value} {name : Str} {scope : Scope} {cd : Value} {Q : Flow → Shared → Prop} {news : List (Addr × Obj)}
    {x : Str} {body : List Stmt} {a₀ b₀ c₀ : Int} {t₀ u₀ v₀ : Tok} {n : Nat} (hh : A.handled = none) (hr : IsRange s.heap r a₀ b₀ c₀ t₀ u₀ v₀) (hsmall : Builtin.Range.small a₀ b₀ c₀ = true) (hn : Builtin.Range.rangeSize a₀ b₀ c₀ = (n : Int))
    (F : Fr h₀ L s.heap m) (N : News h₀ L s.heap news)
    (J : Nat → (Str → Option Value) → List (Addr × Obj) → Prop) (h0 : J 0 m news)
    (step : ∀ i u m₁ news₁ s₁ own wr, i < n → J i m₁ news₁ → (∀ p ∈ news₁, p.1 ∉ wr) → wr = [s.heap.objs.size] → (∀ p ∈ own, p.1 = s.heap.objs.size) →
      Fr h₀ L s₁.heap (fun z => if z = x then some (.int (a₀ + (i : Nat) * c₀) u) else m₁ z) → News h₀ L s₁.heap (own ++ news₁) →
      wpAny (model prog w) A (execs body (envOf name scope L a cd)) (LoopStepU h₀ L wr own (J (i + 1)) s₁) E s₁)
    (hR : ∀ h' tk' m' news', Fr h₀ L h' m' → News h₀ L h' news' → J n m' news' → Q .next { s with heap := h', toks := tk' }) :
    wpAny (model prog w) A (pyIter (.ref r)) (fun it s₂ => LoopAtU prog w A h₀ (envOf name scope L a cd) x body Q E it s₂) E s := by
  refine wpAny_pyIter_range hr hsmall ?_
  have hLne : L ≠ s.heap.objs.size := Nat.ne_of_lt F.ns.lt
  refine ⟨s.heap.objs.size, [s.heap.objs.size], [s.heap.objs.size], n, _, _, m, news, J, rfl, Walks.range hh _ a₀ c₀ n, ?_, ?_, ?_, (by show IsRangeIter _ _ _ _ _; rw [hn]; simpa using Heap.get?_push_size _ rfl), F.push _, ?_, h0, ?_, ?_⟩
  · simp; exact hLne
  · intro b hb
    rw [List.mem_singleton.1 hb]
    cases e : h₀.get? s.heap.objs.size with
    | none => rfl
    | some o' => exact absurd (Heap.lt_size (F.keep _ _ e)) (Nat.lt_irrefl _)
  · intro p hp hb
    exact News.apart N p hp (List.mem_singleton.1 hb)
  · exact N.pushKeep _
  · intro i v m₁ news₁ s₁ own hi hP hJ hoff hsub _ _ _ F₁ N₁
    obtain ⟨u, rfl⟩ := hP
    exact step i u m₁ news₁ s₁ own _ hi hJ hoff rfl (fun p hp => List.mem_singleton.1 (hsub p hp)) F₁ N₁
  · intro h' tk' m' news' F' N' _ hJ
    exact hR h' tk' m' news' F' N' hJ
end Mine

end
/-! ## Plain1 -/
section
open PySem
set_option linter.unusedVariables false
namespace Mine
/-- what stands behind the shutting quotation mark -/
def shut (sent : Bool) : List Nat → Option (List Nat)
  | [] => none
  | c :: r => if c = 34 then some r else if c = 92 then (match r with
      | [] => none
      | d :: r' => if (sent || d != 10) = true then shut sent r' else none)
    else shut sent r
theorem shut_nil {sent : Bool} : shut sent [] = none := rfl
theorem shut_quote {sent : Bool} {r : List Nat} : shut sent (34 :: r) = some r := by rw [shut.eq_def]; exact if_pos rfl
theorem shut_other {sent : Bool} {c : Nat} {r : List Nat} (h : c ≠ 34) (h2 : c ≠ 92) : shut sent (c :: r) = shut sent r := by
  conv => lhs; rw [shut.eq_def]
  exact (if_neg h).trans (if_neg h2)
theorem shut_back0 {sent : Bool} : shut sent [92] = none := rfl
theorem shut_back {sent : Bool} {d : Nat} {r : List Nat} : shut sent (92 :: d :: r) = if (sent || d != 10) = true then shut sent r else none := by
  conv => lhs; rw [shut.eq_def]
  exact (if_neg (by decide)).trans (if_pos rfl)
theorem shut_suf {sent : Bool} : ∀ (n : Nat) (l r : List Nat), l.length ≤ n → shut sent l = some r → ∃ a, l = a ++ r ∧ a ≠ [] ∧ ∀ x, shut sent (a ++ x) = some x
  | 0, l, r, hn, h => by
    obtain rfl : l = [] := List.length_eq_zero_iff.1 (by omega)
    cases h
  | n + 1, [], r, hn, h => by cases h
  | n + 1, c :: l, r, hn, h => by
    by_cases h1 : c = 34
    · subst h1; rw [shut_quote] at h; cases h
      exact ⟨[34], rfl, by simp, fun x => shut_quote⟩
    by_cases h2 : c = 92
    · subst h2
      match l, hn, h with
      | [], _, h => rw [shut_back0] at h; cases h
      | d :: l', hn, h =>
        rw [shut_back] at h
        split at h
        · rename_i hd
          obtain ⟨a, h1, h2, h3⟩ := shut_suf n l' r (by simp at hn; omega) h
          exact ⟨92 :: d :: a, by simp [h1], by simp, fun x => by rw [List.cons_append, List.cons_append, shut_back, if_pos hd, h3]⟩
        · cases h
    · rw [shut_other h1 h2] at h
      obtain ⟨a, h3, h4, h5⟩ := shut_suf n l r (by simp at hn; omega) h
      exact ⟨c :: a, by simp [h3], by simp, fun x => by rw [List.cons_append, shut_other h1 h2, h5]⟩
theorem shut_len {sent : Bool} {l r : List Nat} (h : shut sent l = some r) : r.length < l.length := by
  obtain ⟨a, h1, h2, _⟩ := shut_suf l.length l r (Nat.le_refl _) h
  have : a.length ≠ 0 := fun e => h2 (List.length_eq_zero_iff.1 e)
  have := congrArg List.length h1
  rw [List.length_append] at this
  omega
theorem shut_mono {sent : Bool} : ∀ (n : Nat) (a b r : List Nat), a.length ≤ n → shut sent a = some r → shut sent (a ++ b) = some (r ++ b) := fun n a b r hn h => by
  obtain ⟨u, h1, h2, h3⟩ := shut_suf n a r hn h
  rw [h1, List.append_assoc, h3]
/-- induction along a reading -/
theorem rd_ind (sent : Bool) {P : List Nat → Prop} (nil : P []) (qs : ∀ r r', shut sent r = some r' → P r' → P (34 :: r)) (qn : ∀ r, shut sent r = none → P r → P (34 :: r)) (oth : ∀ c r, c ≠ 34 → P r → P (c :: r)) : ∀ (l : List Nat), P l := by
  suffices h : ∀ (n : Nat) (l : List Nat), l.length ≤ n → P l from fun l => h l.length l (Nat.le_refl _)
  intro n
  induction n with
  | zero => intro l hn; obtain rfl : l = [] := List.length_eq_zero_iff.1 (by omega); exact nil
  | succ n ih =>
    intro l hn
    cases l with
    | nil => exact nil
    | cons c r =>
      simp only [List.length_cons] at hn
      by_cases h : c = 34
      · subst h
        cases e : shut sent r with
        | none => exact qn r e (ih r (by omega))
        | some r' => exact qs r r' e (ih r' (by have := shut_len e; omega))
      · exact oth c r h (ih r (by omega))
def step1 (c : Nat) : Int := (if c = 40 then 1 else 0) - (if c = 41 then 1 else 0)
def dpN (sent : Bool) : Nat → List Nat → Int
  | 0, _ => 0
  | _ + 1, [] => 0
  | n + 1, c :: r => if c = 34 then (match shut sent r with
      | some r' => dpN sent n r'
      | none => dpN sent n r) else step1 c + dpN sent n r
/-- the depth that a text's reading comes to -/
def dp (sent : Bool) (l : List Nat) : Int := dpN sent l.length l
theorem dpN_eq (sent : Bool) : ∀ (n : Nat) (l : List Nat) (m : Nat), l.length ≤ n → l.length ≤ m → dpN sent n l = dpN sent m l
  | 0, l, m, hn, hm => by
    obtain rfl : l = [] := List.length_eq_zero_iff.1 (by omega)
    cases m <;> rfl
  | n + 1, [], m, hn, hm => by cases m <;> rfl
  | n + 1, c :: r, 0, hn, hm => by simp at hm
  | n + 1, c :: r, m + 1, hn, hm => by
    simp only [List.length_cons] at hn hm
    unfold dpN
    by_cases h : c = 34
    · rw [if_pos h, if_pos h]
      cases e : shut sent r with
      | none => exact dpN_eq sent n r m (by omega) (by omega)
      | some r' => have := shut_len e; exact dpN_eq sent n r' m (by omega) (by omega)
    · rw [if_neg h, if_neg h, dpN_eq sent n r m (by omega) (by omega)]
theorem dp_nil {sent : Bool} : dp sent [] = 0 := rfl
theorem dp_some {sent : Bool} {r r' : List Nat} (h : shut sent r = some r') : dp sent (34 :: r) = dp sent r' := by
  unfold dp
  rw [List.length_cons]
  conv => lhs; unfold dpN
  rw [if_pos rfl, h]
  have := shut_len h
  exact dpN_eq _ _ _ _ (by omega) (by omega)
theorem dp_none {sent : Bool} {r : List Nat} (h : shut sent r = none) : dp sent (34 :: r) = dp sent r := by
  unfold dp
  rw [List.length_cons]
  conv => lhs; unfold dpN
  rw [if_pos rfl, h]
theorem dp_other {sent : Bool} {c : Nat} {r : List Nat} (h : c ≠ 34) : dp sent (c :: r) = step1 c + dp sent r := by
  unfold dp
  rw [List.length_cons]
  conv => lhs; unfold dpN
  rw [if_neg h]
def bal (l : List Nat) : Int := (l.count 40 : Nat) - (l.count 41 : Nat)
theorem bal_nil : bal [] = 0 := rfl
theorem bal_cons (c : Nat) (l : List Nat) : bal (c :: l) = step1 c + bal l := by
  unfold bal step1
  rw [List.count_cons, List.count_cons]
  by_cases h : c = 40
  · subst h; simp; omega
  · by_cases h2 : c = 41
    · subst h2; simp; omega
    · simp [h, h2]
theorem bal_append (a b : List Nat) : bal (a ++ b) = bal a + bal b := by
  unfold bal; rw [List.count_append, List.count_append]; omega
/-! ### the pattern of a quoted run -/
theorem drop_cons {t : Array Nat} {s : Nat} (h : s < t.size) : t.toList.drop s = t.getD s 0 :: t.toList.drop (s + 1) := by
  rw [List.drop_eq_getElem_cons (by simpa using h)]
  congr 1
  simp [Array.getD, h]
theorem drop_none {t : Array Nat} {s : Nat} (h : t.size ≤ s) : t.toList.drop s = [] := List.drop_eq_nil_of_le (by simpa using h)
theorem tail0_spec (t : Array Nat) : ∀ n p, t.size - p ≤ n → tail0 t (loop0 t n p) = (shut false (t.toList.drop p)).map (fun r => t.size - r.length)
  | 0, p, hn => by
    have : ¬ p < t.size := by omega
    unfold loop0 tail0
    rw [drop_none (by omega)]
    simp [this, shut]
  | n + 1, p, hn => by
    by_cases hp : p < t.size
    · rw [drop_cons hp]
      unfold loop0 body0
      rw [if_pos hp]
      by_cases h1 : t.getD p 0 = 34
      · rw [h1, shut_quote]
        simp only [BEq.rfl, if_true]
        unfold tail0
        have h1' : (t.getD p 0 == 34) = true := by rw [h1]; rfl
        simp only [hp, h1', decide_true, Bool.and_self, if_true]
        simp; omega
      · have h1' : (t.getD p 0 == 34) = false := by simpa using h1
        simp only [h1', Bool.false_eq_true, if_false]
        by_cases h2 : t.getD p 0 = 92
        · have h2' : (t.getD p 0 == 92) = true := by rw [h2]; rfl
          simp only [h2', if_true]
          by_cases h3 : p + 1 < t.size
          · rw [h2, drop_cons h3, shut_back]
            by_cases h4 : t.getD (p + 1) 0 = 10
            · have h4' : (t.getD (p + 1) 0 != 10) = false := by simp [h4]
              simp only [h3, h4', decide_true, Bool.and_false, Bool.false_eq_true, if_false]
              unfold tail0
              rw [h1', Bool.and_false, if_neg Bool.false_ne_true]; rfl
            · have h4' : (t.getD (p + 1) 0 != 10) = true := by simpa using h4
              simp only [h3, h4', decide_true, Bool.and_self, if_true]
              exact tail0_spec t n (p + 2) (by omega)
          · rw [h2, drop_none (by omega), shut_back0]
            simp only [h3, decide_false, Bool.false_and, Bool.false_eq_true, if_false]
            unfold tail0
            rw [h1', Bool.and_false, if_neg Bool.false_ne_true]; rfl
        · have h2' : (t.getD p 0 == 92) = false := by simpa using h2
          simp only [h2', Bool.false_eq_true, if_false]
          rw [shut_other h1 h2]
          exact tail0_spec t n (p + 1) (by omega)
    · unfold loop0 body0
      rw [if_neg hp, drop_none (by omega)]
      unfold tail0
      simp [hp, shut]
theorem fit0_quote {t : Array Nat} {s : Nat} (hs : s < t.size) (h : t.getD s 0 = 34) : fit0 t s = (shut false (t.toList.drop (s + 1))).map (fun r => t.size - r.length) := by
  unfold fit0
  have h' : (t.getD s 0 == 34) = true := by rw [h]; rfl
  simp only [hs, h', decide_true, Bool.and_self, if_true]
  exact tail0_spec t _ _ (by omega)
theorem fit0_other {t : Array Nat} {s : Nat} (h : t.getD s 0 ≠ 34) : fit0 t s = none := by
  unfold fit0
  have h' : (t.getD s 0 == 34) = false := by simpa using h
  rw [h', Bool.and_false, if_neg Bool.false_ne_true]
theorem extract_cons {t : Array Nat} {s b : Nat} (h : s < b) (hb : b ≤ t.size) : (t.extract s b).toList = t.getD s 0 :: (t.extract (s + 1) b).toList := by
  simp only [Array.toList_extract, List.extract_eq_take_drop]
  rw [drop_cons (by omega)]
  obtain ⟨k, hk⟩ : ∃ k, b - s = k + 1 := ⟨b - s - 1, by omega⟩
  rw [hk, List.take_succ_cons, show b - (s + 1) = k by omega]
theorem next0_spec (t : Array Nat) : ∀ n s, t.size - s + 1 ≤ n → match nextFit (fit0 t) n s with
    | some (b, e) => s ≤ b ∧ b < e ∧ e ≤ t.size ∧ dp false (t.toList.drop s) = bal (t.extract s b).toList + dp false (t.toList.drop e)
    | none => dp false (t.toList.drop s) = bal (t.toList.drop s)
  | 0, s, hn => by omega
  | n + 1, s, hn => by
    by_cases hs : s < t.size
    · have ih := next0_spec t n (s + 1) (by omega)
      unfold nextFit
      rw [drop_cons hs]
      have hnext : fit0 t s = none → dp false (t.getD s 0 :: t.toList.drop (s + 1)) = step1 (t.getD s 0) + dp false (t.toList.drop (s + 1)) → match (match fit0 t s with | some e => some (s, e) | none => nextFit (fit0 t) n (s + 1)) with
          | some (b, e) => s ≤ b ∧ b < e ∧ e ≤ t.size ∧ dp false (t.getD s 0 :: t.toList.drop (s + 1)) = bal (t.extract s b).toList + dp false (t.toList.drop e)
          | none => dp false (t.getD s 0 :: t.toList.drop (s + 1)) = bal (t.getD s 0 :: t.toList.drop (s + 1)) := by
        intro hf hd
        rw [hf]
        dsimp only
        cases hx : nextFit (fit0 t) n (s + 1) with
        | none =>
          rw [hx] at ih
          dsimp only at ih ⊢
          rw [hd, bal_cons, ih]
        | some p =>
          obtain ⟨b, e⟩ := p
          rw [hx] at ih
          dsimp only at ih ⊢
          obtain ⟨h1, h2, h3, h4⟩ := ih
          refine ⟨by omega, h2, h3, ?_⟩
          rw [hd, extract_cons (by omega) (by omega), bal_cons, h4]; omega
      by_cases h1 : t.getD s 0 = 34
      · cases hsh : shut false (t.toList.drop (s + 1)) with
        | none =>
          refine hnext (by rw [fit0_quote hs h1, hsh]; rfl) ?_
          rw [h1, dp_none hsh]; simp [step1]
        | some r =>
          rw [fit0_quote hs h1, hsh, h1, dp_some hsh]
          dsimp only [Option.map]
          obtain ⟨a, ha, hne, _⟩ := shut_suf _ _ _ (Nat.le_refl _) hsh
          have hl := congrArg List.length ha
          have hlt := shut_len hsh
          simp only [List.length_drop, Array.length_toList, List.length_append] at hl hlt
          refine ⟨Nat.le_refl _, by omega, by omega, ?_⟩
          have e : t.toList.drop (t.size - r.length) = r := by
            have : t.size - r.length = (s + 1) + a.length := by omega
            rw [this, ← List.drop_drop, ha, List.drop_left]
          rw [e]
          simp [bal_nil, Array.toList_extract]
      · exact hnext (fit0_other h1) (dp_other h1)
    · unfold nextFit
      have hf : fit0 t s = none := by unfold fit0; simp [hs]
      rw [hf, drop_none (by omega)]
      dsimp only
      rw [nextFit_none (fun b hb => by unfold fit0; simp; intro h; omega)]
      rfl
theorem strip_spec (t : Array Nat) : ∀ n s, t.size - s + 1 ≤ n → bal (subOut (fit0 t) [] t n s) = dp false (t.toList.drop s)
  | 0, s, hn => by omega
  | n + 1, s, hn => by
    have h := next0_spec t (t.size - s + 1) s (Nat.le_refl _)
    unfold subOut
    cases hx : nextFit (fit0 t) (t.size - s + 1) s with
    | none =>
      rw [hx] at h
      dsimp only at h ⊢
      rw [h]
    | some p =>
      obtain ⟨b, e⟩ := p
      rw [hx] at h
      dsimp only at h ⊢
      obtain ⟨h1, h2, h3, h4⟩ := h
      rw [List.nil_append, bal_append, strip_spec t n e (by omega), h4]
end Mine

end
/-! ## Plain2 -/
section
open PySem
set_option linter.unusedVariables false
namespace Mine
/-! ### a text spelt out in other signs -/
inductive Exp (N : Nat → Prop) : List Nat → List Nat → Prop
  | nil : Exp N [] []
  | same (c : Nat) {l m : List Nat} : Exp N l m → Exp N (c :: l) (c :: m)
  | word {c d : Nat} {ws l m : List Nat} : N c → N d → (∀ x ∈ ws, N x) → Exp N l m → Exp N (c :: l) (d :: (ws ++ m))
def Plain (c : Nat) : Prop := c ≠ 34 ∧ c ≠ 92 ∧ c ≠ 40 ∧ c ≠ 41
theorem Exp.refl {N : Nat → Prop} : ∀ l, Exp N l l
  | [] => .nil
  | c :: l => .same c (Exp.refl l)
theorem step1_plain {c : Nat} (h : Plain c) : step1 c = 0 := by
  unfold step1; rw [if_neg h.2.2.1, if_neg h.2.2.2]; rfl
theorem shut_plain {sent : Bool} {m : List Nat} : ∀ ws, (∀ x ∈ ws, Plain x) → shut sent (ws ++ m) = shut sent m
  | [], _ => rfl
  | c :: ws, h => by
    have hc := h c (.head _)
    rw [List.cons_append, shut_other hc.1 hc.2.1]
    exact shut_plain ws fun x hx => h x (.tail _ hx)
theorem dp_plain {sent : Bool} {m : List Nat} : ∀ ws, (∀ x ∈ ws, Plain x) → dp sent (ws ++ m) = dp sent m
  | [], _ => rfl
  | c :: ws, h => by
    have hc := h c (.head _)
    rw [List.cons_append, dp_other hc.1, step1_plain hc, Int.zero_add]
    exact dp_plain ws fun x hx => h x (.tail _ hx)
theorem Exp.shut {N : Nat → Prop} {sent : Bool} (hN : ∀ c, N c → Plain c ∧ (sent = true ∨ c ≠ 10)) : ∀ (n : Nat) (l m : List Nat), l.length ≤ n → Exp N l m →
    (Mine.shut sent l = none ∧ Mine.shut sent m = none) ∨ ∃ r r', Mine.shut sent l = some r ∧ Mine.shut sent m = some r' ∧ Exp N r r'
  | 0, l, m, hn, h => by
    obtain rfl : l = [] := List.length_eq_zero_iff.1 (by omega)
    cases h
    exact .inl ⟨rfl, rfl⟩
  | n + 1, l, m, hn, h => by
    cases h with
    | nil => exact .inl ⟨rfl, rfl⟩
    | same c h =>
      rename_i l m
      simp only [List.length_cons] at hn
      by_cases h1 : c = 34
      · subst h1
        exact .inr ⟨l, m, shut_quote, shut_quote, h⟩
      by_cases h2 : c = 92
      · subst h2
        cases h with
        | nil => exact .inl ⟨rfl, rfl⟩
        | same d h =>
          rename_i l m
          simp only [List.length_cons] at hn
          rw [shut_back, shut_back]
          by_cases hd : (sent || d != 10) = true
          · rw [if_pos hd, if_pos hd]
            exact Exp.shut hN n l m (by omega) h
          · rw [if_neg hd, if_neg hd]
            exact .inl ⟨rfl, rfl⟩
        | word hc hd hw h =>
          rename_i c d ws l m
          simp only [List.length_cons] at hn
          have pass : ∀ x, N x → (sent || x != 10) = true := fun x hx => by
            rcases (hN x hx).2 with e | e
            · rw [e]; rfl
            · simp [e]
          rw [shut_back, shut_back, if_pos (pass _ hc), if_pos (pass _ hd), shut_plain ws fun x hx => (hN x (hw x hx)).1]
          exact Exp.shut hN n l m (by omega) h
      · rw [shut_other h1 h2, shut_other h1 h2]
        exact Exp.shut hN n l m (by omega) h
    | word hc hd hw h =>
      rename_i c d ws l m
      simp only [List.length_cons] at hn
      rw [shut_other (hN _ hc).1.1 (hN _ hc).1.2.1, shut_other (hN _ hd).1.1 (hN _ hd).1.2.1, shut_plain ws fun x hx => (hN x (hw x hx)).1]
      exact Exp.shut hN n l m (by omega) h
theorem Exp.dp {N : Nat → Prop} {sent : Bool} (hN : ∀ c, N c → Plain c ∧ (sent = true ∨ c ≠ 10)) : ∀ (n : Nat) (l m : List Nat), l.length ≤ n → Exp N l m → Mine.dp sent l = Mine.dp sent m
  | 0, l, m, hn, h => by
    obtain rfl : l = [] := List.length_eq_zero_iff.1 (by omega)
    cases h
    rfl
  | n + 1, l, m, hn, h => by
    cases h with
    | nil => rfl
    | same c h =>
      rename_i l m
      simp only [List.length_cons] at hn
      by_cases h1 : c = 34
      · subst h1
        rcases Exp.shut hN l.length l m (Nat.le_refl _) h with ⟨e1, e2⟩ | ⟨r, r', e1, e2, e⟩
        · rw [dp_none e1, dp_none e2]
          exact Exp.dp hN n l m (by omega) h
        · rw [dp_some e1, dp_some e2]
          exact Exp.dp hN n r r' (by have := shut_len e1; omega) e
      · rw [dp_other h1, dp_other h1, Exp.dp hN n l m (by omega) h]
    | word hc hd hw h =>
      rename_i c d ws l m
      simp only [List.length_cons] at hn
      rw [dp_other (hN _ hc).1.1, dp_other (hN _ hd).1.1, step1_plain (hN _ hc).1, step1_plain (hN _ hd).1, dp_plain ws fun x hx => (hN x (hw x hx)).1, Exp.dp hN n l m (by omega) h]
/-! ### sending -/
def cnvL : List Nat → List Nat
  | [] => []
  | c :: r => if c = 13 then (match r with
      | [] => [13, 10]
      | d :: r' => if d = 10 then 13 :: 10 :: cnvL r' else 13 :: 10 :: cnvL (d :: r'))
    else if c = 10 then 13 :: 10 :: cnvL r else c :: cnvL r
def dotsL : Bool → List Nat → List Nat
  | _, [] => []
  | b, c :: r => if b && c == 46 then 46 :: 46 :: dotsL false r else c :: dotsL (c == 10) r
def sendL (l : List Nat) : List Nat := dotsL true (cnvL l)
theorem plain10 : Plain 10 := by unfold Plain; decide
theorem plain13 : Plain 13 := by unfold Plain; decide
theorem plain46 : Plain 46 := by unfold Plain; decide
end Mine

end
/-! ## Plain3 -/
section
open PySem
set_option linter.unusedVariables false
namespace Mine
theorem next_as {fit : Nat → Option Nat} {rep : List Nat} {t : Array Nat} {f : Nat → List Nat} (H1 : ∀ s, s < t.size → fit s = none → f s = t.getD s 0 :: f (s + 1))
    (H2 : ∀ s e, fit s = some e → s < e ∧ e ≤ t.size ∧ f s = rep ++ f e) (H3 : ∀ s, t.size ≤ s → f s = []) : ∀ n s, t.size - s + 1 ≤ n → match nextFit fit n s with
    | some (b, e) => s ≤ b ∧ b < e ∧ e ≤ t.size ∧ f s = (t.extract s b).toList ++ (rep ++ f e)
    | none => f s = t.toList.drop s
  | 0, s, hn => by omega
  | n + 1, s, hn => by
    unfold nextFit
    cases hf : fit s with
    | some e =>
      obtain ⟨h1, h2, h3⟩ := H2 s e hf
      refine ⟨Nat.le_refl _, h1, h2, ?_⟩
      rw [h3]; simp [Array.toList_extract]
    | none =>
      by_cases hs : s < t.size
      · have ih := next_as H1 H2 H3 n (s + 1) (by omega)
        dsimp only
        cases hx : nextFit fit n (s + 1) with
        | none =>
          rw [hx] at ih
          dsimp only at ih ⊢
          rw [H1 s hs hf, ih, drop_cons hs]
        | some p =>
          obtain ⟨b, e⟩ := p
          rw [hx] at ih
          dsimp only at ih ⊢
          obtain ⟨h1, h2, h3, h4⟩ := ih
          refine ⟨by omega, h2, h3, ?_⟩
          rw [H1 s hs hf, h4, extract_cons (s := s) (b := b) (by omega) (by omega), List.cons_append]
      · dsimp only
        have hno : nextFit fit n (s + 1) = none := nextFit_none fun b hb => by
          cases hb' : fit b with
          | none => rfl
          | some e => have := H2 b e hb'; omega
        rw [hno]
        dsimp only
        rw [H3 s (by omega), drop_none (by omega)]
theorem sub_as {fit : Nat → Option Nat} {rep : List Nat} {t : Array Nat} {f : Nat → List Nat} (H1 : ∀ s, s < t.size → fit s = none → f s = t.getD s 0 :: f (s + 1))
    (H2 : ∀ s e, fit s = some e → s < e ∧ e ≤ t.size ∧ f s = rep ++ f e) (H3 : ∀ s, t.size ≤ s → f s = []) : ∀ n s, t.size - s + 1 ≤ n → subOut fit rep t n s = f s
  | 0, s, hn => by omega
  | n + 1, s, hn => by
    have h := next_as H1 H2 H3 (t.size - s + 1) s (Nat.le_refl _)
    unfold subOut
    cases hx : nextFit fit (t.size - s + 1) s with
    | none => rw [hx] at h; exact h.symm
    | some p =>
      obtain ⟨b, e⟩ := p
      rw [hx] at h
      dsimp only at h ⊢
      obtain ⟨h1, h2, h3, h4⟩ := h
      rw [sub_as H1 H2 H3 n e (by omega), h4]
theorem cnvL_crlf {r : List Nat} : cnvL (13 :: 10 :: r) = 13 :: 10 :: cnvL r := by
  conv => lhs; rw [cnvL.eq_def]
  exact (if_pos rfl).trans (if_pos rfl)
theorem cnvL_cr0 : cnvL [13] = [13, 10] := rfl
theorem cnvL_cr {d : Nat} {r : List Nat} (h : d ≠ 10) : cnvL (13 :: d :: r) = 13 :: 10 :: cnvL (d :: r) := by
  conv => lhs; rw [cnvL.eq_def]
  exact (if_pos rfl).trans (if_neg h)
theorem cnvL_lf {r : List Nat} : cnvL (10 :: r) = 13 :: 10 :: cnvL r := by
  conv => lhs; rw [cnvL.eq_def]
  exact (if_neg (by decide)).trans (if_pos rfl)
theorem cnvL_other {c : Nat} {r : List Nat} (h1 : c ≠ 13) (h2 : c ≠ 10) : cnvL (c :: r) = c :: cnvL r := by
  conv => lhs; rw [cnvL.eq_def]
  exact (if_neg h1).trans (if_neg h2)
theorem cnv_spec (t : Array Nat) : subOut (fit2 t) [13, 10] t (t.size + 1) 0 = cnvL t.toList := by
  refine sub_as (f := fun s => cnvL (t.toList.drop s)) ?_ ?_ ?_ (t.size + 1) 0 (by omega)
  · intro s hs hf
    rw [drop_cons hs]
    unfold fit2 at hf
    rw [if_pos hs] at hf
    by_cases h1 : t.getD s 0 = 13
    · rw [h1] at hf
      simp only [BEq.rfl, if_true] at hf
      split at hf <;> cases hf
    by_cases h2 : t.getD s 0 = 10
    · rw [h2] at hf
      simp at hf
    · exact cnvL_other h1 h2
  · intro s e hf
    obtain ⟨h1, h2⟩ := fit2_adv t s e hf
    refine ⟨h1, h2, ?_⟩
    have hs : s < t.size := by omega
    rw [drop_cons hs]
    unfold fit2 at hf
    rw [if_pos hs] at hf
    by_cases c1 : t.getD s 0 = 13
    · rw [c1] at hf ⊢
      simp only [BEq.rfl, if_true] at hf
      split at hf
      · rename_i hc
        cases hf
        simp only [Bool.and_eq_true, decide_eq_true_eq, beq_iff_eq] at hc
        rw [drop_cons hc.1, hc.2, cnvL_crlf]; rfl
      · rename_i hc
        cases hf
        by_cases h3 : s + 1 < t.size
        · rw [drop_cons h3, cnvL_cr]
          · rfl
          · intro e; apply hc; simp only [h3, e, BEq.rfl, decide_true, Bool.and_self]
        · rw [drop_none (by omega)]; rfl
    · have c1' : (t.getD s 0 == 13) = false := by simpa using c1
      rw [c1', if_neg Bool.false_ne_true] at hf
      by_cases hc : (t.getD s 0 == 10) = true
      · rw [if_pos hc] at hf
        injection hf with hf
        rw [eq_of_beq hc, cnvL_lf, ← hf]; rfl
      · rw [if_neg hc] at hf
        injection hf
  · intro s hs
    rw [drop_none hs]; rfl
def bolAt (t : Array Nat) (s : Nat) : Bool := s == 0 || t.getD (s - 1) 0 == 10
theorem dots_spec (t : Array Nat) : subOut (fit1 t) [46, 46] t (t.size + 1) 0 = dotsL true t.toList := by
  refine sub_as (f := fun s => dotsL (bolAt t s) (t.toList.drop s)) ?_ ?_ ?_ (t.size + 1) 0 (by omega)
  · intro s hs hf
    rw [drop_cons hs]
    unfold fit1 at hf
    have hb : (bolAt t s && t.getD s 0 == 46) = false := by
      unfold bolAt
      cases hc : ((s == 0 || t.getD (s - 1) 0 == 10) && t.getD s 0 == 46) with
      | false => rfl
      | true =>
        simp only [Bool.and_eq_true] at hc
        rw [if_pos (by simp only [hc.1, hc.2, hs, decide_true, Bool.and_self])] at hf
        cases hf
    conv => lhs; unfold dotsL
    rw [hb, if_neg Bool.false_ne_true]
    have : bolAt t (s + 1) = (t.getD s 0 == 10) := by unfold bolAt; simp
    rw [this]
  · intro s e hf
    obtain ⟨h1, h2⟩ := fit1_adv t s e hf
    refine ⟨h1, h2, ?_⟩
    have hs : s < t.size := by omega
    rw [drop_cons hs]
    unfold fit1 at hf
    by_cases hc : ((s == 0 || t.getD (s - 1) 0 == 10) && (decide (s < t.size) && t.getD s 0 == 46)) = true
    · rw [if_pos hc] at hf
      injection hf with hf
      subst hf
      simp only [Bool.and_eq_true] at hc
      have hb : (bolAt t s && t.getD s 0 == 46) = true := by unfold bolAt; rw [hc.1, hc.2.2]; rfl
      conv => lhs; unfold dotsL
      rw [hb, if_pos rfl]
      have : bolAt t (s + 1) = false := by
        have e := eq_of_beq hc.2.2
        unfold bolAt; rw [Nat.add_sub_cancel, e]; simp
      rw [this]; rfl
    · rw [if_neg hc] at hf
      injection hf
  · intro s hs
    rw [drop_none hs]
    cases bolAt t s <;> rfl
/-! ### what sending leaves -/
theorem exp_cnv {N : Nat → Prop} (h10 : N 10) (h13 : N 13) : ∀ (n : Nat) (l : List Nat), l.length ≤ n → Exp N l (cnvL l)
  | 0, l, hn => by
    obtain rfl : l = [] := List.length_eq_zero_iff.1 (by omega)
    exact .nil
  | n + 1, [], hn => .nil
  | n + 1, c :: r, hn => by
    simp only [List.length_cons] at hn
    by_cases h1 : c = 13
    · subst h1
      match r, hn with
      | [], _ => exact .word (d := 13) (ws := [10]) (m := []) h13 h13 (by simpa using h10) .nil
      | d :: r', hn =>
        simp only [List.length_cons] at hn
        by_cases h2 : d = 10
        · subst h2
          rw [cnvL_crlf]
          exact .same _ (.same _ (exp_cnv h10 h13 n r' (by omega)))
        · rw [cnvL_cr h2]
          exact .word (d := 13) (ws := [10]) h13 h13 (by simpa using h10) (exp_cnv h10 h13 n (d :: r') (by simp; omega))
    by_cases h2 : c = 10
    · subst h2
      rw [cnvL_lf]
      exact .word (d := 13) (ws := [10]) h10 h13 (by simpa using h10) (exp_cnv h10 h13 n r (by omega))
    · rw [cnvL_other h1 h2]
      exact .same _ (exp_cnv h10 h13 n r (by omega))
theorem exp_dots {N : Nat → Prop} (h46 : N 46) : ∀ (l : List Nat) (b : Bool), Exp N l (dotsL b l)
  | [], b => by cases b <;> exact .nil
  | c :: r, b => by
    unfold dotsL
    split
    · rename_i hc
      simp only [Bool.and_eq_true, beq_iff_eq] at hc
      rw [hc.2]
      exact .word (d := 46) (ws := [46]) h46 h46 (by simpa using h46) (exp_dots h46 r false)
    · exact .same _ (exp_dots h46 r _)
/-- each feed stands behind a return -/
def crOk : Bool → List Nat → Bool
  | _, [] => true
  | b, c :: r => (c != 10 || b) && crOk (c == 13) r
theorem crOk_true {b : Bool} : ∀ {l : List Nat}, crOk b l = true → crOk true l = true
  | [], _ => rfl
  | c :: r, h => by
    unfold crOk at h ⊢
    simp only [Bool.and_eq_true] at h ⊢
    exact ⟨by simp, h.2⟩
theorem crOk_any {b : Bool} {l : List Nat} (h : crOk false l = true) : crOk b l = true := by
  cases b
  · exact h
  · exact crOk_true h
theorem crOk_cnv : ∀ (n : Nat) (l : List Nat), l.length ≤ n → crOk false (cnvL l) = true
  | 0, l, hn => by
    obtain rfl : l = [] := List.length_eq_zero_iff.1 (by omega)
    rfl
  | n + 1, [], hn => rfl
  | n + 1, c :: r, hn => by
    simp only [List.length_cons] at hn
    by_cases h1 : c = 13
    · subst h1
      match r, hn with
      | [], _ => rfl
      | d :: r', hn =>
        simp only [List.length_cons] at hn
        by_cases h2 : d = 10
        · subst h2
          rw [cnvL_crlf]
          simp only [crOk]
          simpa using crOk_cnv n r' (by omega)
        · rw [cnvL_cr h2]
          simp only [crOk]
          simpa using crOk_cnv n (d :: r') (by simp; omega)
    by_cases h2 : c = 10
    · subst h2
      rw [cnvL_lf]
      simp only [crOk]
      simpa using crOk_cnv n r (by omega)
    · rw [cnvL_other h1 h2]
      have := crOk_cnv n r (by omega)
      have h3 : (c == 13) = false := by simpa using h1
      unfold crOk
      rw [h3, this]; simp [h2]
theorem crOk_dots : ∀ (l : List Nat) (b p : Bool), crOk p l = true → crOk p (dotsL b l) = true
  | [], b, p, h => by cases b <;> rfl
  | c :: r, b, p, h => by
    unfold crOk at h
    simp only [Bool.and_eq_true] at h
    unfold dotsL
    split
    · rename_i hc
      simp only [Bool.and_eq_true, beq_iff_eq] at hc
      rw [hc.2] at h
      have := crOk_dots r false false h.2
      simp [crOk, this]
    · have := crOk_dots r (c == 10) (c == 13) h.2
      unfold crOk
      rw [this, h.1]; rfl
theorem crOk_filter {f : Nat → Bool} (hf : f 13 = true) : ∀ (l : List Nat) (p : Bool), crOk p l = true → crOk p (l.filter f) = true
  | [], p, h => rfl
  | c :: r, p, h => by
    unfold crOk at h
    simp only [Bool.and_eq_true] at h
    have ih := crOk_filter hf r (c == 13) h.2
    by_cases hc : f c = true
    · rw [List.filter_cons_of_pos hc]
      unfold crOk
      rw [ih, h.1]; rfl
    · rw [List.filter_cons_of_neg hc]
      have h13 : (c == 13) = false := by
        cases e : (c == 13) with
        | false => rfl
        | true => rw [eq_of_beq e] at hc; exact absurd hf hc
      rw [h13] at ih
      exact crOk_any ih
theorem crOk_sh {p : Bool} : ∀ (n : Nat) (l : List Nat) (p : Bool), l.length ≤ n → crOk p l = true → shut false l = shut true l ∧ ∀ r, shut true l = some r → crOk false r = true
  | 0, l, p, hn, h => by
    obtain rfl : l = [] := List.length_eq_zero_iff.1 (by omega)
    exact ⟨rfl, fun r h => by cases h⟩
  | n + 1, [], p, hn, h => ⟨rfl, fun r h => by cases h⟩
  | n + 1, c :: l, p, hn, h => by
    simp only [List.length_cons] at hn
    unfold crOk at h
    simp only [Bool.and_eq_true] at h
    by_cases h1 : c = 34
    · subst h1
      rw [shut_quote, shut_quote]
      exact ⟨rfl, fun r e => by cases e; exact h.2⟩
    by_cases h2 : c = 92
    · subst h2
      match l, hn, h with
      | [], _, _ => exact ⟨rfl, fun r h => by cases h⟩
      | d :: l', hn, h =>
        have h' := h.2
        unfold crOk at h'
        simp only [Bool.and_eq_true] at h'
        have hd : d ≠ 10 := by
          intro e; subst e
          simp at h'
        simp only [List.length_cons] at hn
        rw [shut_back, shut_back, if_pos (by simp [hd]), if_pos (by simp [hd])]
        exact crOk_sh (p := p) n l' _ (by omega) h'.2
    · rw [shut_other h1 h2, shut_other h1 h2]
      exact crOk_sh (p := p) n l _ (by omega) h.2
theorem crOk_dp : ∀ (n : Nat) (l : List Nat) (p : Bool), l.length ≤ n → crOk p l = true → dp false l = dp true l
  | 0, l, p, hn, h => by
    obtain rfl : l = [] := List.length_eq_zero_iff.1 (by omega)
    rfl
  | n + 1, [], p, hn, h => rfl
  | n + 1, c :: l, p, hn, h => by
    simp only [List.length_cons] at hn
    unfold crOk at h
    simp only [Bool.and_eq_true] at h
    by_cases h1 : c = 34
    · subst h1
      obtain ⟨e1, e2⟩ := crOk_sh (p := p) l.length l _ (Nat.le_refl _) h.2
      cases e : shut true l with
      | none => rw [dp_none (e1.trans e), dp_none e]; exact crOk_dp n l _ (by omega) h.2
      | some r => rw [dp_some (e1.trans e), dp_some e]; exact crOk_dp n r _ (by have := shut_len e; omega) (e2 r e)
    · rw [dp_other h1, dp_other h1, crOk_dp n l _ (by omega) h.2]
theorem N1 : ∀ c, Plain c → Plain c ∧ (true = true ∨ c ≠ 10) := fun c h => ⟨h, .inl rfl⟩
theorem dp_cnv (l : List Nat) : dp true (cnvL l) = dp true l := ((exp_cnv plain10 plain13 _ l (Nat.le_refl _)).dp N1 _ _ _ (Nat.le_refl _)).symm
theorem dp_dots (b : Bool) (l : List Nat) : dp true (dotsL b l) = dp true l := ((exp_dots plain46 l b).dp N1 _ _ _ (Nat.le_refl _)).symm
theorem dp_sent (l : List Nat) : dp true (sendL l) = dp true l := (dp_dots _ _).trans (dp_cnv l)
theorem crOk_send (l : List Nat) : crOk false (sendL l) = true := crOk_dots _ _ _ (crOk_cnv _ l (Nat.le_refl _))
theorem dp_send (l : List Nat) : dp false (sendL l) = dp true l := (crOk_dp _ _ _ (Nat.le_refl _) (crOk_send l)).trans (dp_sent l)
end Mine

end
/-! ## Plain4 -/
section
open PySem
set_option linter.unusedVariables false
namespace Mine
/-- s is a rest of l at which the reading stands -/
inductive Outs (sent : Bool) : List Nat → List Nat → Prop
  | here (l : List Nat) : Outs sent l l
  | qs {r r' s : List Nat} : shut sent r = some r' → Outs sent r' s → Outs sent (34 :: r) s
  | qn {r s : List Nat} : shut sent r = none → Outs sent r s → Outs sent (34 :: r) s
  | oth {c : Nat} {r s : List Nat} : c ≠ 34 → Outs sent r s → Outs sent (c :: r) s
theorem Outs.trans {sent : Bool} {a b c : List Nat} (h : Outs sent a b) (h2 : Outs sent b c) : Outs sent a c := by
  induction h with
  | here l => exact h2
  | qs e _ ih => exact .qs e (ih h2)
  | qn e _ ih => exact .qn e (ih h2)
  | oth e _ ih => exact .oth e (ih h2)
theorem Outs.split {sent : Bool} {l s : List Nat} (h : Outs sent l s) : ∃ a, l = a ++ s ∧ dp sent l = dp sent a + dp sent s := by
  induction h with
  | here l => exact ⟨[], rfl, by rw [dp_nil, Int.zero_add]⟩
  | qs e h ih =>
    rename_i r r' s
    obtain ⟨a, h1, h2⟩ := ih
    obtain ⟨u, h3, _, h4⟩ := shut_suf _ _ _ (Nat.le_refl _) e
    refine ⟨34 :: (u ++ a), by rw [h3, h1]; simp, ?_⟩
    rw [dp_some e, dp_some (h4 a), h2]
  | qn e h ih =>
    rename_i r s
    obtain ⟨a, h1, h2⟩ := ih
    refine ⟨34 :: a, by rw [h1]; rfl, ?_⟩
    have : shut sent a = none := by
      cases e2 : shut sent a with
      | none => rfl
      | some q =>
        have := shut_mono _ _ s _ (Nat.le_refl _) e2
        rw [← h1, e] at this
        cases this
    rw [dp_none e, dp_none this, h2]
  | oth e h ih =>
    rename_i c r s
    obtain ⟨a, h1, h2⟩ := ih
    refine ⟨c :: a, by rw [h1]; rfl, ?_⟩
    rw [dp_other e, dp_other e, h2, Int.add_assoc]
/-- what the table holds at a place -/
def bh (sent : Bool) (l : List Nat) (i : Nat) : Int := match shut sent (l.drop i) with
  | some r => (l.length - r.length : Nat)
  | none => -1
theorem dropc {l : List Nat} {i c : Nat} (h : l[i]? = some c) : l.drop i = c :: l.drop (i + 1) := by
  obtain ⟨hi, rfl⟩ := List.getElem?_eq_some_iff.1 h
  exact List.drop_eq_getElem_cons hi
theorem bh_end {sent : Bool} {l : List Nat} {i : Nat} (h : l.length ≤ i) : bh sent l i = -1 := by
  unfold bh; rw [List.drop_eq_nil_of_le h]; rfl
theorem bh_quote {sent : Bool} {l : List Nat} {i : Nat} (h : l[i]? = some 34) : bh sent l i = (i : Int) + 1 := by
  have hi : i < l.length := (List.getElem?_eq_some_iff.1 h).1
  unfold bh; rw [dropc h, shut_quote]
  simp only [List.length_drop]
  omega
theorem bh_other {sent : Bool} {l : List Nat} {i c : Nat} (h : l[i]? = some c) (h1 : c ≠ 34) (h2 : c ≠ 92) : bh sent l i = bh sent l (i + 1) := by
  unfold bh; rw [dropc h, shut_other h1 h2]
theorem bh_back0 {sent : Bool} {l : List Nat} {i : Nat} (h : l[i]? = some 92) (h1 : l.length ≤ i + 1) : bh sent l i = -1 := by
  unfold bh; rw [dropc h, List.drop_eq_nil_of_le h1]; rfl
theorem bh_back {sent : Bool} {l : List Nat} {i d : Nat} (h : l[i]? = some 92) (h1 : l[i + 1]? = some d) : bh sent l i = if (sent || d != 10) = true then bh sent l (i + 2) else -1 := by
  unfold bh; rw [dropc h, dropc h1, shut_back]
  by_cases hd : (sent || d != 10) = true
  · rw [if_pos hd, if_pos hd]
  · rw [if_neg hd, if_neg hd]
/-- one step of the reading -/
theorem bh_pos {sent : Bool} {l : List Nat} {i : Nat} (h : 0 < bh sent l i) : ∃ r, shut sent (l.drop i) = some r ∧ bh sent l i = (l.length - r.length : Nat) ∧ l.drop (l.length - r.length) = r ∧ i < l.length - r.length ∧ l.length - r.length ≤ l.length := by
  unfold bh at h
  cases e : shut sent (l.drop i) with
  | none => rw [e] at h; dsimp only at h; omega
  | some r =>
    refine ⟨r, rfl, by unfold bh; rw [e], ?_, ?_, by omega⟩
    · obtain ⟨a, h1, h2, _⟩ := shut_suf _ _ _ (Nat.le_refl _) e
      have hl := congrArg List.length h1
      rw [List.length_drop, List.length_append] at hl
      have ha : a.length ≠ 0 := fun e => h2 (List.length_eq_zero_iff.1 e)
      have : l.length - r.length = i + a.length := by omega
      rw [this, ← List.drop_drop, h1, List.drop_left]
    · have := shut_len e
      rw [List.length_drop] at this
      omega
theorem bh_neg {sent : Bool} {l : List Nat} {i : Nat} (h : ¬ 0 < bh sent l i) : shut sent (l.drop i) = none := by
  unfold bh at h
  cases e : shut sent (l.drop i) with
  | none => rfl
  | some r =>
    exfalso; apply h
    rw [e]
    have := shut_len e
    rw [List.length_drop] at this
    dsimp only
    omega
end Mine

end
/-! ## Walk7 -/
section
open PySem PySem.W PySem.Builtin PySem.Builtin.Re PyProof.Rows
set_option maxRecDepth 100000
set_option maxHeartbeats 8000000
set_option linter.unusedVariables false
namespace Mine
theorem resetWalk7 : True := by
  w_top off
  exact trivial
theorem at139 (g : Nat → Obj) (w : World) : (sT g w).heap.get? 139 = some (o139E w.params) := by kernel_rfl
theorem at138 (g : Nat → Obj) (w : World) : (sT g w).heap.get? 138 = some (o138E w.params) := by kernel_rfl
theorem no_len (g : Nat → Obj) (w : World) : mgT g w (Str.ofString "len") = none := by unfold mgT; kernel_rfl
theorem bi_len (g : Nat → Obj) (w : World) : mbT g w (Str.ofString "len") = some (.builtin "len") := by unfold mbT; kernel_rfl
local macro_rules | `(tactic| walk_at "eval Name") => `(tactic| ((with_reducible show wpAny _ _ (eval (Expr.Name _ _) (envOf _ _ _ _ _)) _ _ _); refine ld_builtin_at (by assumption) (Top.g (by assumption)) (by assumption) (Top.b (by assumption)) (by assumption) ?_))
local macro_rules | `(tactic| walk_at "eval Name") => `(tactic| ((with_reducible show wpAny _ _ (eval (Expr.Name _ _) (envOf _ _ _ _ _)) _ _ _); refine ld (by assumption) (by assumption) ?_))
theorem fold_rep (v : Value) : ∀ (k : Nat) (a : Array Value), List.foldl (fun x1 x2 => x1 ++ x2) a (List.replicate k #[v]) = a ++ (List.replicate k v).toArray
  | 0, a => by simp
  | k + 1, a => by
    rw [List.replicate_succ, List.foldl_cons, fold_rep v k, List.replicate_succ]
    apply Array.ext'
    simp
theorem mul_one {prog : Program} {w : World} {A : Around} {E : Value → Shared → Prop} {s : Shared} {h₀ : Heap} {L : Addr} {m : Str → Option Value} {news : List (Addr × Obj)} {l : Addr} {v : Value} {k : Nat} {x : Int} {u : Tok} {Q : Value → Shared → Prop}
    (Fm : Fr h₀ L s.heap m) (N : News h₀ L s.heap ((l, { cls := .type "list", data := .seq #[v] k }) :: news)) (hlo : 0 ≤ x) (hhi : x ≤ 100000)
    (h : ∀ h', Fr h₀ L h' m → News h₀ L h' ((s.heap.objs.size, { cls := .type "list", data := .seq (List.replicate x.toNat v).toArray }) :: news) → Q (.ref s.heap.objs.size) { s with heap := h' }) :
    wpAny (model prog w) A (binaryOp .Mult (.ref l) (.int x u)) Q E s := by
  refine mul_list Fm N.tail' (N.get (.head _)) (by omega) (by omega) (by simp; omega) fun h' F' N' => h h' F' ?_
  have e : List.foldl (fun x1 x2 => x1 ++ x2) #[] (List.replicate (if (#[v] : Array Value).isEmpty = true then 0 else x.toNat) #[v]) = (List.replicate x.toNat v).toArray := by
    rw [if_neg (by simp), fold_rep]; simp
  rw [e] at N'
  exact N'
local macro_rules | `(tactic| walk_at "binaryOp Mult ref int") => `(tactic| ((with_reducible show wpAny _ _ (binaryOp Operator.Mult (Value.ref _) (Value.int _ _)) _ _ _); refine mul_one (by assumption) (by assumption) (by omega) (by omega) ?_; intro _ _ _))
noncomputable def st15 (i : Nat) : Stmt := (dB 15).getD i (.Pass ⟨0, 0, 0, 0⟩)
noncomputable abbrev env15 (L : Addr) : Env := envOf (Str.ofString "_law_read") (dS 15) L 139 (.ref 138)
/-- the table's numbers when the places from j on are set -/
def tab (b : Bool) (l : List Nat) (j : Nat) : List Int := (List.range (l.length + 2)).map fun p => if j ≤ p then bh b l p else -1
structure L15 (x : Str) (t : Tok) (b : Bool) (K : Addr) (m : Str → Option Value) : Prop where
  signs : m (Str.ofString "signs") = some (.str x t)
  sent : m (Str.ofString "sent") = some (.bool b)
  size : ∃ u, m (Str.ofString "size") = some (.int x.length u)
  behind : m (Str.ofString "behind") = some (.ref K)
def tabJ (x : Str) (t : Tok) (b : Bool) (K : Addr) (i : Nat) (m : Str → Option Value) (news : List (Addr × Obj)) : Prop :=
  L15 x t b K m ∧ ∃ o vs n, news = [(K, o)] ∧ o.cls = .type "list" ∧ o.data = .seq vs.toArray n ∧ IntsAre vs (tab b x.cps.toList (x.length - i))
theorem list_of {s : Shared} {h₀ : Heap} {L K : Addr} {own : List (Addr × Obj)} {o : Obj} {vs : List Value} {n : Nat} (N : News h₀ L s.heap (own ++ [(K, o)])) (hc : o.cls = .type "list") (hd : o.data = .seq vs.toArray n) : s.heap.IsList K vs.toArray :=
  ⟨o, N.get (List.mem_append_right _ (.head _)), hc, n, hd⟩
theorem ints_set {vs : List Value} {ks : List Int} (h : IntsAre vs ks) (i : Nat) (z : Int) (v : Tok) : IntsAre (vs.set i (.int z v)) (ks.set i z) := by
  induction h generalizing i with
  | nil => exact .nil
  | cons y t r ih => cases i with
    | zero => exact .cons _ _ r
    | succ i => exact .cons _ _ (ih i)
theorem set_call {w : World} {A : Around} {E : Value → Shared → Prop} {s : Shared} {h₀ : Heap} {L K : Addr} {m : Str → Option Value} {own : List (Addr × Obj)} {o : Obj} {vs : List Value} {ks : List Int} {n : Nat} {k z : Int} {u v : Tok} {Q : Unit → Shared → Prop}
    (F : Fr h₀ L s.heap m) (N : News h₀ L s.heap (own ++ [(K, o)])) (hK : ∀ p ∈ own, p.1 ≠ K) (hc : o.cls = .type "list") (hd : o.data = .seq vs.toArray n) (hi : IntsAre vs ks) (h0 : 0 ≤ k) (hk : k < ks.length) (hfit : k < 2 ^ 63)
    (h : ∀ h' o' vs' n', Fr h₀ L h' m → News h₀ L h' (own ++ [(K, o')]) → o'.cls = .type "list" → o'.data = .seq vs'.toArray n' → IntsAre vs' (ks.set k.toNat z) → Q () { s with heap := h' }) :
    wpAny (model pT w) A (setItem (.ref K) (.int k u) (.int z v)) Q E s := by
  refine wpAny_setItem_list (list_of N hc hd) h0 hfit (by rw [List.size_toArray, hi.length]; exact hk) fun h' hl hs => ?_
  obtain ⟨o', ho', hc', n', hd'⟩ := hl
  have hm := N _ (List.mem_append_right _ (.head _))
  refine h h' o' (vs.set k.toNat (.int z v)) n' (F.change hs hm.2.1 hm.2.2) ?_ hc' (by rw [hd']; simp) (ints_set hi _ _ _)
  intro p hp
  rcases List.mem_append.1 hp with hp | hp
  · have := N p (List.mem_append_left _ hp)
    exact ⟨(hs.2 _ (hK p hp)).trans this.1, this.2⟩
  · rw [List.mem_singleton] at hp
    subst hp
    exact ⟨ho', hm.2.1, hm.2.2⟩
theorem get_call {w : World} {A : Around} {E : Value → Shared → Prop} {s : Shared} {h₀ : Heap} {L K : Addr} {own : List (Addr × Obj)} {o : Obj} {vs : List Value} {ks : List Int} {n : Nat} {k : Int} {u : Tok} {value slice : Expr} {Q : Value → Shared → Prop}
    (N : News h₀ L s.heap (own ++ [(K, o)])) (hc : o.cls = .type "list") (hd : o.data = .seq vs.toArray n) (hi : IntsAre vs ks) (h0 : 0 ≤ k) (hk : k < ks.length) (hfit : k < 2 ^ 63)
    (h : ∀ t, Q (.int (ks.getD k.toNat 0) t) s)
    (hs : subscripted slice false (.ref K) (.int k u) = operate [.ref K, .int k u] (getItem (.ref K) (.int k u)) := by with_unfolding_all rfl) :
    wpAny (model pT w) A (subscriptTail value slice (.ref K) (.int k u)) Q E s :=
  item_list_intsR (list_of N hc hd) hi h0 hk hfit h hs
theorem tab_len {x : Str} {b : Bool} {j : Nat} : (tab b x.cps.toList j).length = x.length + 2 := by
  unfold tab; simp [Str.length]
local macro_rules | `(tactic| walk_at "setItem ref int int") => `(tactic| (refine set_call (by assumption) (by assumption) (by assumption) (by assumption) (by assumption) (by assumption) (by omega) (by rw [tab_len]; omega) (by omega) ?_; intro _ _ _ _ _ _ _ _ _))
local macro_rules | `(tactic| walk_at "subscriptTail Name BinOp ref int") => `(tactic| (refine get_call (by assumption) (by assumption) (by assumption) (by assumption) (by omega) (by rw [tab_len]; omega) (by omega) ?_; intro _))
theorem size_down (n : Nat) : Builtin.Range.rangeSize ((n : Int) - 1) (-1) (-1) = (n : Int) := by
  unfold Builtin.Range.rangeSize
  rw [if_neg (by decide), show (- -1 : Int) = 1 from rfl, Int.ediv_one]
  split <;> omega
theorem small_down {n : Nat} (h : n ≤ 65536) : Builtin.Range.small ((n : Int) - 1) (-1) (-1) = true := by
  unfold Builtin.Range.small
  rw [size_down]
  simp only [Builtin.Range.rangeFitsLong, Bool.and_eq_true, Bool.or_eq_true, decide_eq_true_eq, beq_iff_eq, show ¬ ((-1 : Int) > 0) by decide, if_false]
  omega
theorem tab_start {x : Str} {b : Bool} : tab b x.cps.toList (x.length - 0) = List.replicate (x.length + 2) (-1) := by
  have el : x.cps.toList.length = x.length := by simp [Str.length]
  unfold tab
  rw [el]
  apply List.ext_getElem
  · simp
  · intro i h1 h2
    simp only [List.getElem_map, List.getElem_range, List.getElem_replicate]
    split
    · exact bh_end (by omega)
    · rfl
theorem one_beq (c k : Nat) : ((⟨#[c]⟩ : Str) == ⟨#[k]⟩) = (c == k) := by
  rw [Bool.eq_iff_iff]
  simp
theorem item_beq {x : Str} {p c k : Nat} (h : x.cps.toList[p]? = some c) : (Txt.item x (p : Int) == ⟨#[k]⟩) = (c == k) := by
  rw [PyProof.Rows.item_meets (x := x) (i := (p : Int)) (n := c) (by omega) (by simpa using h), one_beq]
theorem item_bne {x : Str} {p c k : Nat} (h : x.cps.toList[p]? = some c) : (Txt.item x (p : Int) != ⟨#[k]⟩) = (c != k) := by
  show (!(Txt.item x (p : Int) == ⟨#[k]⟩)) = _
  rw [item_beq h]; rfl
theorem tab_set {b : Bool} {l : List Nat} {p : Nat} {z : Int} (h : p < l.length + 2) (hz : z = bh b l p) : (tab b l (p + 1)).set p z = tab b l p := by
  unfold tab
  apply List.ext_getElem
  · simp
  · intro i h1 h2
    simp only [List.getElem_set, List.getElem_map, List.getElem_range]
    by_cases e : p = i
    · subst e; rw [if_pos rfl, if_pos (Nat.le_refl _), hz]
    · rw [if_neg e]
      by_cases e2 : p ≤ i
      · rw [if_pos (by omega), if_pos e2]
      · rw [if_neg (by omega), if_neg e2]
theorem tab_same {b : Bool} {l : List Nat} {p : Nat} (hz : bh b l p = -1) : tab b l (p + 1) = tab b l p := by
  unfold tab
  apply List.map_congr_left
  intro i _
  by_cases e : p = i
  · subst e; rw [if_neg (by omega), if_pos (Nat.le_refl _), hz]
  · by_cases e2 : p ≤ i
    · rw [if_pos (by omega), if_pos e2]
    · rw [if_neg (by omega), if_neg e2]
theorem tab_get {b : Bool} {l : List Nat} {j q : Nat} (h : q < l.length + 2) (h2 : j ≤ q) : (tab b l j).getD q 0 = bh b l q := by
  unfold tab
  rw [List.getD_eq_getElem?_getD]
  simp [h, h2]
theorem read_loop1 (g : Nat → Obj) (w : World) {A : Around} {s : Shared} {h₀ : Heap} {L K : Addr} {m : Str → Option Value} {o : Obj} {vs : List Value} {n : Nat} {x : Str} {t : Tok} {b : Bool} {Q : Flow → Shared → Prop}
    (T : Top qV (looseW qV looseV) (ExcName.means (sT g w).heap) (mgT g w) (mbT g w) h₀) (hA : A.handled = none) (hx : x.length ≤ 65536) (F : Fr h₀ L s.heap m) (N : News h₀ L s.heap [(K, o)]) (M : L15 x t b K m)
    (hc : o.cls = .type "list") (hd : o.data = .seq vs.toArray n) (hi : IntsAre vs (List.replicate (x.length + 2) (-1)))
    (hq : ∀ h' tk' m' news', Fr h₀ L h' m' → News h₀ L h' news' → tabJ x t b K x.length m' news' → Q .next { s with heap := h', toks := tk' }) :
    wpAny (model pT w) A (exec (st15 2) (env15 L)) Q (fun _ _ => False) s := by
  cases A
  dsimp only at hA
  subst hA
  have G3 := no_range g w
  have G4 := bi_range g w
  obtain ⟨m1, m2, ⟨u3, m3⟩, m4⟩ := M
  unfold env15
  conv in st15 2 => whnf
  conv in dS 15 => whnf
  refine For_invU h₀ rfl rfl ?_
  iterate 18 walk1
  rename_i h1 t1 t2 t3 hr F1 N1 k1
  refine loop_range (a₀ := (x.length : Int) - 1) (b₀ := -1) (c₀ := -1) (n := x.length) rfl hr (small_down hx) (size_down x.length) F1 N1 (tabJ x t b K) ?_ ?_ ?_
  · exact ⟨⟨m1, m2, ⟨u3, m3⟩, m4⟩, o, vs, n, rfl, hc, hd, by rw [tab_start]; exact hi⟩
  · intro i u m₁ news₁ s₁ own wr hlt hJ hoff hwr hown F₁ N₁
    obtain ⟨⟨m1, m2, ⟨u3, m3⟩, m4⟩, o, vs, n, rfl, hc, hd, hi⟩ := hJ
    obtain ⟨p, hp⟩ : ∃ p : Nat, p = x.length - 1 - i := ⟨_, rfl⟩
    have ep : (x.length : Int) - 1 + (i : Nat) * -1 = (p : Int) := by omega
    rw [ep] at F₁
    have q1 : (fun z => if z = Str.ofString "place" then some (Value.int (p : Int) u) else m₁ z) (Str.ofString "place") = some (.int p u) := if_pos rfl
    have q2 : (fun z => if z = Str.ofString "place" then some (Value.int (p : Int) u) else m₁ z) (Str.ofString "signs") = some (.str x t) := (if_neg (by decide)).trans m1
    have q3 : (fun z => if z = Str.ofString "place" then some (Value.int (p : Int) u) else m₁ z) (Str.ofString "sent") = some (.bool b) := (if_neg (by decide)).trans m2
    have q4 : (fun z => if z = Str.ofString "place" then some (Value.int (p : Int) u) else m₁ z) (Str.ofString "size") = some (.int x.length u3) := (if_neg (by decide)).trans m3
    have q5 : (fun z => if z = Str.ofString "place" then some (Value.int (p : Int) u) else m₁ z) (Str.ofString "behind") = some (.ref K) := (if_neg (by decide)).trans m4
    have hKo : ∀ q ∈ own, q.1 ≠ K := fun q hq e => hoff (K, o) (List.mem_singleton.2 rfl) (by rw [hwr, ← hown q hq, e]; exact .head _)
    generalize hM : (fun z => if z = Str.ofString "place" then some (Value.int (p : Int) u) else m₁ z) = M at F₁ q1 q2 q3 q4 q5
    clear hM m1 m2 m3 m4
    have hps : p < x.length := by omega
    have el : x.cps.toList.length = x.length := by simp [Str.length]
    have e1 : x.length - i = p + 1 := by omega
    have e2 : x.length - (i + 1) = p := by omega
    rw [e1] at hi
    obtain ⟨c, hcp⟩ : ∃ c, x.cps.toList[p]? = some c := ⟨_, List.getElem?_eq_getElem (by rw [el]; exact hps)⟩
    have hq1 : (Txt.item x (p : Int) == Str.ofString "\"") = (c == 34) := item_beq hcp
    have hq2 : (Txt.item x (p : Int) != Str.ofString "\\") = (c != 92) := item_bne hcp
    have hfin : ∀ h' tk o' vs' n', Fr h₀ L h' M → News h₀ L h' (own ++ [(K, o')]) → o'.cls = .type "list" → o'.data = .seq vs'.toArray n' → IntsAre vs' (tab b x.cps.toList p) →
        LoopStepU h₀ L wr own (tabJ x t b K (i + 1)) s₁ .next { s₁ with heap := h', toks := tk } := fun h' tk o' vs' n' F' N' hc' hd' hi' =>
      LoopStepU.intro F' N' (fun q hq => by rw [List.mem_singleton] at hq; subst hq; exact hoff (K, o) (List.mem_singleton.2 rfl)) ⟨⟨q2, q3, ⟨u3, q4⟩, q5⟩, o', vs', n', rfl, hc', hd', by rw [e2]; exact hi'⟩
    repeat' walk1
    · have k1 : (c == 34) = true := hq1.symm.trans (by assumption)
      refine hfin _ _ _ _ _ (by assumption) (by assumption) (by assumption) (by assumption) ?_
      rw [← tab_set (z := (p : Int) + 1) (by omega) (by rw [bh_quote]; rw [hcp, eq_of_beq k1])]
      assumption
    · have k1 : (c == 34) = false := hq1.symm.trans (by assumption)
      have k2 : (c != 92) = true := hq2.symm.trans (by assumption)
      refine hfin _ _ _ _ _ (by assumption) (by assumption) (by assumption) (by assumption) ?_
      rw [← tab_set (z := (tab b x.cps.toList (p + 1)).getD (p + 1) 0) (by omega) (by rw [tab_get (by omega) (Nat.le_refl _), bh_other hcp (by simpa using k1) (by simpa using k2)])]
      assumption
    · have k1 : (c == 34) = false := hq1.symm.trans (by assumption)
      have k2 : (c != 92) = false := hq2.symm.trans (by assumption)
      have k3 : b = true := by assumption
      have k4 : p + 1 < x.length := by omega
      have k5 : c = 92 := by simpa using k2
      obtain ⟨d, hdp⟩ : ∃ d, x.cps.toList[p + 1]? = some d := ⟨_, List.getElem?_eq_getElem (by rw [el]; exact k4)⟩
      refine hfin _ _ _ _ _ (by assumption) (by assumption) (by assumption) (by assumption) ?_
      rw [← tab_set (z := (tab b x.cps.toList (p + 1)).getD (p + 2) 0) (by omega) (by rw [tab_get (by omega) (by omega), bh_back (by rw [hcp, k5]) hdp, if_pos (by rw [k3]; rfl)])]
      assumption
    · have k1 : (c == 34) = false := hq1.symm.trans (by assumption)
      have k2 : (c != 92) = false := hq2.symm.trans (by assumption)
      have k4 : p + 1 < x.length := by omega
      have k5 : c = 92 := by simpa using k2
      obtain ⟨d, hdp⟩ : ∃ d, x.cps.toList[p + 1]? = some d := ⟨_, List.getElem?_eq_getElem (by rw [el]; exact k4)⟩
      have k6 : (d != 10) = true := (item_bne (k := 10) hdp).symm.trans (by assumption)
      refine hfin _ _ _ _ _ (by assumption) (by assumption) (by assumption) (by assumption) ?_
      rw [← tab_set (z := (tab b x.cps.toList (p + 1)).getD (p + 2) 0) (by omega) (by rw [tab_get (by omega) (by omega), bh_back (by rw [hcp, k5]) hdp, if_pos (by rw [k6, Bool.or_true])])]
      assumption
    · have k2 : (c != 92) = false := hq2.symm.trans (by assumption)
      have k3 : b = false := by assumption
      have k4 : p + 1 < x.length := by omega
      have k5 : c = 92 := by simpa using k2
      obtain ⟨d, hdp⟩ : ∃ d, x.cps.toList[p + 1]? = some d := ⟨_, List.getElem?_eq_getElem (by rw [el]; exact k4)⟩
      have k6 : (d != 10) = false := (item_bne (k := 10) hdp).symm.trans (by assumption)
      refine hfin _ _ _ _ _ F₁ N₁ hc hd ?_
      rw [← tab_same (by rw [bh_back (by rw [hcp, k5]) hdp, if_neg (by rw [k6, k3]; decide)])]
      exact hi
    · have k2 : (c != 92) = false := hq2.symm.trans (by assumption)
      have k5 : c = 92 := by simpa using k2
      refine hfin _ _ _ _ _ F₁ N₁ hc hd ?_
      rw [← tab_same (by rw [bh_back0 (by rw [hcp, k5]) (by omega)])]
      exact hi
  · exact fun h' tk' m' news' F' N' hJ => hq h' tk' m' news' F' N' hJ
end Mine

end
/-! ## Walk7b -/
section
open PySem PySem.W PySem.Builtin PySem.Builtin.Re PyProof.Rows
set_option maxRecDepth 100000
set_option maxHeartbeats 8000000
set_option linter.unusedVariables false
namespace Mine
theorem resetWalk7b : True := by
  w_top off
  exact trivial
local macro_rules | `(tactic| walk_at "eval Name") => `(tactic| ((with_reducible show wpAny _ _ (eval (Expr.Name _ _) (envOf _ _ _ _ _)) _ _ _); refine ld (by assumption) (by assumption) ?_))
theorem get_call2 {w : World} {A : Around} {E : Value → Shared → Prop} {s : Shared} {h₀ : Heap} {L K : Addr} {q : Addr × Obj} {o : Obj} {vs : List Value} {ks : List Int} {n : Nat} {k : Int} {u : Tok} {value slice : Expr} {Q : Value → Shared → Prop}
    (N : News h₀ L s.heap [q, (K, o)]) (hc : o.cls = .type "list") (hd : o.data = .seq vs.toArray n) (hi : IntsAre vs ks) (h0 : 0 ≤ k) (hk : k < ks.length) (hfit : k < 2 ^ 63)
    (h : ∀ t, Q (.int (ks.getD k.toNat 0) t) s)
    (hs : subscripted slice false (.ref K) (.int k u) = operate [.ref K, .int k u] (getItem (.ref K) (.int k u)) := by with_unfolding_all rfl) :
    wpAny (model pT w) A (subscriptTail value slice (.ref K) (.int k u)) Q E s :=
  get_call (own := [q]) N hc hd hi h0 hk hfit h hs
local macro_rules | `(tactic| walk_at "loadName") => `(tactic| first | (refine ldn (by assumption) (by assumption) ?_) | (refine ldn (by assumption) ((if_neg (by decide)).trans (by assumption)) ?_))
local macro_rules | `(tactic| walk_at "eval Name") => `(tactic| ((with_reducible show wpAny _ _ (eval (Expr.Name _ _) (envOf _ _ _ _ _)) _ _ _); first | (refine ld (by assumption) (by assumption) ?_) | (refine ld (by assumption) ((if_neg (by decide)).trans (by assumption)) ?_)))
/-- what stands at each turn of the reading -/
def readJ (x : Str) (t : Tok) (b : Bool) (K O : Addr) (n : Nat) (m : Str → Option Value) (news : List (Addr × Obj)) : Prop :=
  L15 x t b K m ∧ m (Str.ofString "outside") = some (.ref O) ∧ ∃ (p : Nat) (dd : Int) (o : Obj) (vs ovs : List Value) (outs : List Int) (k k2 : Nat) (u1 u2 : Tok), m (Str.ofString "place") = some (.int p u1) ∧ m (Str.ofString "depth") = some (.int dd u2) ∧
    news = [(O, { cls := .type "list", data := .seq ovs.toArray k }), (K, o)] ∧ o.cls = .type "list" ∧ o.data = .seq vs.toArray k2 ∧ IntsAre vs (tab b x.cps.toList 0) ∧ IntsAre ovs outs ∧
    p ≤ x.length ∧ n = x.length - p ∧ outs.length ≤ p ∧ dd + dp b (x.cps.toList.drop p) = dp b x.cps.toList ∧ Outs b x.cps.toList (x.cps.toList.drop p) ∧ (∀ z ∈ outs, ∃ r, Outs b x.cps.toList r ∧ z = ((x.length - r.length : Nat) : Int))
local macro_rules | `(tactic| walk_at "subscriptTail Name BinOp ref int") => `(tactic| (refine get_call2 (by assumption) (by assumption) (by assumption) (by assumption) (by omega) (by rw [tab_len]; omega) (by omega) ?_; intro _))
local macro_rules | `(tactic| walk_at "getMethod ref") => `(tactic| (refine getMethod_append_N (by assumption) (.head _) ?_))
local macro_rules | `(tactic| walk_at "call builtin:list.append") => `(tactic| (refine append_head (hsz := by assumption) (by assumption) (by assumption) (by assumption) ?_; intro _ _ _))
theorem ints_push {vs : List Value} {ks : List Int} {z : Int} {u : Tok} (h : IntsAre vs ks) : IntsAre (vs ++ [.int z u]) (ks ++ [z]) := by
  induction h with
  | nil => exact .cons _ _ .nil
  | cons y t r ih => exact .cons _ _ ih
theorem b2i_step (c : Nat) : b2i (c == 40) - b2i (c == 41) = step1 c := by
  unfold step1
  by_cases h : c = 40
  · subst h; rfl
  · by_cases h2 : c = 41
    · subst h2; rfl
    · rw [if_neg h, if_neg h2, show (c == 40) = false by simpa using h, show (c == 41) = false by simpa using h2]; rfl
theorem read_loop2 (g : Nat → Obj) (w : World) {A : Around} {s : Shared} {h₀ : Heap} {L K O : Addr} {m : Str → Option Value} {news : List (Addr × Obj)} {x : Str} {t : Tok} {b : Bool} {Q : Flow → Shared → Prop}
    (hA : A.handled = none) (hx : x.length ≤ 65536) (F : Fr h₀ L s.heap m) (N : News h₀ L s.heap news) (hKO : K ≠ O) (h0 : readJ x t b K O x.length m news)
    (hq : ∀ h' tk' m' news', Fr h₀ L h' m' → News h₀ L h' news' → readJ x t b K O 0 m' news' → Q .next { s with heap := h', toks := tk' }) :
    wpAny (model pT w) A (exec (st15 6) (env15 L)) Q (fun _ _ => False) s := by
  cases A
  dsimp only at hA
  subst hA
  unfold env15
  conv in st15 6 => whnf
  conv in dS 15 => whnf
  refine While_inv (readJ x t b K O) F N h0 ?_
  intro n m₁ news₁ h₁ tk₁ F₁ N₁ hJ
  obtain ⟨⟨m1, m2, ⟨u3, m3⟩, m4⟩, m5, p, dd, o, vs, ovs, outs, k, k2, u1, u2, m6, m7, rfl, hc, hd, hi, hoi, hp, hn, hol, hdd, hO, hall⟩ := hJ
  have hap : ∀ q ∈ [(K, o)], q.1 ≠ O := fun q hq => by rw [List.mem_singleton] at hq; subst hq; exact hKO
  have hsz : ovs.toArray.size ≤ sizeLine := by
    have e3 : 65536 ≤ sizeLine := by decide +kernel
    rw [List.size_toArray, hoi.length]
    omega
  have el : x.cps.toList.length = x.length := by simp [Str.length]
  have hnext : ∀ (p' : Nat) (dd' : Int) (M' : Str → Option Value) (h' : Heap) (tk : Nat) (u1' u2' : Tok), Fr h₀ L h' M' →
      News h₀ L h' [(O, { cls := .type "list", data := .seq (ovs.toArray.push (.int p u1)) (k + 1) }), (K, o)] → L15 x t b K M' → M' (Str.ofString "outside") = some (.ref O) → M' (Str.ofString "place") = some (.int p' u1') → M' (Str.ofString "depth") = some (.int dd' u2') →
      p < p' → p' ≤ x.length → dd' + dp b (x.cps.toList.drop p') = dp b x.cps.toList → Outs b x.cps.toList (x.cps.toList.drop p') →
      WhileStep h₀ L s (readJ x t b K O) n .next { s with heap := h', toks := tk } := by
    intro p' dd' M' h' tk u1' u2' F' N' e1 e2 e3 e4 e5 e6 e7 e8
    have ea : ovs.toArray.push (Value.int (p : Int) u1) = (ovs ++ [Value.int (p : Int) u1]).toArray := by simp
    rw [ea] at N'
    refine WhileStep.intro (n' := x.length - p') F' N' (by omega) ⟨e1, e2, p', dd', o, vs, _, outs ++ [(p : Int)], k + 1, k2, u1', u2', e3, e4, rfl, hc, hd, hi, ints_push hoi, e6, rfl, by simp; omega, e7, e8, ?_⟩
    intro z hz
    rcases List.mem_append.1 hz with hz | hz
    · exact hall z hz
    · rw [List.mem_singleton] at hz
      refine ⟨_, hO, ?_⟩
      rw [hz, List.length_drop, el]
      omega
  repeat' walk1
  · have hps : p < x.length := by omega
    obtain ⟨c, hcp⟩ : ∃ c, x.cps.toList[p]? = some c := ⟨_, List.getElem?_eq_getElem (by rw [el]; exact hps)⟩
    have k1 : (c == 34) = true := (item_beq (k := 34) hcp).symm.trans (by assumption)
    rename_i pos t9 h9 F9 N9
    have eg : (tab b x.cps.toList 0).getD ((p : Int) + 1).toNat 0 = bh b x.cps.toList (p + 1) := tab_get (by omega) (Nat.zero_le _)
    rw [eg] at pos F9
    obtain ⟨r, b1, b2, b3, b4, b5⟩ := bh_pos pos
    rw [el] at b2 b3 b4 b5
    rw [b2] at F9
    have ed : x.cps.toList.drop p = 34 :: x.cps.toList.drop (p + 1) := by rw [dropc hcp, eq_of_beq k1]
    refine hnext (x.length - r.length) dd _ _ _ t9 u2 F9 N9 ⟨(if_neg (by decide)).trans m1, (if_neg (by decide)).trans m2, ⟨u3, (if_neg (by decide)).trans m3⟩, (if_neg (by decide)).trans m4⟩ ((if_neg (by decide)).trans m5) (if_pos rfl) ((if_neg (by decide)).trans m7) (by omega) b5 ?_ ?_
    · rw [b3, ← dp_some b1, ← ed]; exact hdd
    · rw [b3]; refine hO.trans ?_; rw [ed]; exact .qs b1 (.here _)
  · have hps : p < x.length := by omega
    obtain ⟨c, hcp⟩ : ∃ c, x.cps.toList[p]? = some c := ⟨_, List.getElem?_eq_getElem (by rw [el]; exact hps)⟩
    have k1 : (c == 34) = true := (item_beq (k := 34) hcp).symm.trans (by assumption)
    have i40 : (Txt.item x (p : Int) == Str.ofString "(") = (c == 40) := item_beq hcp
    have i41 : (Txt.item x (p : Int) == Str.ofString ")") = (c == 41) := item_beq hcp
    have np : ¬ 0 < (tab b x.cps.toList 0).getD ((p : Int) + 1).toNat 0 := by assumption
    rename_i F9 N9
    have eg : (tab b x.cps.toList 0).getD ((p : Int) + 1).toNat 0 = bh b x.cps.toList (p + 1) := tab_get (by omega) (Nat.zero_le _)
    rw [eg] at np
    have b1 := bh_neg np
    rw [i40, i41, b2i_step, eq_of_beq k1] at F9
    have ed : x.cps.toList.drop p = 34 :: x.cps.toList.drop (p + 1) := by rw [dropc hcp, eq_of_beq k1]
    refine hnext (p + 1) (dd + step1 34) _ _ _ _ _ F9 N9 ⟨(if_neg (by decide)).trans ((if_neg (by decide)).trans m1), (if_neg (by decide)).trans ((if_neg (by decide)).trans m2), ⟨u3, (if_neg (by decide)).trans ((if_neg (by decide)).trans m3)⟩, (if_neg (by decide)).trans ((if_neg (by decide)).trans m4)⟩ ((if_neg (by decide)).trans ((if_neg (by decide)).trans m5)) (if_pos rfl) ((if_neg (by decide)).trans (if_pos rfl)) (by omega) (by omega) ?_ ?_
    · rw [← dp_none b1, ← ed, show step1 34 = 0 from rfl, Int.add_zero]; exact hdd
    · refine hO.trans ?_; rw [ed]; exact .qn b1 (.here _)
  · have hps : p < x.length := by omega
    obtain ⟨c, hcp⟩ : ∃ c, x.cps.toList[p]? = some c := ⟨_, List.getElem?_eq_getElem (by rw [el]; exact hps)⟩
    have k1 : (c == 34) = false := (item_beq (k := 34) hcp).symm.trans (by assumption)
    have i40 : (Txt.item x (p : Int) == Str.ofString "(") = (c == 40) := item_beq hcp
    have i41 : (Txt.item x (p : Int) == Str.ofString ")") = (c == 41) := item_beq hcp
    rename_i F9 N9
    rw [i40, i41, b2i_step] at F9
    have hc34 : c ≠ 34 := by simpa using k1
    refine hnext (p + 1) (dd + step1 c) _ _ _ _ _ F9 N9 ⟨(if_neg (by decide)).trans ((if_neg (by decide)).trans m1), (if_neg (by decide)).trans ((if_neg (by decide)).trans m2), ⟨u3, (if_neg (by decide)).trans ((if_neg (by decide)).trans m3)⟩, (if_neg (by decide)).trans ((if_neg (by decide)).trans m4)⟩ ((if_neg (by decide)).trans ((if_neg (by decide)).trans m5)) (if_pos rfl) ((if_neg (by decide)).trans (if_pos rfl)) (by omega) (by omega) ?_ ?_
    · rw [Int.add_assoc, ← dp_other hc34, ← dropc hcp]; exact hdd
    · refine hO.trans ?_; rw [dropc hcp]; exact .oth hc34 (.here _)
  · have ep : p = x.length := by omega
    exact hq _ _ _ _ F₁ N₁ ⟨⟨m1, m2, ⟨u3, m3⟩, m4⟩, m5, p, dd, o, vs, ovs, outs, k, k2, u1, u2, m6, m7, rfl, hc, hd, hi, hoi, hp, by omega, hol, hdd, hO, hall⟩
end Mine

end
/-! ## Walk7c -/
section
open PySem PySem.W PySem.Builtin PySem.Builtin.Re PyProof.Rows
set_option maxRecDepth 100000
set_option maxHeartbeats 8000000
set_option linter.unusedVariables false
namespace Mine
theorem resetWalk7c : True := by
  w_top off
  exact trivial
local macro_rules | `(tactic| walk_at "eval Name") => `(tactic| ((with_reducible show wpAny _ _ (eval (Expr.Name _ _) (envOf _ _ _ _ _)) _ _ _); refine ld_builtin_at (by assumption) (Top.g (by assumption)) (by assumption) (Top.b (by assumption)) (by assumption) ?_))
local macro_rules | `(tactic| walk_at "eval Name") => `(tactic| ((with_reducible show wpAny _ _ (eval (Expr.Name _ _) (envOf _ _ _ _ _)) _ _ _); first | (refine ld (by assumption) (by assumption) ?_) | (refine ld (by assumption) ((if_neg (by decide)).trans (by assumption)) ?_)))
local macro_rules | `(tactic| walk_at "binaryOp Mult ref int") => `(tactic| ((with_reducible show wpAny _ _ (binaryOp Operator.Mult (Value.ref _) (Value.int _ _)) _ _ _); refine mul_one (by assumption) (by assumption) (by omega) (by omega) ?_; intro _ _ _))
theorem ints_rep (z : Int) (u : Tok) : ∀ k, IntsAre (List.replicate k (Value.int z u)) (List.replicate k z)
  | 0 => .nil
  | k + 1 => .cons _ _ (ints_rep z u k)
/-- what a reading gives -/
def ReadOk (h₁ h : Heap) (l : List Nat) (b : Bool) (a : Addr) : Prop := ∃ u O vs outs, IsTup h a #[.int (dp b l) u, .ref O] ∧ h.IsList O vs.toArray ∧ h₁.get? O = none ∧ IntsAre vs outs ∧ 0 < outs.length ∧ outs.length ≤ 65537 ∧
  ∀ z ∈ outs, ∃ r, Outs b l r ∧ z = ((l.length - r.length : Nat) : Int)
theorem read_call (g : Nat → Obj) (w : World) {A : Around} {E : Value → Shared → Prop} {s : Shared} {x : Str} {t : Tok} {b : Bool} {Q : Value → Shared → Prop}
    (S : Std g w s.heap) (hroom : A.depth < recursionLimit) (hA : A.handled = none) (hx : x.length ≤ 65536)
    (hq : ∀ a h' tk, (∀ b o, s.heap.get? b = some o → h'.get? b = some o) → s.heap.get? a = none → ReadOk s.heap h' x.cps.toList b a → Q (.ref a) { s with heap := h', toks := tk }) :
    wpAny (model pT w) A (PySem.call (.ref 139) [.str x t, .bool b]) Q E s := by
  cases A
  dsimp only at hA hroom
  subst hA
  refine enter (binds := [(Str.ofString "signs", .str x t), (Str.ofString "sent", .bool b)]) S hroom (at139 g w) rfl ⟨138, _, _, _, rfl, at138 g w, rfl, rfl⟩ rfl (.of_eq (by rfl)) (by decide) (by simp; decide) ?_
  intro h₁ F
  have N : News s.heap s.heap.objs.size h₁ [] := News.nil
  have T := S.top
  have G1 := no_len g w
  have G2 := bi_len g w
  have G3 := no_range g w
  have G4 := bi_range g w
  have q1 : (fun y => List.lookup y [(Str.ofString "signs", Value.str x t), (Str.ofString "sent", Value.bool b)].reverse) (Str.ofString "signs") = some (.str x t) := rfl
  have q2 : (fun y => List.lookup y [(Str.ofString "signs", Value.str x t), (Str.ofString "sent", Value.bool b)].reverse) (Str.ofString "sent") = some (.bool b) := rfl
  replace F : Fr s.heap s.heap.objs.size h₁ (fun y => List.lookup y [(Str.ofString "signs", Value.str x t), (Str.ofString "sent", Value.bool b)].reverse) := F
  generalize hM : (fun y => List.lookup y [(Str.ofString "signs", Value.str x t), (Str.ofString "sent", Value.bool b)].reverse) = M at F q1 q2
  clear hM
  show wpAny _ _ (execs (dB 15) (envOf (Str.ofString "_law_read") (dS 15) s.heap.objs.size 139 (.ref 138))) _ _ _
  conv in dB 15 => whnf
  conv in dS 15 => whnf
  iterate 27 walk1
  rename_i h2 F2 N2 h3 F3 N3 h4 F4 N4 h5 F5 N5
  refine read_loop1 g w (K := h3.objs.size) (t := t) (b := b) T rfl hx F5 N5 ⟨?_, ?_, ⟨_, (if_neg (by decide)).trans (if_pos rfl)⟩, if_pos rfl⟩ rfl rfl (ints_rep _ _ _) ?_
  · repeat (first | exact if_pos rfl | assumption | refine (if_neg (by decide)).trans ?_)
  · repeat (first | exact if_pos rfl | assumption | refine (if_neg (by decide)).trans ?_)
  clear N2 F2 N3 F3 N4 F4 N5 F5 F N q1 q2
  intro h6 tk6 m6 news6 F6 N6 J6
  obtain ⟨⟨e1, e2, ⟨u3, e3⟩, e4⟩, o, vs, n, rfl, hc, hd, hi⟩ := J6
  rw [Nat.sub_self] at hi
  show wpAny _ _ (execs _ _) _ _ { s with heap := h6, toks := tk6 }
  iterate 15 walk1
  rename_i h7 F7 N7 h8 F8 N8 h9 F9 N9 h10 F10 N10
  have hKO : h3.objs.size ≠ h7.objs.size := News.apart N7 _ (.head _)
  refine read_loop2 g w (K := h3.objs.size) (O := h7.objs.size) (t := t) (b := b) rfl hx F10 N10 hKO ⟨⟨?_, ?_, ⟨u3, ?_⟩, ?_⟩, ?_, 0, 0, o, vs, [], [], 0, n, _, _, if_pos rfl, (if_neg (by decide)).trans ((if_neg (by decide)).trans (if_pos rfl)), rfl, hc, hd, hi, .nil, Nat.zero_le _, rfl, Nat.le_refl _, ?_, ?_, fun z hz => nomatch hz⟩ ?_
  · repeat (first | exact if_pos rfl | assumption | refine (if_neg (by decide)).trans ?_)
  · repeat (first | exact if_pos rfl | assumption | refine (if_neg (by decide)).trans ?_)
  · exact (if_neg (by decide)).trans ((if_neg (by decide)).trans ((if_neg (by decide)).trans e3))
  · repeat (first | exact if_pos rfl | assumption | refine (if_neg (by decide)).trans ?_)
  · repeat (first | exact if_pos rfl | assumption | refine (if_neg (by decide)).trans ?_)
  · rw [List.drop_zero, Int.zero_add]
  · rw [List.drop_zero]; exact .here _
  clear N6 F6 F7 N7 F8 N8 F9 N9 F10 N10 hi hd hc
  intro h11 tk11 m11 news11 F11 N11 J11
  obtain ⟨⟨f1, f2, ⟨u3, f3⟩, f4⟩, f5, p, dd, o2, vs2, ovs, outs, k, k2, u1, u2, f6, f7, rfl, hc, hd, hi, hoi, hp, hn, hol, hdd, hO, hall⟩ := J11
  have el : x.cps.toList.length = x.length := by simp [Str.length]
  obtain rfl : p = x.length := by omega
  rw [List.drop_eq_nil_of_le (by omega), dp_nil, Int.add_zero] at hdd
  rw [List.drop_eq_nil_of_le (by omega)] at hO
  subst hdd
  show wpAny _ _ (execs _ _) _ _ { s with heap := h11, toks := tk11 }
  repeat' walk1
  rename_i h12 F12 N12
  have e3 : 65537 ≤ sizeLine := by decide +kernel
  refine add_lists_ints (vs := ovs) (ws := [Value.int (x.length : Int) u3]) (ns := outs) (ms := [(x.length : Int)]) F12 N12 (News.isList N12 (.tail _ (.head _))) (News.isList N12 (.head _)) hoi (.cons _ _ .nil) ?_ (by rw [List.length_singleton]; omega)
  intro h13 F13 N13 hi13
  repeat' walk1
  rename_i h14 F14 N14
  refine hq h13.objs.size h14 _ F14.keep (N14.fresh (.head _)) ⟨u2, h12.objs.size, _, _, News.isTup N14 (.head _), News.isList N14 (.tail _ (.head _)), N14.fresh (.tail _ (.head _)), hi13, by simp, by simp; omega, ?_⟩
  intro z hz
  rcases List.mem_append.1 hz with hz | hz
  · rw [el]; exact hall z hz
  · rw [List.mem_singleton] at hz
    exact ⟨[], hO, by rw [hz, el]; simp⟩
end Mine

end
/-! ## LawRules -/
section
open PySem PySem.W PySem.Builtin PySem.Builtin.Re PyProof.Rows
set_option maxRecDepth 100000
set_option maxHeartbeats 8000000
set_option linter.unusedVariables false
namespace Mine
theorem at151 (g : Nat → Obj) (w : World) : (sT g w).heap.get? 151 = some (o151E w.params) := by kernel_rfl
theorem at150 (g : Nat → Obj) (w : World) : (sT g w).heap.get? 150 = some (o150E w.params) := by kernel_rfl
theorem gl_piece (g : Nat → Obj) (w : World) : mgT g w (Str.ofString "_law_piece") = some (.ref 132) := by unfold mgT; kernel_rfl
theorem gl_read (g : Nat → Obj) (w : World) : mgT g w (Str.ofString "_law_read") = some (.ref 139) := by unfold mgT; kernel_rfl
theorem gl_prep (g : Nat → Obj) (w : World) : mgT g w (Str.ofString "_law_prepared") = some (.ref 146) := by unfold mgT; kernel_rfl
theorem gl_quote (g : Nat → Obj) (w : World) : mgT g w (Str.ofString "quotedata") = some (.ref 61) := by unfold mgT; kernel_rfl
theorem gl_depth (g : Nat → Obj) (w : World) : mgT g w (Str.ofString "_paren_depth") = some (.ref 44) := by unfold mgT; kernel_rfl
theorem no_sum (g : Nat → Obj) (w : World) : mgT g w (Str.ofString "sum") = none := by unfold mgT; kernel_rfl
theorem bi_sum (g : Nat → Obj) (w : World) : mbT g w (Str.ofString "sum") = some (.builtin "sum") := by unfold mbT; kernel_rfl
section
variable {M : Model} {A : Around} {E : Value → Shared → Prop} {s : Shared} {env : Env} {h₀ : Heap} {L : Addr} {m mg mb : Str → Option Value}
theorem nm_global {x : Str} {pos : Pos} {v : Value} {Q : Value → Shared → Prop} (F : Fr h₀ L s.heap m) (hg : h₀.Ns mainGlobals mg) (hb : mg x = some v) (h : Q v s) (hgl : env.globals = mainGlobals := by rfl)
    (hk : env.scope.kind = .function := by rfl) (hx : env.kindOf x = some .globalImplicit := by rfl) (hd : (x == ("__debug__" : Str)) = false := by decide) :
    wpAny M A (eval (.Name x pos) env) Q E s :=
  Calls.Name_function_global hk hx (Calls.loadGlobal_global (by rw [hgl]; exact hg.keeps F.keep) hb h) hd
theorem nm_builtin {x : Str} {pos : Pos} {v : Value} {Q : Value → Shared → Prop} (F : Fr h₀ L s.heap m) (hg : h₀.Ns mainGlobals mg) (hmiss : mg x = none) (hb : h₀.Ns builtinsNs mb) (hv : mb x = some v) (h : Q v s) (hgl : env.globals = mainGlobals := by rfl) (hbl : env.builtins = builtinsNs := by rfl)
    (hk : env.scope.kind = .function := by rfl) (hx : env.kindOf x = some .globalImplicit := by rfl) (hd : (x == ("__debug__" : Str)) = false := by decide) :
    wpAny M A (eval (.Name x pos) env) Q E s :=
  Calls.Name_function_global hk hx (Calls.loadGlobal_builtin (by rw [hgl]; exact hg.keeps F.keep) hmiss (by rw [hbl]; exact hb.keeps F.keep) hv h) hd
theorem nm_local {x : Str} {pos : Pos} {v : Value} {Q : Value → Shared → Prop} (F : Fr h₀ L s.heap m) (hv : m x = some v) (h : Q v s) (hL : env.locals = L := by rfl)
    (hk : env.scope.kind = .function := by rfl) (hl : env.kindOf x = some .local := by rfl) (hd : (x == ("__debug__" : Str)) = false := by decide) :
    wpAny M A (eval (.Name x pos) env) Q E s := wpAny_Name (wpAny_loadName_local hk hl (by rw [hL]; exact F.ns) hv h) hd
end
noncomputable def st17 (i : Nat) : Stmt := (dB 17).getD i (.Pass ⟨0, 0, 0, 0⟩)
noncomputable abbrev env17 (L : Addr) : Env := envOfC (Str.ofString "law") (dS 17) L 151 (.ref 150)
end Mine

end
/-! ## Walk8 -/
section
open PySem PySem.W PySem.Builtin PySem.Builtin.Re PyProof.Rows
set_option maxRecDepth 100000
set_option maxHeartbeats 8000000
set_option linter.unusedVariables false
namespace Mine
theorem resetWalk8 : True := by
  w_top off
  exact trivial
local macro_rules | `(tactic| walk_at "eval Name") => `(tactic| ((with_reducible show wpAny _ _ (eval (Expr.Name _ _) _) _ _ _); first | (refine nm_local (by assumption) (by assumption) ?_) | (refine nm_global (by assumption) (Top.g (by assumption)) (by assumption) ?_) | (refine nm_builtin (by assumption) (Top.g (by assumption)) (by assumption) (Top.b (by assumption)) (by assumption) ?_)))
local macro_rules | `(tactic| walk_at "storeName") => `(tactic| (with_unfolding_all refine stLocN (by assumption) (by assumption) ?_; intro _ _ _))
local macro_rules | `(tactic| walk_at "subscriptTail Name Slice ref ref") => `(tactic| (refine slice_list (hsz := by assumption) (by assumption) (by assumption) (Fr.lst (by assumption) (by assumption)) .none (.int _ _) ?_; intro _ _ _))
local macro_rules | `(tactic| walk_at "newList") => `(tactic| (refine newList_N (by assumption) (by assumption) ?_; intro _ _ _))
theorem news_made {h₀ h : Heap} {L D : Addr} {m : Str → Option Value} {news : List (Addr × Obj)} {ys : List Value} (F : Fr h₀ L h m) (N : News h₀ L h news) (hD : h₀.get? D = none) (hp : NewPlain h news D ys.toArray) :
    ∃ n, News h₀ L h ((D, { cls := .type "list", data := .seq ys.toArray n }) :: news) := by
  have hL := hp.ne_locals F
  obtain ⟨⟨n, hg⟩, _⟩ := hp
  refine ⟨n, fun p hp => ?_⟩
  rcases List.mem_cons.1 hp with rfl | hp
  · exact ⟨hg, hL, hD⟩
  · exact N p hp
theorem keeps_self (s : Shared) : Keeps s s := ⟨s.heap, s.toks, rfl, fun _ _ e => e⟩
def cellsOf (ns : List Int) : List Int := (ns.take 8).map (·.fmod 1000000) ++ [2, 3, 7, 2, 0, 2, 1, 2, 0, 0, 11, 2]
theorem law0 (g : Nat → Obj) (w : World) {A : Around} {s : Shared} {h₀ : Heap} {L a : Addr} {m : Str → Option Value} {vs : List Value} {ns : List Int} {news : List (Addr × Obj)} {Q : Flow → Shared → Prop}
    (S : Std g w h₀) (hA : A.handled = none) (F : Fr h₀ L s.heap m) (N : News h₀ L s.heap news)
    (ha : h₀.IsList a vs.toArray) (hi : IntsAre vs ns) (hm : m (Str.ofString "script") = some (.ref a)) (hsz : vs.toArray.size ≤ sizeLine)
    (hq : ∀ K ws h' tk, Fr h₀ L h' (fun y => if y = Str.ofString "cells" then some (.ref K) else m y) → News h₀ L h' ((K, { cls := .type "list", data := .seq ws.toArray }) :: news) → IntsAre ws (cellsOf ns) → Q .next { s with heap := h', toks := tk }) :
    wpAny (model pT w) A (exec (st17 0) (env17 L)) Q (fun _ _ => False) s := by
  cases A
  dsimp only at hA
  subst hA
  have T := S.top
  unfold env17
  conv in st17 0 => whnf
  conv in dS 17 => whnf
  iterate 2 walk1
  refine ListComp_DCn (h₀ := h₀) (L := L) (m := m) (K := .int) (pz := fun _ => true) (d := fun i => .int (i.fmod 1000000)) rfl (by with_unfolding_all rfl) (by decide) rfl (by decide) rfl ?_ (by intro _; with_unfolding_all rfl)
  iterate 8 walk1
  rename_i h1 F1 N1
  have hI := slice_ints_uptoW hi (y := 8) (by decide)
  have hsz2 : (ns.take 8).length ≤ sizeLine := by
    have : 8 ≤ sizeLine := by decide +kernel
    rw [List.length_take]; omega
  refine ⟨_, _, _, ns.take 8, rfl, by simpa using News.isList N1 (.head _), IntsAre.areOf hI, hsz2, F1, N1, ?_, ?_, ?_⟩
  · intro C i v s₂ m₂ E' hC hi' hv hns hmv hk
    obtain ⟨t, rfl⟩ := ItemKind.int_is hv
    repeat' walk1
    exact keeps_self _
  · intro C i v s₂ m₂ E' hC hi' hv _ hns hmv hk
    obtain ⟨t, rfl⟩ := ItemKind.int_is hv
    have F2 := frInComp hns hk hC
    repeat' walk1
    · exact Carried.int _ _
    · exact ⟨_, _, rfl, fun _ _ e => e⟩
  · intro D ys h' tk F2 N2 hD hlD hpD hys
    have hys2 : IntsAre ys ((ns.take 8).map (·.fmod 1000000)) := by
      rw [List.filter_eq_self.2 (by simp)] at hys
      exact IntsAre.ofCarried (by rw [List.map_map]; exact hys)
    obtain ⟨nn, N2'⟩ := news_made F2 N2 hD hpD
    clear N2 hlD
    repeat' walk1
    rename_i h3 F3 N3
    refine add_lists_ints (vs := ys) (ns := (ns.take 8).map (·.fmod 1000000)) (ms := [2, 3, 7, 2, 0, 2, 1, 2, 0, 0, 11, 2]) F3 N3 ?_ (News.isList N3 (.head _)) hys2 (by repeat constructor) ?_ ?_
    · exact News.isList N3 (.tail _ (.head _))
    · intro h4 F4 N4 hi4
      repeat' walk1
      rename_i h5 F5 N5
      refine hq _ _ _ _ F5 (fun p hp => N5 p ?_) hi4
      rcases List.mem_cons.1 hp with rfl | hp
      · exact .head _
      · exact .tail _ (.tail _ (.tail _ (.tail _ hp)))
    · have : 100 ≤ sizeLine := by decide +kernel
      simp only [List.length_map, List.length_take, List.length_cons, List.length_nil]
      omega
end Mine

end
/-! ## Walk8b -/
section
open PySem PySem.W PySem.Builtin PySem.Builtin.Re PyProof.Rows
set_option maxRecDepth 100000
set_option maxHeartbeats 8000000
set_option linter.unusedVariables false
namespace Mine
theorem resetWalk8b : True := by
  w_top off
  exact trivial
local macro_rules | `(tactic| walk_at "eval Name") => `(tactic| ((with_reducible show wpAny _ _ (eval (Expr.Name _ _) _) _ _ _); first | (refine nm_local (by assumption) (by assumption) ?_) | (refine nm_global (by assumption) (Top.g (by assumption)) (by assumption) ?_) | (refine nm_builtin (by assumption) (Top.g (by assumption)) (by assumption) (Top.b (by assumption)) (by assumption) ?_)))
local macro_rules | `(tactic| walk_at "storeName") => `(tactic| (with_unfolding_all refine stLocN (by assumption) (by assumption) ?_; intro _ _ _))
local macro_rules | `(tactic| walk_at "newList") => `(tactic| (refine newList_N (by assumption) (by assumption) ?_; intro _ _ _))
local macro_rules | `(tactic| walk_at "callWith ref") => `(tactic| (refine callF (by assumption) (by rfl) ?_))
local macro_rules | `(tactic| walk_at "And") => `(tactic| (refine ⟨Fr.keep (by assumption), ?_⟩))
local macro_rules | `(tactic| walk_at "call ref") => `(tactic| (refine piece_call _ _ (Std.ext (by assumption) (Fr.keep (by assumption))) (by assumption) rfl (by assumption) (by assumption) ?_; intro _ _ _ _))
noncomputable def textOf (cs : List Int) : Str := Txt.join (Str.ofString "") (cs.map pieceS)
theorem law1 (g : Nat → Obj) (w : World) {A : Around} {s : Shared} {h₀ : Heap} {L K : Addr} {m : Str → Option Value} {ws : List Value} {cs : List Int} {news : List (Addr × Obj)} {Q : Flow → Shared → Prop}
    (S : Std g w h₀) (hA : A.handled = none) (hroom : A.depth < recursionLimit) (F : Fr h₀ L s.heap m) (N : News h₀ L s.heap news)
    (hl : s.heap.IsList K ws.toArray) (hi : IntsAre ws cs) (hm : m (Str.ofString "cells") = some (.ref K)) (hcs : ∀ i ∈ cs, 0 ≤ i ∧ i < 1000000) (hn : cs.length ≤ 20) (hsum : ((cs.map pieceS).map (·.length)).sum ≤ 16777216)
    (hq : ∀ u h' tk, Fr h₀ L h' (fun y => if y = Str.ofString "text" then some (.str (textOf cs) u) else m y) → News h₀ L h' news → Q .next { s with heap := h', toks := tk }) :
    wpAny (model pT w) A (exec (st17 1) (env17 L)) Q (fun _ _ => False) s := by
  cases A
  dsimp only at hA hroom
  subst hA
  have T := S.top
  have G1 := gl_piece g w
  have S' := S.ext F.keep
  have T' := S'.top
  have K132 := S'.keep _ _ (at132 g w)
  unfold env17
  conv in st17 1 => whnf
  conv in dS 17 => whnf
  iterate 6 walk1
  refine ListComp_DCn (h₀ := h₀) (L := L) (m := m) (K := .int) (pz := fun _ => true) (d := fun i => .str (pieceS i)) rfl (by with_unfolding_all rfl) (by decide) rfl (by decide) rfl ?_ (by intro _; with_unfolding_all rfl)
  iterate 1 walk1
  have hsz : cs.length ≤ sizeLine := by
    have : 100 ≤ sizeLine := by decide +kernel
    omega
  refine ⟨news, _, _, cs, rfl, hl, IntsAre.areOf hi, hsz, F, N, ?_, ?_, ?_⟩
  · intro C i v s₂ m₂ E' hC hi' hv hns hmv hk
    obtain ⟨t, rfl⟩ := ItemKind.int_is hv
    repeat' walk1
    exact keeps_self _
  · intro C i v s₂ m₂ E' hC hi' hv _ hns hmv hk
    obtain ⟨t, rfl⟩ := ItemKind.int_is hv
    have F2 := frInComp hns hk hC
    obtain ⟨b1, b2⟩ := hcs i hi'
    repeat' walk1
    · exact Carried.str _ _
    · exact ⟨_, _, rfl, by assumption⟩
  · intro D ys h' tk F2 N2 hD hlD hpD hys
    have hys2 : StrsAre ys (cs.map pieceS) := by
      rw [List.filter_eq_self.2 (by simp)] at hys
      exact StrsAre.ofCarried (by rw [List.map_map]; exact hys)
    iterate 1 walk1
    refine join_list hlD hys2 (by show _ + _ * 0 ≤ _; omega) ?_
    intro t2 k2
    repeat' walk1
    rename_i h3 F3 N3
    exact hq _ _ _ F3 N3
end Mine

end
/-! ## Walk8c -/
section
open PySem PySem.W PySem.Builtin PySem.Builtin.Re PyProof.Rows
set_option maxRecDepth 100000
set_option maxHeartbeats 8000000
set_option linter.unusedVariables false
namespace Mine
theorem resetWalk8c : True := by
  w_top off
  exact trivial
local macro_rules | `(tactic| walk_at "no such key") => `(tactic| fail)
local macro_rules | `(tactic| walk_at "eval Name") => `(tactic| ((with_reducible show wpAny _ _ (eval (Expr.Name _ _) _) _ _ _); first | (refine nm_local (by assumption) (by assumption) ?_) | (refine nm_global (by assumption) (Top.g (by assumption)) (by assumption) ?_) | (refine nm_builtin (by assumption) (Top.g (by assumption)) (by assumption) (Top.b (by assumption)) (by assumption) ?_)))
local macro_rules | `(tactic| walk_at "storeName") => `(tactic| (with_unfolding_all refine stLocN (by assumption) (by assumption) ?_; intro _ _ _))
local macro_rules | `(tactic| walk_at "newList") => `(tactic| (refine newList_N (by assumption) (by assumption) ?_; intro _ _ _))
local macro_rules | `(tactic| walk_at "callWith ref") => `(tactic| (refine callF (by assumption) (by rfl) ?_))
local macro_rules | `(tactic| walk_at "And") => `(tactic| (refine ⟨Fr.keep (by assumption), ?_⟩))
local macro_rules | `(tactic| walk_at "call ref") => `(tactic| (refine piece_call _ _ (Std.ext (by assumption) (Fr.keep (by assumption))) (by assumption) rfl (by assumption) (by assumption) ?_; intro _ _ _ _))
theorem law2 (g : Nat → Obj) (w : World) {A : Around} {s : Shared} {h₀ : Heap} {L K : Addr} {m : Str → Option Value} {ws : List Value} {cs : List Int} {news : List (Addr × Obj)} {Q : Flow → Shared → Prop}
    (S : Std g w h₀) (hA : A.handled = none) (hroom : A.depth < recursionLimit) (F : Fr h₀ L s.heap m) (N : News h₀ L s.heap news)
    (hl : s.heap.IsList K ws.toArray) (hi : IntsAre ws cs) (hm : m (Str.ofString "cells") = some (.ref K)) (hcs : ∀ i ∈ cs, 0 ≤ i ∧ i < 1000000) (hn : cs.length ≤ 20) (hsum : (((cs.filter fun i => i.fmod 12 != 7).map pieceS).map (·.length)).sum ≤ 16777216)
    (hq : ∀ u h' tk, Fr h₀ L h' (fun y => if y = Str.ofString "shown" then some (.str (textOf (cs.filter fun i => i.fmod 12 != 7)) u) else m y) → News h₀ L h' news → Q .next { s with heap := h', toks := tk }) :
    wpAny (model pT w) A (exec (st17 2) (env17 L)) Q (fun _ _ => False) s := by
  cases A
  dsimp only at hA hroom
  subst hA
  have T := S.top
  have G1 := gl_piece g w
  have S' := S.ext F.keep
  have T' := S'.top
  have K132 := S'.keep _ _ (at132 g w)
  unfold env17
  conv in st17 2 => whnf
  conv in dS 17 => whnf
  iterate 6 walk1
  refine ListComp_DCn (h₀ := h₀) (L := L) (m := m) (K := .int) (pz := fun i => i.fmod 12 != 7) (d := fun i => .str (pieceS i)) rfl (by with_unfolding_all rfl) (by decide) rfl (by decide) rfl ?_ (by intro _; with_unfolding_all rfl)
  iterate 1 walk1
  have hsz : cs.length ≤ sizeLine := by
    have : 100 ≤ sizeLine := by decide +kernel
    omega
  refine ⟨news, _, _, cs, rfl, hl, IntsAre.areOf hi, hsz, F, N, ?_, ?_, ?_⟩
  · intro C i v s₂ m₂ E' hC hi' hv hns hmv hk
    obtain ⟨t, rfl⟩ := ItemKind.int_is hv
    have F2 := frInComp hns hk hC
    repeat' walk1
    exact ⟨_, _, rfl, fun _ _ e => e⟩
  · intro C i v s₂ m₂ E' hC hi' hv _ hns hmv hk
    obtain ⟨t, rfl⟩ := ItemKind.int_is hv
    have F2 := frInComp hns hk hC
    obtain ⟨b1, b2⟩ := hcs i hi'
    repeat' walk1
    · exact Carried.str _ _
    · exact ⟨_, _, rfl, by assumption⟩
  · intro D ys h' tk F2 N2 hD hlD hpD hys
    have hys2 : StrsAre ys ((cs.filter fun i => i.fmod 12 != 7).map pieceS) := by
      exact StrsAre.ofCarried (by rw [List.map_map]; exact hys)
    iterate 1 walk1
    refine join_list hlD hys2 (by show _ + _ * 0 ≤ _; omega) ?_
    intro t2 k2
    repeat' walk1
    rename_i h3 F3 N3
    exact hq _ _ _ F3 N3
end Mine

end
/-! ## Walk8d -/
section
open PySem PySem.W PySem.Builtin PySem.Builtin.Re PyProof.Rows
set_option maxRecDepth 100000
set_option maxHeartbeats 8000000
set_option linter.unusedVariables false
namespace Mine
theorem resetWalk8d : True := by
  w_top off
  exact trivial
local macro_rules | `(tactic| walk_at "no such key") => `(tactic| fail)
/-- a text that may be sent -/
structure Sz (x : Str) : Prop where
  a : x.cps.size ≤ 65536
  b : (subText fit2 (Str.ofString "\r\n") x).length ≤ 65536
/-- a text that may be prepared -/
structure Pz (x : Str) : Prop where
  a : x.cps.size ≤ 65536
  b : ((foldsOf x.cps.toList).map (·.length)).sum ≤ 16777216
local macro_rules | `(tactic| walk_at "eval Name") => `(tactic| ((with_reducible show wpAny _ _ (eval (Expr.Name _ _) _) _ _ _); first | (refine nm_local (by assumption) (by assumption) ?_) | (refine nm_global (by assumption) (Top.g (by assumption)) (by assumption) ?_) | (refine nm_builtin (by assumption) (Top.g (by assumption)) (by assumption) (Top.b (by assumption)) (by assumption) ?_)))
local macro_rules | `(tactic| walk_at "storeName") => `(tactic| (with_unfolding_all refine stLocN (by assumption) (by assumption) ?_; intro _ _ _))
local macro_rules | `(tactic| walk_at "newList") => `(tactic| (refine newList_N (by assumption) (by assumption) ?_; intro _ _ _))
local macro_rules | `(tactic| walk_at "callWith ref") => `(tactic| (refine callF (by assumption) (by rfl) ?_))
local macro_rules | `(tactic| walk_at "And") => `(tactic| (refine ⟨Fr.keep (by assumption), ?_⟩))
local macro_rules | `(tactic| walk_at "call ref") => `(tactic| (refine quote_call _ _ (Std.ext (by assumption) (Fr.keep (by assumption))) (Nat.lt_of_succ_lt (by assumption)) (Sz.a (by assumption)) (Sz.b (by assumption)) ?_; intro u2 h2 tk2 k2; have F2 := Fr.after (by assumption) k2; have N2 := News.keepsAll (by assumption) k2; clear k2))
local macro_rules | `(tactic| walk_at "call ref") => `(tactic| (refine prep_call _ _ (Std.ext (by assumption) (Fr.keep (by assumption))) (B3At.ext (by assumption) (Fr.keep (by assumption))) (by assumption) rfl (Pz.a (by assumption)) (Pz.b (by assumption)) ?_; intro u2 h2 tk2 k2; have F2 := Fr.after (by assumption) k2; have N2 := News.keepsAll (by assumption) k2; clear k2))
theorem law3 (g : Nat → Obj) (w : World) {A : Around} {s : Shared} {h₀ : Heap} {L : Addr} {m : Str → Option Value} {x : Str} {t : Tok} {news : List (Addr × Obj)} {Q : Flow → Shared → Prop}
    (S : Std g w h₀) (hA : A.handled = none) (hroom : A.depth + 1 < recursionLimit) (F : Fr h₀ L s.heap m) (N : News h₀ L s.heap news)
    (hm : m (Str.ofString "text") = some (.str x t)) (hx : Sz x)
    (hq : ∀ u h' tk, Fr h₀ L h' (fun y => if y = Str.ofString "sent" then some (.str (sendS x) u) else m y) → News h₀ L h' news → Q .next { s with heap := h', toks := tk }) :
    wpAny (model pT w) A (exec (st17 3) (env17 L)) Q (fun _ _ => False) s := by
  cases A
  dsimp only at hA hroom
  subst hA
  have T := S.top
  have G1 := gl_quote g w
  have K61 := S.keep _ _ (at61 g w)
  unfold env17
  conv in st17 3 => whnf
  conv in dS 17 => whnf
  repeat' walk1
  rename_i h2 F2 N2
  exact hq _ _ _ F2 N2
theorem law4 (g : Nat → Obj) (w : World) {A : Around} {s : Shared} {h₀ : Heap} {L : Addr} {m : Str → Option Value} {x y : Str} {t t2 : Tok} {news : List (Addr × Obj)} {Q : Flow → Shared → Prop}
    (S : Std g w h₀) (B : B3At w h₀) (hA : A.handled = none) (hroom : A.depth + 1 < recursionLimit) (F : Fr h₀ L s.heap m) (N : News h₀ L s.heap news)
    (hm : m (Str.ofString "text") = some (.str x t)) (hm2 : m (Str.ofString "sent") = some (.str y t2)) (hx : Pz x) (hy : Sz y) (hy2 : Sz (sendS y))
    (hq : ∀ K u1 u2 h' tk, Fr h₀ L h' (fun y => if y = Str.ofString "texts" then some (.ref K) else m y) → News h₀ L h' ((K, { cls := .type "list", data := .seq #[.str x t, .str (prepS x) u1, .str y t2, .str (sendS (sendS y)) u2] }) :: news) → Q .next { s with heap := h', toks := tk }) :
    wpAny (model pT w) A (exec (st17 4) (env17 L)) Q (fun _ _ => False) s := by
  cases A
  dsimp only at hA hroom
  subst hA
  have T := S.top
  have G1 := gl_quote g w
  have G2 := gl_prep g w
  have K61 := S.keep _ _ (at61 g w)
  have K146 := S.keep _ _ (at146 g w)
  unfold env17
  conv in st17 4 => whnf
  conv in dS 17 => whnf
  repeat' walk1
  rename_i h2 F2 N2
  exact hq _ _ _ _ _ F2 N2
end Mine

end
/-! ## IaddList -/
section
open PySem PySem.W PySem.Builtin PySem.Builtin.Re PyProof.Rows
set_option maxRecDepth 100000
set_option linter.unusedVariables false
namespace Mine
open PySem.Calls
theorem lk_iadd : typeLookup (.type "list") (dunderI "add") = pure (some (.builtin "list.__iadd__")) := by rw [typeLookup_type, builtinLookup_eq_fast]; kernel_rfl
theorem iadd_lists {prog : Program} {w : World} {A : Around} {E : Value → Shared → Prop} {s : Shared} {l b : Addr} {items items2 : Array Value} {n n2 : Nat} {Q : Value → Shared → Prop}
    (hl : s.heap.get? l = some { cls := .type "list", data := .seq items n }) (hb : s.heap.get? b = some { cls := .type "list", data := .seq items2 n2 }) (hsz : items.size + items2.size ≤ 1000)
    (h : ∀ h' n', Heap.SameBut l s.heap h' → h'.get? l = some { cls := .type "list", data := .seq (items ++ items2) n' } → Q (.ref l) { s with heap := h' }) :
    wpAny (model prog w) A (inplaceOp .Add (.ref l) (.ref b)) Q E s := by
  have ha : s.TypeIs (.ref l) "list" := ⟨_, hl, rfl⟩
  have hb' : s.TypeIs (.ref b) "list" := ⟨_, hb, rfl⟩
  have hz : 1000 ≤ sizeLine := by decide +kernel
  unfold inplaceOp
  refine wpAny_holding ?_
  have hfi : fillsInplaceSlot (.type "list") "add" (Operator.Add == .Add) = pure false := by
    unfold fillsInplaceSlot
    show (typeLookup (.type "list") (dunderI "add") >>= fun fi => pure (fi.isSome && !isSeqSlot fi)) = pure false
    rw [lk_iadd]
    show (pure (Option.isSome (some (Value.builtin "list.__iadd__")) && !isSeqSlot (some (Value.builtin "list.__iadd__"))) : Sem Bool) = pure false
    rw [show isSeqSlot (some (Value.builtin "list.__iadd__")) = true by decide +kernel]; rfl
  have hsi : seqSlot? (.type "list") (dunderI "add") = pure (some (.builtin "list.__iadd__")) := PySem.seqSlot_of lk_iadd (by decide +kernel)
  refine wpAny_bind (wpAny_typeOf ha (wpAny_bind (wpAny_of_eq hfi ?_)))
  show wpAny _ A (if false = true then _ else _) Q E s
  rw [if_neg Bool.false_ne_true]
  refine wpAny_bind (binaryOp1_none (nm := "add") ha hb' noFill_list_add ?_)
  refine wpAny_bind (wpAny_of_eq hsi ?_)
  refine wpAny_bind (wpAny_rule ?_)
  refine call_meets PySem.F.slot_list_iadd ha PySem.F.entry_list_iadd (PySem.F.args_list_iadd_2 _ _) (PySem.AutoSeq1.list___iadd___list_list_0 l items n b items2 n2 ?_ (by omega) (by omega)) ⟨hl, hb, ?_⟩
  · simp [Builtin.List.listTooLong]; omega
  · refine h _ (if items2 = #[] then n else n + 1) (Heap.SameBut.update ..) ?_
    have e : Obj.mapSeq (fun x => x ++ items2) { cls := .type "list", data := .seq items n } = { cls := .type "list", data := .seq (items ++ items2) (if items2 = #[] then n else n + 1) } := by simp [Obj.mapSeq]
    rw [Heap.get?_update_self _ hl (by rw [e]; rfl), e]
end Mine

end
/-! ## SumCall -/
section
open PySem PySem.W PySem.Builtin PySem.Builtin.Re PyProof.Rows
set_option maxRecDepth 100000
set_option linter.unusedVariables false
namespace Mine
theorem sum_call {prog : Program} {w : World} {A : Around} {E : Value → Shared → Prop} {s : Shared} {l : Addr} {vs : List Value} {ns : List Int} {Q : Value → Shared → Prop} (hh : A.handled = none) (hl : s.heap.IsList l vs.toArray) (hi : IntsAre vs ns)
    (h : ∀ t h' tk, (∀ b o, s.heap.get? b = some o → h'.get? b = some o) → Q (.int ns.sum t) { s with heap := h', toks := tk }) :
    wpAny (model prog w) A (call (.builtin "sum") [.ref l]) Q E s := by
  have hn := hi.numsOf
  obtain ⟨xs, e⟩ := hi.allInts.items
  have e2 : vs.toArray.toList = vs := rfl
  rw [← hn, ← e2, e] at h
  rw [e] at hl
  rw [nums_intItems] at h
  refine sum_intListG hh hl fun h' tk t' hk => ?_
  have := h t' h' tk hk
  rw [preSum_eq, List.take_of_length_le (by simp)]; exact this
end Mine

end
/-! ## Walk8e -/
section
open PySem PySem.W PySem.Builtin PySem.Builtin.Re PyProof.Rows
set_option maxRecDepth 100000
set_option maxHeartbeats 8000000
set_option linter.unusedVariables false
namespace Mine
theorem resetWalk8e : True := by
  w_top off
  exact trivial
local macro_rules | `(tactic| walk_at "no such key") => `(tactic| fail)
local macro_rules | `(tactic| walk_at "eval Name") => `(tactic| ((with_reducible show wpAny _ _ (eval (Expr.Name _ _) _) _ _ _); first | (refine nm_local (by assumption) (by assumption) ?_) | (refine nm_global (by assumption) (Top.g (by assumption)) (by assumption) ?_) | (refine nm_builtin (by assumption) (Top.g (by assumption)) (by assumption) (Top.b (by assumption)) (by assumption) ?_)))
local macro_rules | `(tactic| walk_at "storeName") => `(tactic| (with_unfolding_all refine stLocN (by assumption) (by assumption) ?_; intro _ _ _))
local macro_rules | `(tactic| walk_at "newList") => `(tactic| (refine newList_N (by assumption) (by assumption) ?_; intro _ _ _))
local macro_rules | `(tactic| walk_at "callWith ref") => `(tactic| (refine callF (by assumption) (by rfl) ?_))
local macro_rules | `(tactic| walk_at "And") => `(tactic| (refine ⟨Fr.keep (by assumption), ?_⟩))
local macro_rules | `(tactic| walk_at "call ref") => `(tactic| (refine quote_call _ _ (Std.ext (by assumption) (Fr.keep (by assumption))) (Nat.lt_of_succ_lt (by assumption)) (Sz.a (by assumption)) (Sz.b (by assumption)) ?_; intro u2 h2 tk2 k2; have F2 := Fr.after (by assumption) k2; have N2 := News.keepsAll (by assumption) k2; clear k2))
local macro_rules | `(tactic| walk_at "call ref") => `(tactic| (refine prep_call _ _ (Std.ext (by assumption) (Fr.keep (by assumption))) (B3At.ext (by assumption) (Fr.keep (by assumption))) (by assumption) rfl (Pz.a (by assumption)) (Pz.b (by assumption)) ?_; intro u2 h2 tk2 k2; have F2 := Fr.after (by assumption) k2; have N2 := News.keepsAll (by assumption) k2; clear k2))
theorem nl_local {M : Model} {A : Around} {E : Value → Shared → Prop} {s : Shared} {env : Env} {h₀ : Heap} {L : Addr} {m : Str → Option Value} {x : Str} {v : Value} {Q : Value → Shared → Prop} (F : Fr h₀ L s.heap m) (hv : m x = some v) (h : Q v s) (hL : env.locals = L := by rfl)
    (hk : env.scope.kind = .function := by rfl) (hl : env.kindOf x = some .local := by rfl) : wpAny M A (loadName env x) Q E s :=
  wpAny_loadName_local hk hl (by rw [hL]; exact F.ns) hv h
local macro_rules | `(tactic| walk_at "loadName") => `(tactic| (refine nl_local (by assumption) (by assumption) ?_))
theorem law5 (g : Nat → Obj) (w : World) {A : Around} {s : Shared} {h₀ : Heap} {L K : Addr} {m : Str → Option Value} {x y : Str} {t t2 : Tok} {news : List (Addr × Obj)} {items : Array Value} {n : Nat} {Q : Flow → Shared → Prop}
    (S : Std g w h₀) (B : B3At w h₀) (hA : A.handled = none) (hroom : A.depth + 1 < recursionLimit) (F : Fr h₀ L s.heap m) (N : News h₀ L s.heap ((K, { cls := .type "list", data := .seq items n }) :: news))
    (hap : ∀ p ∈ news, p.1 ≠ K) (hsz : items.size ≤ 100)
    (hm : m (Str.ofString "text") = some (.str x t)) (hm2 : m (Str.ofString "sent") = some (.str y t2)) (hm3 : m (Str.ofString "texts") = some (.ref K)) (hx : Pz x) (hy : Pz y) (hx2 : Sz (prepS x))
    (hq : ∀ u1 u2 n' h' tk, Fr h₀ L h' (fun y => if y = Str.ofString "texts" then some (.ref K) else m y) → News h₀ L h' ((K, { cls := .type "list", data := .seq (items ++ #[.str (sendS (prepS x)) u1, .str (prepS y) u2]) n' }) :: news) → Q .next { s with heap := h', toks := tk }) :
    wpAny (model pT w) A (exec (st17 5) (env17 L)) Q (fun _ _ => False) s := by
  cases A
  dsimp only at hA hroom
  subst hA
  have T := S.top
  have G1 := gl_quote g w
  have G2 := gl_prep g w
  have K61 := S.keep _ _ (at61 g w)
  have K146 := S.keep _ _ (at146 g w)
  unfold env17
  conv in st17 5 => whnf
  conv in dS 17 => whnf
  repeat' walk1
  rename_i h2 F2 N2
  have hK := N2 _ (.tail _ (.head _))
  have hne := News.apart N2.tail' 
  refine iadd_lists (N2.get (.tail _ (.head _))) (N2.get (.head _)) (by simp; omega) ?_
  intro h3 n3 hs ho
  have F3 := F2.change hs hK.2.1 hK.2.2
  have N3 : News h₀ L h3 ((K, { cls := .type "list", data := .seq (items ++ _) n3 }) :: news) := News.setHead N2.tail' hap hs ho
  repeat' walk1
  rename_i h4 F4 N4
  exact hq _ _ _ _ _ F4 N4
end Mine

end
/-! ## Walk8f -/
section
open PySem PySem.W PySem.Builtin PySem.Builtin.Re PyProof.Rows
set_option maxRecDepth 100000
set_option maxHeartbeats 8000000
set_option linter.unusedVariables false
namespace Mine
theorem resetWalk8f : True := by
  w_top off
  exact trivial
local macro_rules | `(tactic| walk_at "eval Name") => `(tactic| ((with_reducible show wpAny _ _ (eval (Expr.Name _ _) _) _ _ _); first | (refine nm_local (by assumption) (by assumption) ?_) | (refine nm_global (by assumption) (Top.g (by assumption)) (by assumption) ?_) | (refine nm_builtin (by assumption) (Top.g (by assumption)) (by assumption) (Top.b (by assumption)) (by assumption) ?_)))
local macro_rules | `(tactic| walk_at "call builtin:sum") => `(tactic| (refine sum_call rfl (Fr.lst (by assumption) (by assumption)) (by assumption) ?_; intro _ h2 tk2 k2; have F2 := Fr.after (by assumption) k2; have N2 := News.keepsAll (by assumption) k2; clear k2))
theorem law6 (g : Nat → Obj) (w : World) {A : Around} {s : Shared} {h₀ : Heap} {L a : Addr} {m : Str → Option Value} {own rest : List (Addr × Obj)} {o : Obj} {v₀ : Option Value} {vs : List Value} {ns : List Int} {Q : Flow → Shared → Prop}
    (S : Std g w h₀) (hA : A.handled = none) (F : Fr h₀ L s.heap m) (N : News h₀ L s.heap (own ++ (L + 1, o) :: rest)) (ho : o.data = .cell v₀) (h1 : ∀ p ∈ own, p.1 ≠ L + 1) (h2 : ∀ p ∈ rest, p.1 ≠ L + 1)
    (ha : h₀.IsList a vs.toArray) (hi : IntsAre vs ns) (hm : m (Str.ofString "script") = some (.ref a))
    (hq : ∀ o' u h' tk, Fr h₀ L h' m → News h₀ L h' (own ++ (L + 1, o') :: rest) → o'.data = .cell (some (.int ns.sum u)) → Q .next { s with heap := h', toks := tk }) :
    wpAny (model pT w) A (exec (st17 6) (env17 L)) Q (fun _ _ => False) s := by
  cases A
  dsimp only at hA
  subst hA
  have T := S.top
  have G1 := no_sum g w
  have G2 := bi_sum g w
  unfold env17
  conv in st17 6 => whnf
  conv in dS 17 => whnf
  repeat' walk1
  rename_i h3 tk3 F3 N3
  with_unfolding_all refine stCN F3 N3 rfl ho h1 h2 ?_
  intro h4 o4 F4 N4 ho4
  exact hq _ _ _ _ F4 N4 ho4
end Mine

end
/-! ## Enc -/
section
open PySem PySem.W PySem.Builtin PySem.Builtin.Re PyProof.Rows
set_option maxRecDepth 100000
set_option linter.unusedVariables false
namespace Mine
open PySem.Builtin._codecs
def encB (l : List Nat) : List UInt8 := l.flatMap Str.utf8Of
theorem foldl_enc : ∀ (l : List Nat) (a : Array UInt8), l.foldl (fun acc y => acc ++ (Str.utf8Of y).toArray) a = a ++ (encB l).toArray
  | [], a => by simp [encB]
  | c :: l, a => by
    rw [List.foldl_cons, foldl_enc l]
    apply Array.ext'
    simp [encB]
theorem two_steps {σ : Type} {f : Nat → σ → Sem (ForInStep σ)} {init s1 : σ} {n : Nat} (hn : 0 < n) (h1 : f 0 init = pure (.yield s1)) (h2 : ∀ i, f i s1 = pure (.done s1)) : (forIn (List.range' 0 n 1) init f : Sem σ) = pure s1 := by
  obtain ⟨k, rfl⟩ : ∃ k, n = k + 1 := ⟨n - 1, by omega⟩
  rw [List.range'_succ, List.forIn_cons, h1]
  cases k with
  | zero => rfl
  | succ k =>
    show (forIn (List.range' (0 + 1) (k + 1) 1) s1 f : Sem σ) = pure s1
    rw [List.range'_succ, List.forIn_cons, h2]
    rfl
theorem findIdx_none {l : Array Nat} {p : Nat → Bool} (h : ∀ c ∈ l.toList, p c = false) : l.findIdx? p = none := by
  rw [Array.findIdx?_eq_none_iff]
  intro c hc
  exact h c (Array.mem_toList_iff.2 hc)
theorem narrow_clean (id : String) (self : Value) (x : Str) (h : ∀ c ∈ x.cps.toList, Str.isSurrogate c = false) (hsz : (encB x.cps.toList).length ≤ sizeLine) : encodeNarrow id utf8Codec none self x = pure (encB x.cps.toList).toArray := by
  unfold encodeNarrow
  dsimp only
  rw [Std.Legacy.Range.forIn_eq_forIn_range']
  simp only [Std.Legacy.Range.size, Nat.sub_zero, Nat.add_sub_cancel, Nat.div_one]
  by_cases hx : x.length = 0
  · rw [hx]
    have : x.cps = #[] := Array.eq_empty_of_size_eq_zero hx
    rw [this]; rfl
  · have e1 : x.cps.extract 0 x.cps.size = x.cps := Array.extract_size
    have hx' : 0 < x.cps.size := Nat.pos_of_ne_zero hx
    have e2 : x.cps.findIdx? utf8Codec.bad = none := findIdx_none h
    rw [two_steps (s1 := (x.cps.size, (encB x.cps.toList).toArray, {})) (by omega) ?_ ?_]
    · rfl
    · dsimp only
      have hc : x.cps[0]? = some x.cps[0] := Array.getElem?_eq_getElem _
      rw [if_neg (by simp), hc]
      dsimp only
      rw [if_pos (by rw [show utf8Codec.bad x.cps[0] = false from h _ (by simp)]; rfl)]
      simp only [e1, e2, Option.getD_none, Array.extract_size, Nat.zero_add]
      rw [← Array.foldl_toList]
      have e3 : x.cps.toList.foldl (fun acc y => acc ++ (utf8Codec.bytesOf y).toArray) #[] = (encB x.cps.toList).toArray := by
        have := foldl_enc x.cps.toList #[]
        rw [Array.empty_append] at this
        exact this
      rw [e3]
    · intro i
      dsimp only
      rw [if_neg (by simpa using hsz)]
      rw [Array.getElem?_eq_none (Nat.le_refl _)]
theorem encode_tree2 (x : Str) (t u : Tok) : «str.encode» ⟨[.str x t, .str (Str.ofString "utf-8") u], []⟩ = (do ret (← encodeRoad "str.encode" (.str x t) x (Str.ofString "utf-8") none)) := by first | (with_unfolding_all rfl) | kernel_rfl
theorem encode_call {prog : Program} {w : World} {A : Around} {E : Value → Shared → Prop} {s : Shared} {x : Str} {t u : Tok} {Q : Value → Shared → Prop} (h : ∀ c ∈ x.cps.toList, Str.isSurrogate c = false) (hsz : (encB x.cps.toList).length ≤ 65536)
    (hq : ∀ t' tk, Q (.bytes (encB x.cps.toList).toArray t') { s with toks := tk }) :
    wpAny (model prog w) A (PySem.call (.builtin "str.encode") [.str x t, .str (Str.ofString "utf-8") u]) Q E s := by
  refine wpAny_call_entry PySem.F.slot_str_encode (typeIs_str _ _ _) PySem.F.entry_str_encode ?_ (PySem.F.args_str_encode_2 _ _)
  have hl : 65536 ≤ sizeLine := by decide +kernel
  rw [encode_tree2, PySem.encodeRoad_utf8, narrow_clean _ _ _ h (by omega)]
  show wpAny _ _ (mkBytes _ >>= fun r => ret r) _ _ s
  refine wpAny_bind (wpAny_mkBytes ?_ ?_)
  · exact wpAny_pure ⟨_, rfl, hq _ _⟩
  · simp; omega
end Mine

end
/-! ## Plain5 -/
section
open PySem
set_option linter.unusedVariables false
namespace Mine
def encN (l : List Nat) : List Nat := (encB l).map (·.toNat)
theorem u8 {n : Nat} (h : n < 256) : n.toUInt8.toNat = n := by
  simp [Nat.toUInt8, UInt8.toNat_ofNat']; omega
theorem utf8_low {c : Nat} (h : c < 128) : (Str.utf8Of c).map (·.toNat) = [c] := by
  unfold Str.utf8Of
  rw [if_pos h]
  simp only [List.map_cons, List.map_nil]
  rw [u8 (by omega)]
theorem utf8_high {c : Nat} (h : 128 ≤ c) (h2 : c < 1114112) : ∃ d ws, (Str.utf8Of c).map (·.toNat) = d :: ws ∧ 128 ≤ d ∧ ∀ x ∈ ws, 128 ≤ x := by
  unfold Str.utf8Of
  rw [if_neg (by omega)]
  split
  · refine ⟨_, _, rfl, ?_, ?_⟩
    · dsimp only; rw [u8 (by omega)]; omega
    · intro x hx
      simp only [List.map_cons, List.map_nil, List.mem_singleton] at hx
      rw [hx, u8 (by omega)]; omega
  split
  · refine ⟨_, _, rfl, ?_, ?_⟩
    · dsimp only; rw [u8 (by omega)]; omega
    · intro x hx
      simp only [List.map_cons, List.map_nil, List.mem_cons, List.not_mem_nil, or_false] at hx
      rcases hx with hx | hx <;> (rw [hx, u8 (by omega)]; omega)
  · refine ⟨_, _, rfl, ?_, ?_⟩
    · dsimp only; rw [u8 (by omega)]; omega
    · intro x hx
      simp only [List.map_cons, List.map_nil, List.mem_cons, List.not_mem_nil, or_false] at hx
      rcases hx with hx | hx | hx <;> (rw [hx, u8 (by omega)]; omega)
theorem encN_cons (c : Nat) (l : List Nat) : encN (c :: l) = (Str.utf8Of c).map (·.toNat) ++ encN l := by
  unfold encN encB; simp
theorem high_plain {x : Nat} (h : 128 ≤ x) : Plain x := by unfold Plain; omega
/-- a text and its octets -/
theorem exp_enc : ∀ (l : List Nat), (∀ c ∈ l, c < 1114112) → Exp (fun c => 128 ≤ c) l (encN l)
  | [], _ => .nil
  | c :: l, h => by
    have ih := exp_enc l fun x hx => h x (.tail _ hx)
    rw [encN_cons]
    by_cases hc : c < 128
    · rw [utf8_low hc]
      exact .same c ih
    · obtain ⟨d, ws, e, h1, h2⟩ := utf8_high (by omega) (h c (.head _))
      rw [e]
      exact .word (show 128 ≤ c by omega) h1 h2 ih
theorem dp_enc {sent : Bool} (l : List Nat) (h : ∀ c ∈ l, c < 1114112) : dp sent (encN l) = dp sent l :=
  ((exp_enc l h).dp (fun c hc => ⟨high_plain hc, .inr (by omega)⟩) _ _ _ (Nat.le_refl _)).symm
end Mine

end
/-! ## Walk8g -/
section
open PySem PySem.W PySem.Builtin PySem.Builtin.Re PyProof.Rows
set_option maxRecDepth 100000
set_option maxHeartbeats 8000000
set_option linter.unusedVariables false
namespace Mine
theorem getMethod_encode {M : Model} {A : Around} {E : Value → Shared → Prop} {s : Shared} {x : Str} {t : Tok} {pl : Sem Bool} {Q : Value × List Value → Shared → Prop}
    (h : Q (.builtin "str.encode", [.str x t]) s) : wpAny M A (getMethod (.str x t) (Str.ofString "encode") pl) Q E s :=
  getMethod_builtin (typeIs_str _ _ _) PySem.F.plainAttrs_str PySem.F.slot_str_encode PySem.F.type_str_encode (fun a e => nomatch e) h
/-- a text whose octets may be read -/
structure Ez (x : Str) : Prop where
  a : ∀ c ∈ x.cps.toList, Str.isSurrogate c = false
  b : (encB x.cps.toList).length ≤ 65536
  c : ∀ c ∈ x.cps.toList, c < 1114112
theorem nums_enc (x : Str) : (nums (encB x.cps.toList).toArray).toList = encN x.cps.toList := by
  unfold nums encN; simp
/-- the depth of a text's octets -/
theorem octets_call (g : Nat → Obj) (w : World) {A : Around} {E : Value → Shared → Prop} {s : Shared} {x : Str} {t t' : Tok} {k : Int} {Q : Value → Shared → Prop}
    (S : Std g w s.heap) (hroom : A.depth < recursionLimit) (X : Ez x)
    (hq : ∀ t'' h' tk, (∀ b o, s.heap.get? b = some o → h'.get? b = some o) → Q (.int (k + dp false x.cps.toList) t'') { s with heap := h', toks := tk }) :
    wpAny (model pT w) A (PySem.call (.ref 44) [.bytes (encB x.cps.toList).toArray t, .int k t']) Q E s := by
  refine depth_call g w S hroom (by have := X.b; simpa using this) ?_
  intro out t'' h' tk ho hk
  have e : ((out.count 40 : Nat) : Int) - (out.count 41 : Nat) = dp false x.cps.toList := by
    have h1 := strip_spec (nums (encB x.cps.toList).toArray) ((encB x.cps.toList).toArray.size + 1) 0 (by rw [nums_size]; omega)
    rw [← ho, List.drop_zero, nums_enc, dp_enc _ X.c] at h1
    exact h1
  have e2 : k + ((out.count 40 : Nat) : Int) - (out.count 41 : Nat) = k + dp false x.cps.toList := by omega
  rw [e2]
  exact hq t'' h' tk hk
end Mine

end
/-! ## Walk8h -/
section
open PySem PySem.W PySem.Builtin PySem.Builtin.Re PyProof.Rows
set_option maxRecDepth 100000
set_option maxHeartbeats 8000000
set_option linter.unusedVariables false
namespace Mine
theorem resetWalk8h : True := by
  w_top off
  exact trivial
local macro_rules | `(tactic| walk_at "eval Name") => `(tactic| ((with_reducible show wpAny _ _ (eval (Expr.Name _ _) _) _ _ _); first | (refine nm_local (by assumption) (by assumption) ?_) | (refine nm_global (by assumption) (Top.g (by assumption)) (by assumption) ?_) | (refine nm_builtin (by assumption) (Top.g (by assumption)) (by assumption) (Top.b (by assumption)) (by assumption) ?_) | (with_unfolding_all refine ldCellK rfl (by assumption) ?_)))
local macro_rules | `(tactic| walk_at "callWith ref") => `(tactic| (refine callF (by assumption) (by rfl) ?_))
local macro_rules | `(tactic| walk_at "And") => `(tactic| (refine ⟨Fr.keep (by assumption), ?_⟩))
local macro_rules | `(tactic| walk_at "getMethod str") => `(tactic| (refine getMethod_encode ?_))
local macro_rules | `(tactic| walk_at "call builtin:str.encode") => `(tactic| (refine encode_call (Ez.a (by assumption)) (Ez.b (by assumption)) ?_; intro _ _))
local macro_rules | `(tactic| walk_at "call ref") => `(tactic| (refine octets_call _ _ (Std.ext (by assumption) (Fr.keep (by assumption))) (by assumption) (by assumption) ?_; intro _ h2 tk2 k2; have F2 := Fr.after (by assumption) k2; have X2 := PySem.Heap.IsCell.keeps (by assumption) k2))
theorem law7 (g : Nat → Obj) (w : World) {A : Around} {s : Shared} {h₀ : Heap} {L K : Addr} {m : Str → Option Value} {own rest : List (Addr × Obj)} {o : Obj} {ws : List Value} {xs : List Str} {k : Int} {u : Tok} {Q : Flow → Shared → Prop}
    (S : Std g w h₀) (hA : A.handled = none) (hroom : A.depth < recursionLimit) (F : Fr h₀ L s.heap m) (N : News h₀ L s.heap (own ++ (L + 1, o) :: rest)) (ho : o.data = .cell (some (.int k u)))
    (hl : s.heap.IsList K ws.toArray) (hi : StrsAre ws xs) (hm : m (Str.ofString "texts") = some (.ref K)) (hxs : ∀ x ∈ xs, Ez x) (hn : xs.length ≤ 6)
    (hq : ∀ D ys h' tk n, Fr h₀ L h' (fun y => if y = Str.ofString "told" then some (.ref D) else m y) → News h₀ L h' ((D, { cls := .type "list", data := .seq ys.toArray n }) :: (own ++ (L + 1, o) :: rest)) → IntsAre ys (xs.map fun x => dp false x.cps.toList) → Q .next { s with heap := h', toks := tk }) :
    wpAny (model pT w) A (exec (st17 7) (env17 L)) Q (fun _ _ => False) s := by
  cases A
  dsimp only at hA hroom
  subst hA
  have T := S.top
  have G1 := gl_depth g w
  have S' := S.ext F.keep
  have T' := S'.top
  have K44 := S'.keep _ _ (at44 g w)
  have CE : s.heap.IsCell (L + 1) (some (.int k u)) := ⟨o, N.get (List.mem_append_right _ (.head _)), ho⟩
  unfold env17
  conv in st17 7 => whnf
  conv in dS 17 => whnf
  refine Assign_ListComp_DCn (h₀ := h₀) (L := L) (m := m) (K := .str) (pz := fun _ => true) (d := fun x => .int (dp false x.cps.toList)) (by with_unfolding_all rfl) rfl rfl (by with_unfolding_all rfl) (by decide) rfl (by decide) rfl (by with_unfolding_all rfl) (by with_unfolding_all rfl) ?_ (by intro _; with_unfolding_all rfl)
  iterate 1 walk1
  have hsz : xs.length ≤ sizeLine := by
    have : 100 ≤ sizeLine := by decide +kernel
    omega
  refine ⟨_, _, _, xs, rfl, hl, StrsAre.areOf hi, hsz, F, N, ?_, ?_, ?_⟩
  · intro C i v s₂ m₂ E' hC hi' hv hns hmv hk
    obtain ⟨t, rfl⟩ := ItemKind.str_is hv
    repeat' walk1
    exact keeps_self _
  · intro C i v s₂ m₂ E' hC hi' hv _ hns hmv hk
    obtain ⟨t, rfl⟩ := ItemKind.str_is hv
    have F2 := frInComp hns hk hC
    have CE2 := CE.keeps hk
    have hE := hxs i hi'
    repeat' walk1
    · rw [show k + dp false i.cps.toList - k = dp false i.cps.toList by omega]
      exact Carried.int _ _
    · exact ⟨_, _, rfl, by assumption⟩
  · intro D ys h' tk F2 N2 hD hlD hpD hys
    have hys2 : IntsAre ys (xs.map fun x => dp false x.cps.toList) := by
      rw [List.filter_eq_self.2 (by simp)] at hys
      exact IntsAre.ofCarried (by rw [List.map_map]; exact hys)
    obtain ⟨nn, N2'⟩ := news_made F2 N2 hD hpD
    exact hq D ys h' tk nn F2 N2' hys2
end Mine

end
/-! ## Walk8i -/
section
open PySem PySem.W PySem.Builtin PySem.Builtin.Re PyProof.Rows
set_option maxRecDepth 100000
set_option maxHeartbeats 8000000
set_option linter.unusedVariables false
namespace Mine
theorem resetWalk8i : True := by
  w_top off
  exact trivial
local macro_rules | `(tactic| walk_at "eval Name") => `(tactic| ((with_reducible show wpAny _ _ (eval (Expr.Name _ _) _) _ _ _); first | (refine nm_local (by assumption) (by assumption) ?_) | (refine nm_global (by assumption) (Top.g (by assumption)) (by assumption) ?_) | (refine nm_builtin (by assumption) (Top.g (by assumption)) (by assumption) (Top.b (by assumption)) (by assumption) ?_)))
local macro_rules | `(tactic| walk_at "storeName") => `(tactic| (with_unfolding_all refine stLocN (by assumption) (by assumption) ?_; intro _ _ _))
local macro_rules | `(tactic| walk_at "callWith ref") => `(tactic| (refine callF (by assumption) (by rfl) ?_))
local macro_rules | `(tactic| walk_at "And") => `(tactic| (refine ⟨Fr.keep (by assumption), ?_⟩))
local macro_rules | `(tactic| walk_at "call ref") => `(tactic| (refine read_call _ _ (Std.ext (by assumption) (Fr.keep (by assumption))) (by assumption) rfl (by assumption) ?_; intro a2 h2 tk2 k2 f2 R2; obtain ⟨_, O2, vs2, outs2, IT2, IL2, fO2, IA2, ps2, ls2, al2⟩ := R2; have F2 := Fr.after (by assumption) k2; have N2 := News.keepsAll (by assumption) k2))
theorem law9 (g : Nat → Obj) (w : World) {A : Around} {s : Shared} {h₀ : Heap} {L : Addr} {m : Str → Option Value} {x : Str} {t : Tok} {news : List (Addr × Obj)} {Q : Flow → Shared → Prop}
    (S : Std g w h₀) (hA : A.handled = none) (hroom : A.depth < recursionLimit) (F : Fr h₀ L s.heap m) (N : News h₀ L s.heap news)
    (hm : m (Str.ofString "shown") = some (.str x t)) (hx : x.length ≤ 65536)
    (hq : ∀ u h' tk, Fr h₀ L h' (fun y => if y = Str.ofString "bare" then some (.int (dp false x.cps.toList) u) else m y) → News h₀ L h' news → Q .next { s with heap := h', toks := tk }) :
    wpAny (model pT w) A (exec (st17 9) (env17 L)) Q (fun _ _ => False) s := by
  cases A
  dsimp only at hA hroom
  subst hA
  have T := S.top
  have G1 := gl_read g w
  have K139 := S.keep _ _ (at139 g w)
  unfold env17
  conv in st17 9 => whnf
  conv in dS 17 => whnf
  repeat' walk1
  refine item_tupleT (l := [_, _]) (by assumption) (by decide) (by decide) rfl rfl ?_
  repeat' walk1
  rename_i h3 F3 N3
  exact hq _ _ _ F3 N3
theorem law10 (g : Nat → Obj) (w : World) {A : Around} {s : Shared} {h₀ : Heap} {L : Addr} {m : Str → Option Value} {x : Str} {t : Tok} {news : List (Addr × Obj)} {Q : Flow → Shared → Prop}
    (S : Std g w h₀) (hA : A.handled = none) (hroom : A.depth < recursionLimit) (F : Fr h₀ L s.heap m) (N : News h₀ L s.heap news)
    (hm : m (Str.ofString "text") = some (.str x t)) (hx : x.length ≤ 65536)
    (hq : ∀ u h' tk, Fr h₀ L h' (fun y => if y = Str.ofString "gone" then some (.int (dp true x.cps.toList) u) else m y) → News h₀ L h' news → Q .next { s with heap := h', toks := tk }) :
    wpAny (model pT w) A (exec (st17 10) (env17 L)) Q (fun _ _ => False) s := by
  cases A
  dsimp only at hA hroom
  subst hA
  have T := S.top
  have G1 := gl_read g w
  have K139 := S.keep _ _ (at139 g w)
  unfold env17
  conv in st17 10 => whnf
  conv in dS 17 => whnf
  repeat' walk1
  refine item_tupleT (l := [_, _]) (by assumption) (by decide) (by decide) rfl rfl ?_
  repeat' walk1
  rename_i h3 F3 N3
  exact hq _ _ _ F3 N3
theorem law11 (g : Nat → Obj) (w : World) {A : Around} {s : Shared} {h₀ : Heap} {L : Addr} {m : Str → Option Value} {x : Str} {t : Tok} {news : List (Addr × Obj)} {Q : Flow → Shared → Prop}
    (S : Std g w h₀) (hA : A.handled = none) (hroom : A.depth < recursionLimit) (F : Fr h₀ L s.heap m) (N : News h₀ L s.heap news)
    (hm : m (Str.ofString "shown") = some (.str x t)) (hx : x.length ≤ 65536)
    (hq : ∀ u h' tk, Fr h₀ L h' (fun y => if y = Str.ofString "both" then some (.int (dp true x.cps.toList) u) else m y) → News h₀ L h' news → Q .next { s with heap := h', toks := tk }) :
    wpAny (model pT w) A (exec (st17 11) (env17 L)) Q (fun _ _ => False) s := by
  cases A
  dsimp only at hA hroom
  subst hA
  have T := S.top
  have G1 := gl_read g w
  have K139 := S.keep _ _ (at139 g w)
  unfold env17
  conv in st17 11 => whnf
  conv in dS 17 => whnf
  repeat' walk1
  refine item_tupleT (l := [_, _]) (by assumption) (by decide) (by decide) rfl rfl ?_
  repeat' walk1
  rename_i h3 F3 N3
  exact hq _ _ _ F3 N3
end Mine

end
/-! ## Walk8j -/
section
open PySem PySem.W PySem.Builtin PySem.Builtin.Re PyProof.Rows
set_option maxRecDepth 100000
set_option maxHeartbeats 8000000
set_option linter.unusedVariables false
namespace Mine
theorem resetWalk8j : True := by
  w_top off
  exact trivial
local macro_rules | `(tactic| walk_at "no such key") => `(tactic| fail)
local macro_rules | `(tactic| walk_at "eval Name") => `(tactic| ((with_reducible show wpAny _ _ (eval (Expr.Name _ _) _) _ _ _); first | (refine nm_local (by assumption) (by assumption) ?_) | (refine nm_global (by assumption) (Top.g (by assumption)) (by assumption) ?_) | (refine nm_builtin (by assumption) (Top.g (by assumption)) (by assumption) (Top.b (by assumption)) (by assumption) ?_)))
local macro_rules | `(tactic| walk_at "storeName") => `(tactic| (with_unfolding_all refine stLocN (by assumption) (by assumption) ?_; intro _ _ _))
local macro_rules | `(tactic| walk_at "callWith ref") => `(tactic| (refine callF (by assumption) (by rfl) ?_))
local macro_rules | `(tactic| walk_at "And") => `(tactic| (refine ⟨Fr.keep (by assumption), ?_⟩))
theorem news_listed {h₀ h h' : Heap} {L O : Addr} {m : Str → Option Value} {news : List (Addr × Obj)} {items : Array Value} (F : Fr h₀ L h m) (N : News h₀ L h news) (k : ∀ b o, h.get? b = some o → h'.get? b = some o) (hl : h'.IsList O items) (hO : h.get? O = none) :
    ∃ o n, News h₀ L h' ((O, o) :: news) ∧ o.cls = .type "list" ∧ o.data = .seq items n := by
  obtain ⟨o, ho, hc, n, hd⟩ := hl
  refine ⟨o, n, fun p hp => ?_, hc, hd⟩
  rcases List.mem_cons.1 hp with rfl | hp
  · refine ⟨ho, ?_, ?_⟩
    · intro e
      have e : O = L := e
      obtain ⟨oL, _, _, hL, _⟩ := F.ns
      rw [← e, hO] at hL
      cases hL
    · cases e : h₀.get? O with
      | none => rfl
      | some o' => rw [F.keep _ _ e] at hO; cases hO
  · exact ⟨k _ _ (N p hp).1, (N p hp).2⟩
local macro_rules | `(tactic| walk_at "call ref") => `(tactic| (refine read_call _ _ (Std.ext (by assumption) (Fr.keep (by assumption))) (by assumption) rfl (by assumption) ?_; intro a2 h2 tk2 k2 f2 R2; obtain ⟨_, O2, vs2, outs2, IT2, IL2, fO2, IA2, ps2, ls2, al2⟩ := R2; obtain ⟨o2, n2, N2, oc2, od2⟩ := news_listed (by assumption) (by assumption) k2 IL2 fO2; have F2 := Fr.after (by assumption) k2))
theorem law8 (g : Nat → Obj) (w : World) {A : Around} {s : Shared} {h₀ : Heap} {L : Addr} {m : Str → Option Value} {x : Str} {t : Tok} {news : List (Addr × Obj)} {Q : Flow → Shared → Prop}
    (S : Std g w h₀) (hA : A.handled = none) (hroom : A.depth < recursionLimit) (F : Fr h₀ L s.heap m) (N : News h₀ L s.heap news)
    (hm : m (Str.ofString "text") = some (.str x t)) (hx : x.length ≤ 65536)
    (hq : ∀ O o vs outs n u h' tk, Fr h₀ L h' (fun y => if y = Str.ofString "outside" then some (.ref O) else if y = Str.ofString "depth" then some (.int (dp false x.cps.toList) u) else m y) → News h₀ L h' ((O, o) :: news) → o.cls = .type "list" → o.data = .seq vs.toArray n → IntsAre vs outs →
      0 < outs.length → outs.length ≤ 65537 → (∀ z ∈ outs, ∃ r, Outs false x.cps.toList r ∧ z = ((x.cps.toList.length - r.length : Nat) : Int)) → Q .next { s with heap := h', toks := tk }) :
    wpAny (model pT w) A (exec (st17 8) (env17 L)) Q (fun _ _ => False) s := by
  cases A
  dsimp only at hA hroom
  subst hA
  have T := S.top
  have G1 := gl_read g w
  have K139 := S.keep _ _ (at139 g w)
  unfold env17
  conv in st17 8 => whnf
  conv in dS 17 => whnf
  repeat' walk1
  rename_i ps ls al o2 n2 N2 oc od F2 h3 F3 N3 h4 F4 N4 h5 F5 N5
  exact hq _ o2 _ _ n2 _ _ _ F5 N5 oc od (by assumption) ps ls al
end Mine

end
/-! ## Walk8k -/
section
open PySem PySem.W PySem.Builtin PySem.Builtin.Re PyProof.Rows
set_option maxRecDepth 100000
set_option maxHeartbeats 8000000
set_option linter.unusedVariables false
namespace Mine
theorem resetWalk8k : True := by
  w_top off
  exact trivial
open PySem.SeqAt
local macro_rules | `(tactic| walk_at "eval Name") => `(tactic| ((with_reducible show wpAny _ _ (eval (Expr.Name _ _) _) _ _ _); first | (refine nm_local (by assumption) (by assumption) ?_) | (refine nm_global (by assumption) (Top.g (by assumption)) (by assumption) ?_) | (refine nm_builtin (by assumption) (Top.g (by assumption)) (by assumption) (Top.b (by assumption)) (by assumption) ?_)))
local macro_rules | `(tactic| walk_at "newList") => `(tactic| (refine newList_N (by assumption) (by assumption) ?_; intro _ _ _))
theorem law12 (g : Nat → Obj) (w : World) {A : Around} {s : Shared} {h₀ : Heap} {L D : Addr} {m : Str → Option Value} {ys : List Value} {n : Nat} {d1 d2 d3 d4 : Int} {u1 u2 u3 u4 : Tok} {news : List (Addr × Obj)} {Q : Flow → Shared → Prop}
    (S : Std g w h₀) (hA : A.handled = none) (hu : A.units + 64 < cLine) (F : Fr h₀ L s.heap m) (N : News h₀ L s.heap news) (hD : (D, { cls := .type "list", data := .seq ys.toArray n }) ∈ news) (hi : IntsAre ys [d1, d2, d3, d3, d4, d4])
    (hm : m (Str.ofString "told") = some (.ref D)) (hm1 : m (Str.ofString "depth") = some (.int d1 u1)) (hm2 : m (Str.ofString "bare") = some (.int d2 u2)) (hm3 : m (Str.ofString "gone") = some (.int d3 u3)) (hm4 : m (Str.ofString "both") = some (.int d4 u4))
    (hq : ∀ h' tk, Fr h₀ L h' m → News h₀ L h' news → Q .next { s with heap := h', toks := tk }) :
    wpAny (model pT w) A (exec (st17 12) (env17 L)) Q (fun _ _ => False) s := by
  cases A
  dsimp only at hA hu
  subst hA
  have T := S.top
  unfold env17
  conv in st17 12 => whnf
  conv in dS 17 => whnf
  repeat' walk1
  rename_i h2 F2 N2
  have hcan : shaped (.list ([d1, d2, d3, d3, d4, d4].map PyData.int)) = true := rfl
  refine ne_dataH (da := .list ([d1, d2, d3, d3, d4, d4].map PyData.int)) (db := .list ([d1, d2, d3, d3, d4, d4].map PyData.int)) (reads_list_at (N2.get (.tail _ hD)) rfl rfl (hi.reads _)) (reads_list_at (N2.get (.head _)) rfl rfl (by repeat constructor)) hcan hcan hu ?_
  rw [eqv_refl _ (canLay_of_shaped hcan)]
  repeat' walk1
  exact hq _ _ F2 N2.tail'
end Mine

end
/-! ## Walk8l -/
section
open PySem PySem.W PySem.Builtin PySem.Builtin.Re PyProof.Rows
set_option maxRecDepth 100000
set_option maxHeartbeats 8000000
set_option linter.unusedVariables false
namespace Mine
theorem resetWalk8l : True := by
  w_top off
  exact trivial
theorem in_list {h₀ h : Heap} {L K : Addr} {o : Obj} {vs : List Value} {n : Nat} {news : List (Addr × Obj)} (N : News h₀ L h news) (hm : (K, o) ∈ news) (hc : o.cls = .type "list") (hd : o.data = .seq vs.toArray n) : h.IsList K vs.toArray := ⟨o, N.get hm, hc, n, hd⟩
local macro_rules | `(tactic| walk_at "eval Name") => `(tactic| ((with_reducible show wpAny _ _ (eval (Expr.Name _ _) _) _ _ _); first | (refine nm_local (by assumption) (by assumption) ?_) | (refine nm_global (by assumption) (Top.g (by assumption)) (by assumption) ?_) | (refine nm_builtin (by assumption) (Top.g (by assumption)) (by assumption) (Top.b (by assumption)) (by assumption) ?_)))
local macro_rules | `(tactic| walk_at "storeName") => `(tactic| (with_unfolding_all refine stLocN (by assumption) (by assumption) ?_; intro _ _ _))
local macro_rules | `(tactic| walk_at "call builtin:sum") => `(tactic| (refine sum_call rfl (in_list (by assumption) (by assumption) rfl rfl) (by assumption) ?_; intro _ h2 tk2 k2; have F2 := Fr.after (by assumption) k2; have N2 := News.keepsAll (by assumption) k2; clear k2))
theorem len_call {prog : Program} {w : World} {A : Around} {E : Value → Shared → Prop} {s : Shared} {l : Addr} {vs : List Value} {ns : List Int} {Q : Value → Shared → Prop} (hl : s.heap.IsList l vs.toArray) (hi : IntsAre vs ns) (hn : ns.length ≤ 65537)
    (h : ∀ t tk, Q (.int ns.length t) { s with toks := tk }) : wpAny (model prog w) A (call (.builtin "len") [.ref l]) Q E s := by
  have e : vs.toArray.size = ns.length := by rw [List.size_toArray, hi.length]
  refine Calls.call_len_list hl (by rw [e]; omega) ?_
  rw [e]
  exact h _ _
local macro_rules | `(tactic| walk_at "call builtin:len") => `(tactic| (refine len_call (in_list (by assumption) (by assumption) (by assumption) (by assumption)) (by assumption) (by assumption) ?_; intro _ _))
theorem law13 (g : Nat → Obj) (w : World) {A : Around} {s : Shared} {h₀ : Heap} {L O K : Addr} {m : Str → Option Value} {o : Obj} {vs ws : List Value} {outs cs : List Int} {n n2 : Nat} {news : List (Addr × Obj)} {Q : Flow → Shared → Prop}
    (S : Std g w h₀) (hA : A.handled = none) (F : Fr h₀ L s.heap m) (N : News h₀ L s.heap news) (hO : (O, o) ∈ news) (hc : o.cls = .type "list") (hd : o.data = .seq vs.toArray n) (hi : IntsAre vs outs) (hpos : 0 < outs.length) (hle : outs.length ≤ 65537)
    (hK : (K, { cls := .type "list", data := .seq ws.toArray n2 }) ∈ news) (hcs : IntsAre ws cs)
    (hm : m (Str.ofString "outside") = some (.ref O)) (hm1 : m (Str.ofString "cells") = some (.ref K))
    (hq : ∀ z u h' tk, z ∈ outs → Fr h₀ L h' (fun y => if y = Str.ofString "cut" then some (.int z u) else m y) → News h₀ L h' news → Q .next { s with heap := h', toks := tk }) :
    wpAny (model pT w) A (exec (st17 13) (env17 L)) Q (fun _ _ => False) s := by
  cases A
  dsimp only at hA
  subst hA
  have T := S.top
  have G1 := no_sum g w
  have G2 := bi_sum g w
  have G3 := no_len g w
  have G4 := bi_len g w
  unfold env17
  conv in st17 13 => whnf
  conv in dS 17 => whnf
  repeat' walk1
  rename_i F2 N2 t3 tk3
  have hp : (0 : Int) < outs.length := by omega
  have b1 := Int.fmod_nonneg_of_pos cs.sum hp
  have b2 := Int.fmod_lt_of_pos cs.sum hp
  refine item_list_intsR (in_list N2 hO hc hd) hi b1 b2 (by omega) ?_
  intro t4
  repeat' walk1
  rename_i h5 F5 N5
  refine hq _ _ _ _ ?_ F5 N5
  rw [List.getD_eq_getElem?_getD]
  have hb : (cs.sum.fmod outs.length).toNat < outs.length := by omega
  rw [List.getElem?_eq_getElem hb]
  exact List.getElem_mem hb
end Mine

end
/-! ## Walk8m -/
section
open PySem PySem.W PySem.Builtin PySem.Builtin.Re PyProof.Rows
set_option maxRecDepth 100000
set_option maxHeartbeats 8000000
set_option linter.unusedVariables false
namespace Mine
theorem resetWalk8m : True := by
  w_top off
  exact trivial
local macro_rules | `(tactic| walk_at "eval Name") => `(tactic| ((with_reducible show wpAny _ _ (eval (Expr.Name _ _) _) _ _ _); first | (refine nm_local (by assumption) (by assumption) ?_) | (refine nm_global (by assumption) (Top.g (by assumption)) (by assumption) ?_) | (refine nm_builtin (by assumption) (Top.g (by assumption)) (by assumption) (Top.b (by assumption)) (by assumption) ?_) | (with_unfolding_all refine ldCN (by assumption) rfl (by assumption) (by assumption) ?_)))
local macro_rules | `(tactic| walk_at "storeName") => `(tactic| (with_unfolding_all refine stLocN (by assumption) (by assumption) ?_; intro _ _ _))
local macro_rules | `(tactic| walk_at "callWith ref") => `(tactic| (refine callF (by assumption) (by rfl) ?_))
local macro_rules | `(tactic| walk_at "And") => `(tactic| (refine ⟨Fr.keep (by assumption), ?_⟩))
local macro_rules | `(tactic| walk_at "getMethod str") => `(tactic| (refine getMethod_encode ?_))
local macro_rules | `(tactic| walk_at "call builtin:str.encode") => `(tactic| (refine encode_call (Ez.a (by assumption)) (Ez.b (by assumption)) ?_; intro _ _))
local macro_rules | `(tactic| walk_at "call ref") => `(tactic| (refine octets_call _ _ (Std.ext (by assumption) (Fr.keep (by assumption))) (by assumption) (by assumption) ?_; intro _ h2 tk2 k2; have F2 := Fr.after (by assumption) k2; have N2 := News.keepsAll (by assumption) k2; clear k2))
local macro_rules | `(tactic| walk_at "subscriptTail Name Slice str ref") => `(tactic| (refine slice_strN_ns (hsz := by assumption) (s := ⟨_, _, _, _, _⟩) (by assumption) (by assumption) ?_; intro _ _ _ _ _))
local macro_rules | `(tactic| walk_at "subscriptTail Name Slice str ref") => `(tactic| (refine slice_strN_sn (hsz := by assumption) (s := ⟨_, _, _, _, _⟩) (by assumption) (by assumption) ?_; intro _ _ _ _ _))
theorem law14 (g : Nat → Obj) (w : World) {A : Around} {s : Shared} {h₀ : Heap} {L : Addr} {m : Str → Option Value} {o : Obj} {x : Str} {t : Tok} {z k : Int} {u u2 : Tok} {news : List (Addr × Obj)} {Q : Flow → Shared → Prop}
    (S : Std g w h₀) (hA : A.handled = none) (hroom : A.depth < recursionLimit) (F : Fr h₀ L s.heap m) (N : News h₀ L s.heap news) (hC : (L + 1, o) ∈ news) (ho : o.data = .cell (some (.int k u)))
    (hm : m (Str.ofString "text") = some (.str x t)) (hm1 : m (Str.ofString "cut") = some (.int z u2)) (hx : x.length ≤ sizeLine) (hE : Ez (Txt.slice x none (some z)))
    (hq : ∀ u h' tk, Fr h₀ L h' (fun y => if y = Str.ofString "first" then some (.int (k + dp false (Txt.slice x none (some z)).cps.toList) u) else m y) → News h₀ L h' news → Q .next { s with heap := h', toks := tk }) :
    wpAny (model pT w) A (exec (st17 14) (env17 L)) Q (fun _ _ => False) s := by
  cases A
  dsimp only at hA hroom
  subst hA
  have T := S.top
  have G1 := gl_depth g w
  have K44 := S.keep _ _ (at44 g w)
  unfold env17
  conv in st17 14 => whnf
  conv in dS 17 => whnf
  repeat' walk1
  rename_i h5 F5 N5
  exact hq _ _ _ F5 N5
theorem law15 (g : Nat → Obj) (w : World) {A : Around} {s : Shared} {h₀ : Heap} {L : Addr} {m : Str → Option Value} {o : Obj} {x : Str} {t : Tok} {z k f d : Int} {u u2 u3 u4 : Tok} {news : List (Addr × Obj)} {Q : Flow → Shared → Prop}
    (S : Std g w h₀) (hA : A.handled = none) (hroom : A.depth < recursionLimit) (F : Fr h₀ L s.heap m) (N : News h₀ L s.heap news) (hC : (L + 1, o) ∈ news) (ho : o.data = .cell (some (.int k u)))
    (hm : m (Str.ofString "text") = some (.str x t)) (hm1 : m (Str.ofString "cut") = some (.int z u2)) (hm2 : m (Str.ofString "first") = some (.int f u3)) (hm3 : m (Str.ofString "depth") = some (.int d u4)) (hx : x.length ≤ sizeLine) (hE : Ez (Txt.slice x (some z) none))
    (hq : ∀ h' tk, (∀ b o, h₀.get? b = some o → h'.get? b = some o) → Q (.ret (.bool (f + dp false (Txt.slice x (some z) none).cps.toList == k + d))) { s with heap := h', toks := tk }) :
    wpAny (model pT w) A (exec (st17 15) (env17 L)) Q (fun _ _ => False) s := by
  cases A
  dsimp only at hA hroom
  subst hA
  have T := S.top
  have G1 := gl_depth g w
  have K44 := S.keep _ _ (at44 g w)
  unfold env17
  conv in st17 15 => whnf
  conv in dS 17 => whnf
  repeat' walk1
  rename_i F5 N5
  exact hq _ _ F5.keep
end Mine

end
/-! ## Walk9 -/
section
open PySem PySem.W PySem.Builtin PySem.Builtin.Re PyProof.Rows
set_option maxRecDepth 100000
set_option maxHeartbeats 8000000
set_option linter.unusedVariables false
namespace Mine
theorem dB17_eq : dB 17 = [st17 0, st17 1, st17 2, st17 3, st17 4, st17 5, st17 6, st17 7, st17 8, st17 9, st17 10, st17 11, st17 12, st17 13, st17 14, st17 15] := rfl
/-- what the plain law gives for the walk -/
structure LawFacts (ns : List Int) : Prop where
  cells : ∀ i ∈ cellsOf ns, 0 ≤ i ∧ i < 1000000
  len : (cellsOf ns).length ≤ 20
  sum1 : (((cellsOf ns).map pieceS).map (·.length)).sum ≤ 16777216
  sum2 : ((((cellsOf ns).filter fun i => i.fmod 12 != 7).map pieceS).map (·.length)).sum ≤ 16777216
  sz1 : Sz (textOf (cellsOf ns))
  sz2 : Sz (sendS (textOf (cellsOf ns)))
  sz3 : Sz (sendS (sendS (textOf (cellsOf ns))))
  sz4 : Sz (prepS (textOf (cellsOf ns)))
  pz1 : Pz (textOf (cellsOf ns))
  pz2 : Pz (sendS (textOf (cellsOf ns)))
  small1 : (textOf (cellsOf ns)).length ≤ 65536
  small2 : (textOf ((cellsOf ns).filter fun i => i.fmod 12 != 7)).length ≤ 65536
  ez : ∀ x ∈ [textOf (cellsOf ns), prepS (textOf (cellsOf ns)), sendS (textOf (cellsOf ns)), sendS (sendS (sendS (textOf (cellsOf ns)))), sendS (prepS (textOf (cellsOf ns))), prepS (sendS (textOf (cellsOf ns)))], Ez x
  told : ([textOf (cellsOf ns), prepS (textOf (cellsOf ns)), sendS (textOf (cellsOf ns)), sendS (sendS (sendS (textOf (cellsOf ns)))), sendS (prepS (textOf (cellsOf ns))), prepS (sendS (textOf (cellsOf ns)))].map fun x => dp false x.cps.toList) =
    [dp false (textOf (cellsOf ns)).cps.toList, dp false (textOf ((cellsOf ns).filter fun i => i.fmod 12 != 7)).cps.toList, dp true (textOf (cellsOf ns)).cps.toList, dp true (textOf (cellsOf ns)).cps.toList,
      dp true (textOf ((cellsOf ns).filter fun i => i.fmod 12 != 7)).cps.toList, dp true (textOf ((cellsOf ns).filter fun i => i.fmod 12 != 7)).cps.toList]
  cut : ∀ (z : Int) (r : List Nat), Outs false (textOf (cellsOf ns)).cps.toList r → z = (((textOf (cellsOf ns)).cps.toList.length - r.length : Nat) : Int) →
    Ez (Txt.slice (textOf (cellsOf ns)) none (some z)) ∧ Ez (Txt.slice (textOf (cellsOf ns)) (some z) none) ∧
    dp false (Txt.slice (textOf (cellsOf ns)) none (some z)).cps.toList + dp false (Txt.slice (textOf (cellsOf ns)) (some z) none).cps.toList = dp false (textOf (cellsOf ns)).cps.toList
/-- entering law: one cell -/
theorem enter_law {g : Nat → Obj} {w : World} {A : Around} {E : Value → Shared → Prop} {s : Shared} {a : Addr} {Q : Value → Shared → Prop}
    (S : Std g w s.heap) (hroom : A.depth < recursionLimit)
    (h : ∀ h₁ tk o, Fr s.heap s.heap.objs.size h₁ (fun y => if y = Str.ofString "script" then some (.ref a) else none) → News s.heap s.heap.objs.size h₁ [(s.heap.objs.size + 1, o)] → o.data = .cell none →
      wpAny (model pT w) (A.deeper (env17 s.heap.objs.size)) (execs (dB 17) (env17 s.heap.objs.size)) (fun f s' => Q (match f with | .ret v => v | _ => .none) s') (fun _ _ => False) { s with heap := h₁, toks := tk }) :
    wpAny (model pT w) A (PySem.call (.ref 151) [.ref a]) Q E s := by
  have hcd : (sT g w).heap.CodeRec (.ref 150) (Str.ofString "law") := ⟨150, _, _, _, rfl, at150 g w, rfl, rfl⟩
  refine wpAny_call (codeAny_call_cells (a := 151) (binds := [(Str.ofString "script", .ref a)]) hroom (S.keep _ _ (at151 g w)) rfl S.top.nolimit (hcd.keeps S.keep) rfl (by rfl) rfl ?_ ?_)
  · intro x hx
    rw [List.mem_singleton] at hx
    subst hx
    exact .inl rfl
  · intro s₁ X
    obtain ⟨h₁, tk, rfl, hk⟩ := X.done
    obtain ⟨o, ho, hd⟩ := X.cell (Str.ofString "begun") (s.heap.objs.size + 1) rfl
    refine wpAny_mono (h h₁ tk o ⟨X.toInCall.ns, X.toInCall.keep, X.toInCall.fresh⟩ ?_ hd) (fun _ _ x => x) fun _ _ x => x.elim
    intro p hp
    rw [List.mem_singleton] at hp
    subst hp
    exact ⟨ho, Nat.succ_ne_self _, Heap.get?_none_of_le (Nat.le_succ _)⟩
end Mine

end
/-! ## Walk9b -/
section
open PySem PySem.W PySem.Builtin PySem.Builtin.Re PyProof.Rows
set_option maxRecDepth 100000
set_option maxHeartbeats 8000000
set_option linter.unusedVariables false
namespace Mine
theorem ints_not_strs {ws : List Value} {cs : List Int} (h : IntsAre ws cs) (x : Str) (t : Tok) (l : List Value) : ws.toArray ≠ (Value.str x t :: l).toArray := by
  intro e
  have e : ws = Value.str x t :: l := by simpa using e
  subst e
  cases h
theorem law_walk (g : Nat → Obj) (w : World) (hb : B3 (g 80)) {A : Around} {E : Value → Shared → Prop} {s : Shared} {a : Addr} {vs : List Value} {ns : List Int} {Q : Value → Shared → Prop}
    (S : Std g w s.heap) (hroom : A.depth + 2 < recursionLimit) (hA : A.handled = none) (hu : ∀ env, (A.deeper env).units + 64 < cLine) (ha : s.heap.IsList a vs.toArray) (hi : IntsAre vs ns) (hns : ns.length ≤ 63) (X : LawFacts ns)
    (hq : ∀ h' tk, (∀ b o, s.heap.get? b = some o → h'.get? b = some o) → Q (.bool true) { s with heap := h', toks := tk }) :
    wpAny (model pT w) A (PySem.call (.ref 151) [.ref a]) Q E s := by
  have B : B3At w s.heap := (b3_at g w hb).ext S.keep
  have hsz : vs.toArray.size ≤ sizeLine := by
    have : 100 ≤ sizeLine := by decide +kernel
    rw [List.size_toArray, hi.length]; omega
  have hln : 65536 ≤ sizeLine := by decide +kernel
  have small1 : (textOf (cellsOf ns)).length ≤ sizeLine := Nat.le_trans X.small1 hln
  refine enter_law S (by omega) fun h₁ tk₁ o F N ho => ?_
  have hA' : (A.deeper (env17 s.heap.objs.size)).handled = none := by
    cases A; exact hA
  have hd : (A.deeper (env17 s.heap.objs.size)).depth + 1 < recursionLimit := by
    cases A; exact hroom
  have hd0 : (A.deeper (env17 s.heap.objs.size)).depth < recursionLimit := Nat.lt_of_succ_lt hd
  have hu' := hu (env17 s.heap.objs.size)
  generalize hAA : A.deeper (env17 s.heap.objs.size) = A' at hA' hd hd0 hu'
  clear hAA hu hA hroom
  generalize hL : s.heap.objs.size = L at F N
  rw [dB17_eq]
  have m_script : (fun y => if y = Str.ofString "script" then some (Value.ref a) else none) (Str.ofString "script") = some (.ref a) := if_pos rfl
  generalize hM : (fun y => if y = Str.ofString "script" then some (Value.ref a) else none) = M at F m_script
  clear hM
  -- statement 0
  refine wpAny_execs_cons (law0 g w S hA' F N ha hi m_script hsz ?_)
  clear F N
  intro K ws h0 tk0 F N hcs
  show wpAny _ _ (execs _ _) _ _ { s with heap := h0, toks := tk0 }
  replace m_script : (fun y => if y = Str.ofString "cells" then some (Value.ref K) else M y) (Str.ofString "script") = some (.ref a) := (if_neg (by decide)).trans m_script
  have m_cells : (fun y => if y = Str.ofString "cells" then some (Value.ref K) else M y) (Str.ofString "cells") = some (Value.ref K) := if_pos rfl
  generalize hM : (fun y => if y = Str.ofString "cells" then some (Value.ref K) else M y) = M0 at F m_script m_cells
  clear hM
  -- statement 1
  refine wpAny_execs_cons (law1 g w S hA' hd0 F N (News.isList N (.head _)) hcs m_cells X.cells X.len X.sum1 ?_)
  clear F N
  intro u1 h1 tk1 F N
  show wpAny _ _ (execs _ _) _ _ { s with heap := h1, toks := tk1 }
  replace m_script : (fun y => if y = Str.ofString "text" then some (Value.str (textOf (cellsOf ns)) u1) else M0 y) (Str.ofString "script") = some (.ref a) := (if_neg (by decide)).trans m_script
  replace m_cells : (fun y => if y = Str.ofString "text" then some (Value.str (textOf (cellsOf ns)) u1) else M0 y) (Str.ofString "cells") = some (Value.ref K) := (if_neg (by decide)).trans m_cells
  have m_text : (fun y => if y = Str.ofString "text" then some (Value.str (textOf (cellsOf ns)) u1) else M0 y) (Str.ofString "text") = some (Value.str (textOf (cellsOf ns)) u1) := if_pos rfl
  generalize hM : (fun y => if y = Str.ofString "text" then some (Value.str (textOf (cellsOf ns)) u1) else M0 y) = M1 at F m_script m_cells m_text
  clear hM
  -- statement 2
  refine wpAny_execs_cons (law2 g w S hA' hd0 F N (News.isList N (.head _)) hcs m_cells X.cells X.len X.sum2 ?_)
  clear F N
  intro u2 h2 tk2 F N
  show wpAny _ _ (execs _ _) _ _ { s with heap := h2, toks := tk2 }
  replace m_script : (fun y => if y = Str.ofString "shown" then some (Value.str (textOf ((cellsOf ns).filter fun i => i.fmod 12 != 7)) u2) else M1 y) (Str.ofString "script") = some (.ref a) := (if_neg (by decide)).trans m_script
  replace m_cells : (fun y => if y = Str.ofString "shown" then some (Value.str (textOf ((cellsOf ns).filter fun i => i.fmod 12 != 7)) u2) else M1 y) (Str.ofString "cells") = some (Value.ref K) := (if_neg (by decide)).trans m_cells
  replace m_text : (fun y => if y = Str.ofString "shown" then some (Value.str (textOf ((cellsOf ns).filter fun i => i.fmod 12 != 7)) u2) else M1 y) (Str.ofString "text") = some (Value.str (textOf (cellsOf ns)) u1) := (if_neg (by decide)).trans m_text
  have m_shown : (fun y => if y = Str.ofString "shown" then some (Value.str (textOf ((cellsOf ns).filter fun i => i.fmod 12 != 7)) u2) else M1 y) (Str.ofString "shown") = some (Value.str (textOf ((cellsOf ns).filter fun i => i.fmod 12 != 7)) u2) := if_pos rfl
  generalize hM : (fun y => if y = Str.ofString "shown" then some (Value.str (textOf ((cellsOf ns).filter fun i => i.fmod 12 != 7)) u2) else M1 y) = M2 at F m_script m_cells m_text m_shown
  clear hM
  -- statement 3
  refine wpAny_execs_cons (law3 g w S hA' hd F N m_text X.sz1 ?_)
  clear F N
  intro u3 h3 tk3 F N
  show wpAny _ _ (execs _ _) _ _ { s with heap := h3, toks := tk3 }
  replace m_script : (fun y => if y = Str.ofString "sent" then some (Value.str (sendS (textOf (cellsOf ns))) u3) else M2 y) (Str.ofString "script") = some (.ref a) := (if_neg (by decide)).trans m_script
  replace m_cells : (fun y => if y = Str.ofString "sent" then some (Value.str (sendS (textOf (cellsOf ns))) u3) else M2 y) (Str.ofString "cells") = some (Value.ref K) := (if_neg (by decide)).trans m_cells
  replace m_text : (fun y => if y = Str.ofString "sent" then some (Value.str (sendS (textOf (cellsOf ns))) u3) else M2 y) (Str.ofString "text") = some (Value.str (textOf (cellsOf ns)) u1) := (if_neg (by decide)).trans m_text
  replace m_shown : (fun y => if y = Str.ofString "sent" then some (Value.str (sendS (textOf (cellsOf ns))) u3) else M2 y) (Str.ofString "shown") = some (Value.str (textOf ((cellsOf ns).filter fun i => i.fmod 12 != 7)) u2) := (if_neg (by decide)).trans m_shown
  have m_sent : (fun y => if y = Str.ofString "sent" then some (Value.str (sendS (textOf (cellsOf ns))) u3) else M2 y) (Str.ofString "sent") = some (Value.str (sendS (textOf (cellsOf ns))) u3) := if_pos rfl
  generalize hM : (fun y => if y = Str.ofString "sent" then some (Value.str (sendS (textOf (cellsOf ns))) u3) else M2 y) = M3 at F m_script m_cells m_text m_shown m_sent
  clear hM
  -- statement 4
  refine wpAny_execs_cons (law4 g w S B hA' hd F N m_text m_sent X.pz1 X.sz2 X.sz3 ?_)
  clear F N
  intro KT u4 u4b h4 tk4 F N
  show wpAny _ _ (execs _ _) _ _ { s with heap := h4, toks := tk4 }
  replace m_script : (fun y => if y = Str.ofString "texts" then some (Value.ref KT) else M3 y) (Str.ofString "script") = some (.ref a) := (if_neg (by decide)).trans m_script
  replace m_cells : (fun y => if y = Str.ofString "texts" then some (Value.ref KT) else M3 y) (Str.ofString "cells") = some (Value.ref K) := (if_neg (by decide)).trans m_cells
  replace m_text : (fun y => if y = Str.ofString "texts" then some (Value.ref KT) else M3 y) (Str.ofString "text") = some (Value.str (textOf (cellsOf ns)) u1) := (if_neg (by decide)).trans m_text
  replace m_shown : (fun y => if y = Str.ofString "texts" then some (Value.ref KT) else M3 y) (Str.ofString "shown") = some (Value.str (textOf ((cellsOf ns).filter fun i => i.fmod 12 != 7)) u2) := (if_neg (by decide)).trans m_shown
  replace m_sent : (fun y => if y = Str.ofString "texts" then some (Value.ref KT) else M3 y) (Str.ofString "sent") = some (Value.str (sendS (textOf (cellsOf ns))) u3) := (if_neg (by decide)).trans m_sent
  have m_texts : (fun y => if y = Str.ofString "texts" then some (Value.ref KT) else M3 y) (Str.ofString "texts") = some (Value.ref KT) := if_pos rfl
  generalize hM : (fun y => if y = Str.ofString "texts" then some (Value.ref KT) else M3 y) = M4 at F m_script m_cells m_text m_shown m_sent m_texts
  clear hM
  have hap : ∀ p ∈ [(K, ({ cls := .type "list", data := .seq ws.toArray } : Obj)), (L + 1, o)], p.1 ≠ KT := by
    intro p hp
    rcases List.mem_cons.1 hp with rfl | hp
    · refine News.twoPlaces N (.tail _ (.head _)) (.head _) ?_
      intro e
      injection e with _ _ e
      injection e with e
      exact ints_not_strs hcs _ _ _ e
    · rw [List.mem_singleton] at hp
      subst hp
      refine News.twoPlaces N (.tail _ (.tail _ (.head _))) (.head _) ?_
      intro e
      have e := congrArg Obj.data e
      rw [ho] at e
      cases e
  -- statement 5
  refine wpAny_execs_cons (law5 g w S B hA' hd F N hap (by simp) m_text m_sent m_texts X.pz1 X.pz2 X.sz4 ?_)
  clear F N
  intro u5 u5b n5 h5 tk5 F N
  show wpAny _ _ (execs _ _) _ _ { s with heap := h5, toks := tk5 }
  replace m_script : (fun y => if y = Str.ofString "texts" then some (Value.ref KT) else M4 y) (Str.ofString "script") = some (.ref a) := (if_neg (by decide)).trans m_script
  replace m_cells : (fun y => if y = Str.ofString "texts" then some (Value.ref KT) else M4 y) (Str.ofString "cells") = some (Value.ref K) := (if_neg (by decide)).trans m_cells
  replace m_text : (fun y => if y = Str.ofString "texts" then some (Value.ref KT) else M4 y) (Str.ofString "text") = some (Value.str (textOf (cellsOf ns)) u1) := (if_neg (by decide)).trans m_text
  replace m_shown : (fun y => if y = Str.ofString "texts" then some (Value.ref KT) else M4 y) (Str.ofString "shown") = some (Value.str (textOf ((cellsOf ns).filter fun i => i.fmod 12 != 7)) u2) := (if_neg (by decide)).trans m_shown
  replace m_sent : (fun y => if y = Str.ofString "texts" then some (Value.ref KT) else M4 y) (Str.ofString "sent") = some (Value.str (sendS (textOf (cellsOf ns))) u3) := (if_neg (by decide)).trans m_sent
  clear m_texts
  have m_texts : (fun y => if y = Str.ofString "texts" then some (Value.ref KT) else M4 y) (Str.ofString "texts") = some (Value.ref KT) := if_pos rfl
  generalize hM : (fun y => if y = Str.ofString "texts" then some (Value.ref KT) else M4 y) = M5 at F m_script m_cells m_text m_shown m_sent m_texts
  clear hM
  have hc1 : ∀ p ∈ [(KT, ({ cls := .type "list", data := .seq [.str (textOf (cellsOf ns)) u1, .str (prepS (textOf (cellsOf ns))) u4, .str (sendS (textOf (cellsOf ns))) u3, .str (sendS (sendS (sendS (textOf (cellsOf ns))))) u4b, .str (sendS (prepS (textOf (cellsOf ns)))) u5, .str (prepS (sendS (textOf (cellsOf ns)))) u5b].toArray n5 } : Obj)), (K, ({ cls := .type "list", data := .seq ws.toArray } : Obj))], p.1 ≠ L + 1 := by
    intro p hp
    rcases List.mem_cons.1 hp with rfl | hp
    · refine News.twoPlaces N (.head _) (.tail _ (.tail _ (.head _))) ?_
      intro e
      have e := congrArg Obj.data e
      rw [ho] at e
      cases e
    · rw [List.mem_singleton] at hp
      subst hp
      refine News.twoPlaces N (.tail _ (.head _)) (.tail _ (.tail _ (.head _))) ?_
      intro e
      have e := congrArg Obj.data e
      rw [ho] at e
      cases e
  -- statement 6
  refine wpAny_execs_cons (law6 g w (own := [_, _]) (rest := []) S hA' F N ho hc1 (fun p hp => nomatch hp) ha hi m_script ?_)
  clear F N
  intro o6 u6 h6 tk6 F N ho6
  show wpAny _ _ (execs _ _) _ _ { s with heap := h6, toks := tk6 }
  -- statement 7
  refine wpAny_execs_cons (law7 g w (own := [_, _]) (rest := []) (xs := [(textOf (cellsOf ns)), prepS (textOf (cellsOf ns)), sendS (textOf (cellsOf ns)), sendS (sendS (sendS (textOf (cellsOf ns)))), sendS (prepS (textOf (cellsOf ns))), prepS (sendS (textOf (cellsOf ns)))]) S hA' hd0 F N ho6 (News.isList N (.head _)) (by repeat constructor) m_texts X.ez (by simp) ?_)
  clear F N
  intro D ys h7 tk7 n7 F N hys
  show wpAny _ _ (execs _ _) _ _ { s with heap := h7, toks := tk7 }
  replace m_script : (fun y => if y = Str.ofString "told" then some (Value.ref D) else M5 y) (Str.ofString "script") = some (.ref a) := (if_neg (by decide)).trans m_script
  replace m_cells : (fun y => if y = Str.ofString "told" then some (Value.ref D) else M5 y) (Str.ofString "cells") = some (Value.ref K) := (if_neg (by decide)).trans m_cells
  replace m_text : (fun y => if y = Str.ofString "told" then some (Value.ref D) else M5 y) (Str.ofString "text") = some (Value.str (textOf (cellsOf ns)) u1) := (if_neg (by decide)).trans m_text
  replace m_shown : (fun y => if y = Str.ofString "told" then some (Value.ref D) else M5 y) (Str.ofString "shown") = some (Value.str (textOf ((cellsOf ns).filter fun i => i.fmod 12 != 7)) u2) := (if_neg (by decide)).trans m_shown
  replace m_sent : (fun y => if y = Str.ofString "told" then some (Value.ref D) else M5 y) (Str.ofString "sent") = some (Value.str (sendS (textOf (cellsOf ns))) u3) := (if_neg (by decide)).trans m_sent
  replace m_texts : (fun y => if y = Str.ofString "told" then some (Value.ref D) else M5 y) (Str.ofString "texts") = some (Value.ref KT) := (if_neg (by decide)).trans m_texts
  have m_told : (fun y => if y = Str.ofString "told" then some (Value.ref D) else M5 y) (Str.ofString "told") = some (Value.ref D) := if_pos rfl
  generalize hM : (fun y => if y = Str.ofString "told" then some (Value.ref D) else M5 y) = M7 at F m_script m_cells m_text m_shown m_sent m_texts m_told
  clear hM
  rw [X.told] at hys
  -- statement 8
  refine wpAny_execs_cons (law8 g w S hA' hd0 F N m_text X.small1 ?_)
  clear F N
  intro O o8 os outs n8 u8 h8 tk8 F N hc8 hd8 hi8 hpos hle hall
  show wpAny _ _ (execs _ _) _ _ { s with heap := h8, toks := tk8 }
  replace m_script : (fun y => if y = Str.ofString "outside" then some (Value.ref O) else if y = Str.ofString "depth" then some (Value.int (dp false (textOf (cellsOf ns)).cps.toList) u8) else M7 y) (Str.ofString "script") = some (.ref a) := (if_neg (by decide)).trans ((if_neg (by decide)).trans m_script)
  replace m_cells : (fun y => if y = Str.ofString "outside" then some (Value.ref O) else if y = Str.ofString "depth" then some (Value.int (dp false (textOf (cellsOf ns)).cps.toList) u8) else M7 y) (Str.ofString "cells") = some (Value.ref K) := (if_neg (by decide)).trans ((if_neg (by decide)).trans m_cells)
  replace m_text : (fun y => if y = Str.ofString "outside" then some (Value.ref O) else if y = Str.ofString "depth" then some (Value.int (dp false (textOf (cellsOf ns)).cps.toList) u8) else M7 y) (Str.ofString "text") = some (Value.str (textOf (cellsOf ns)) u1) := (if_neg (by decide)).trans ((if_neg (by decide)).trans m_text)
  replace m_shown : (fun y => if y = Str.ofString "outside" then some (Value.ref O) else if y = Str.ofString "depth" then some (Value.int (dp false (textOf (cellsOf ns)).cps.toList) u8) else M7 y) (Str.ofString "shown") = some (Value.str (textOf ((cellsOf ns).filter fun i => i.fmod 12 != 7)) u2) := (if_neg (by decide)).trans ((if_neg (by decide)).trans m_shown)
  replace m_sent : (fun y => if y = Str.ofString "outside" then some (Value.ref O) else if y = Str.ofString "depth" then some (Value.int (dp false (textOf (cellsOf ns)).cps.toList) u8) else M7 y) (Str.ofString "sent") = some (Value.str (sendS (textOf (cellsOf ns))) u3) := (if_neg (by decide)).trans ((if_neg (by decide)).trans m_sent)
  replace m_texts : (fun y => if y = Str.ofString "outside" then some (Value.ref O) else if y = Str.ofString "depth" then some (Value.int (dp false (textOf (cellsOf ns)).cps.toList) u8) else M7 y) (Str.ofString "texts") = some (Value.ref KT) := (if_neg (by decide)).trans ((if_neg (by decide)).trans m_texts)
  replace m_told : (fun y => if y = Str.ofString "outside" then some (Value.ref O) else if y = Str.ofString "depth" then some (Value.int (dp false (textOf (cellsOf ns)).cps.toList) u8) else M7 y) (Str.ofString "told") = some (Value.ref D) := (if_neg (by decide)).trans ((if_neg (by decide)).trans m_told)
  have m_outside : (fun y => if y = Str.ofString "outside" then some (Value.ref O) else if y = Str.ofString "depth" then some (Value.int (dp false (textOf (cellsOf ns)).cps.toList) u8) else M7 y) (Str.ofString "outside") = some (Value.ref O) := if_pos rfl
  have m_depth : (fun y => if y = Str.ofString "outside" then some (Value.ref O) else if y = Str.ofString "depth" then some (Value.int (dp false (textOf (cellsOf ns)).cps.toList) u8) else M7 y) (Str.ofString "depth") = some (Value.int (dp false (textOf (cellsOf ns)).cps.toList) u8) := (if_neg (by decide)).trans (if_pos rfl)
  generalize hM : (fun y => if y = Str.ofString "outside" then some (Value.ref O) else if y = Str.ofString "depth" then some (Value.int (dp false (textOf (cellsOf ns)).cps.toList) u8) else M7 y) = M8 at F m_script m_cells m_text m_shown m_sent m_texts m_told m_outside m_depth
  clear hM
  -- statement 9
  refine wpAny_execs_cons (law9 g w S hA' hd0 F N m_shown X.small2 ?_)
  clear F N
  intro u9 h9 tk9 F N
  show wpAny _ _ (execs _ _) _ _ { s with heap := h9, toks := tk9 }
  replace m_script : (fun y => if y = Str.ofString "bare" then some (Value.int (dp false (textOf ((cellsOf ns).filter fun i => i.fmod 12 != 7)).cps.toList) u9) else M8 y) (Str.ofString "script") = some (.ref a) := (if_neg (by decide)).trans m_script
  replace m_cells : (fun y => if y = Str.ofString "bare" then some (Value.int (dp false (textOf ((cellsOf ns).filter fun i => i.fmod 12 != 7)).cps.toList) u9) else M8 y) (Str.ofString "cells") = some (Value.ref K) := (if_neg (by decide)).trans m_cells
  replace m_text : (fun y => if y = Str.ofString "bare" then some (Value.int (dp false (textOf ((cellsOf ns).filter fun i => i.fmod 12 != 7)).cps.toList) u9) else M8 y) (Str.ofString "text") = some (Value.str (textOf (cellsOf ns)) u1) := (if_neg (by decide)).trans m_text
  replace m_shown : (fun y => if y = Str.ofString "bare" then some (Value.int (dp false (textOf ((cellsOf ns).filter fun i => i.fmod 12 != 7)).cps.toList) u9) else M8 y) (Str.ofString "shown") = some (Value.str (textOf ((cellsOf ns).filter fun i => i.fmod 12 != 7)) u2) := (if_neg (by decide)).trans m_shown
  replace m_sent : (fun y => if y = Str.ofString "bare" then some (Value.int (dp false (textOf ((cellsOf ns).filter fun i => i.fmod 12 != 7)).cps.toList) u9) else M8 y) (Str.ofString "sent") = some (Value.str (sendS (textOf (cellsOf ns))) u3) := (if_neg (by decide)).trans m_sent
  replace m_texts : (fun y => if y = Str.ofString "bare" then some (Value.int (dp false (textOf ((cellsOf ns).filter fun i => i.fmod 12 != 7)).cps.toList) u9) else M8 y) (Str.ofString "texts") = some (Value.ref KT) := (if_neg (by decide)).trans m_texts
  replace m_told : (fun y => if y = Str.ofString "bare" then some (Value.int (dp false (textOf ((cellsOf ns).filter fun i => i.fmod 12 != 7)).cps.toList) u9) else M8 y) (Str.ofString "told") = some (Value.ref D) := (if_neg (by decide)).trans m_told
  replace m_outside : (fun y => if y = Str.ofString "bare" then some (Value.int (dp false (textOf ((cellsOf ns).filter fun i => i.fmod 12 != 7)).cps.toList) u9) else M8 y) (Str.ofString "outside") = some (Value.ref O) := (if_neg (by decide)).trans m_outside
  replace m_depth : (fun y => if y = Str.ofString "bare" then some (Value.int (dp false (textOf ((cellsOf ns).filter fun i => i.fmod 12 != 7)).cps.toList) u9) else M8 y) (Str.ofString "depth") = some (Value.int (dp false (textOf (cellsOf ns)).cps.toList) u8) := (if_neg (by decide)).trans m_depth
  have m_bare : (fun y => if y = Str.ofString "bare" then some (Value.int (dp false (textOf ((cellsOf ns).filter fun i => i.fmod 12 != 7)).cps.toList) u9) else M8 y) (Str.ofString "bare") = some (Value.int (dp false (textOf ((cellsOf ns).filter fun i => i.fmod 12 != 7)).cps.toList) u9) := if_pos rfl
  generalize hM : (fun y => if y = Str.ofString "bare" then some (Value.int (dp false (textOf ((cellsOf ns).filter fun i => i.fmod 12 != 7)).cps.toList) u9) else M8 y) = M9 at F m_script m_cells m_text m_shown m_sent m_texts m_told m_outside m_depth m_bare
  clear hM
  -- statement 10
  refine wpAny_execs_cons (law10 g w S hA' hd0 F N m_text X.small1 ?_)
  clear F N
  intro u10 h10 tk10 F N
  show wpAny _ _ (execs _ _) _ _ { s with heap := h10, toks := tk10 }
  replace m_script : (fun y => if y = Str.ofString "gone" then some (Value.int (dp true (textOf (cellsOf ns)).cps.toList) u10) else M9 y) (Str.ofString "script") = some (.ref a) := (if_neg (by decide)).trans m_script
  replace m_cells : (fun y => if y = Str.ofString "gone" then some (Value.int (dp true (textOf (cellsOf ns)).cps.toList) u10) else M9 y) (Str.ofString "cells") = some (Value.ref K) := (if_neg (by decide)).trans m_cells
  replace m_text : (fun y => if y = Str.ofString "gone" then some (Value.int (dp true (textOf (cellsOf ns)).cps.toList) u10) else M9 y) (Str.ofString "text") = some (Value.str (textOf (cellsOf ns)) u1) := (if_neg (by decide)).trans m_text
  replace m_shown : (fun y => if y = Str.ofString "gone" then some (Value.int (dp true (textOf (cellsOf ns)).cps.toList) u10) else M9 y) (Str.ofString "shown") = some (Value.str (textOf ((cellsOf ns).filter fun i => i.fmod 12 != 7)) u2) := (if_neg (by decide)).trans m_shown
  replace m_sent : (fun y => if y = Str.ofString "gone" then some (Value.int (dp true (textOf (cellsOf ns)).cps.toList) u10) else M9 y) (Str.ofString "sent") = some (Value.str (sendS (textOf (cellsOf ns))) u3) := (if_neg (by decide)).trans m_sent
  replace m_texts : (fun y => if y = Str.ofString "gone" then some (Value.int (dp true (textOf (cellsOf ns)).cps.toList) u10) else M9 y) (Str.ofString "texts") = some (Value.ref KT) := (if_neg (by decide)).trans m_texts
  replace m_told : (fun y => if y = Str.ofString "gone" then some (Value.int (dp true (textOf (cellsOf ns)).cps.toList) u10) else M9 y) (Str.ofString "told") = some (Value.ref D) := (if_neg (by decide)).trans m_told
  replace m_outside : (fun y => if y = Str.ofString "gone" then some (Value.int (dp true (textOf (cellsOf ns)).cps.toList) u10) else M9 y) (Str.ofString "outside") = some (Value.ref O) := (if_neg (by decide)).trans m_outside
  replace m_depth : (fun y => if y = Str.ofString "gone" then some (Value.int (dp true (textOf (cellsOf ns)).cps.toList) u10) else M9 y) (Str.ofString "depth") = some (Value.int (dp false (textOf (cellsOf ns)).cps.toList) u8) := (if_neg (by decide)).trans m_depth
  replace m_bare : (fun y => if y = Str.ofString "gone" then some (Value.int (dp true (textOf (cellsOf ns)).cps.toList) u10) else M9 y) (Str.ofString "bare") = some (Value.int (dp false (textOf ((cellsOf ns).filter fun i => i.fmod 12 != 7)).cps.toList) u9) := (if_neg (by decide)).trans m_bare
  have m_gone : (fun y => if y = Str.ofString "gone" then some (Value.int (dp true (textOf (cellsOf ns)).cps.toList) u10) else M9 y) (Str.ofString "gone") = some (Value.int (dp true (textOf (cellsOf ns)).cps.toList) u10) := if_pos rfl
  generalize hM : (fun y => if y = Str.ofString "gone" then some (Value.int (dp true (textOf (cellsOf ns)).cps.toList) u10) else M9 y) = M10 at F m_script m_cells m_text m_shown m_sent m_texts m_told m_outside m_depth m_bare m_gone
  clear hM
  -- statement 11
  refine wpAny_execs_cons (law11 g w S hA' hd0 F N m_shown X.small2 ?_)
  clear F N
  intro u11 h11 tk11 F N
  show wpAny _ _ (execs _ _) _ _ { s with heap := h11, toks := tk11 }
  replace m_script : (fun y => if y = Str.ofString "both" then some (Value.int (dp true (textOf ((cellsOf ns).filter fun i => i.fmod 12 != 7)).cps.toList) u11) else M10 y) (Str.ofString "script") = some (.ref a) := (if_neg (by decide)).trans m_script
  replace m_cells : (fun y => if y = Str.ofString "both" then some (Value.int (dp true (textOf ((cellsOf ns).filter fun i => i.fmod 12 != 7)).cps.toList) u11) else M10 y) (Str.ofString "cells") = some (Value.ref K) := (if_neg (by decide)).trans m_cells
  replace m_text : (fun y => if y = Str.ofString "both" then some (Value.int (dp true (textOf ((cellsOf ns).filter fun i => i.fmod 12 != 7)).cps.toList) u11) else M10 y) (Str.ofString "text") = some (Value.str (textOf (cellsOf ns)) u1) := (if_neg (by decide)).trans m_text
  replace m_shown : (fun y => if y = Str.ofString "both" then some (Value.int (dp true (textOf ((cellsOf ns).filter fun i => i.fmod 12 != 7)).cps.toList) u11) else M10 y) (Str.ofString "shown") = some (Value.str (textOf ((cellsOf ns).filter fun i => i.fmod 12 != 7)) u2) := (if_neg (by decide)).trans m_shown
  replace m_sent : (fun y => if y = Str.ofString "both" then some (Value.int (dp true (textOf ((cellsOf ns).filter fun i => i.fmod 12 != 7)).cps.toList) u11) else M10 y) (Str.ofString "sent") = some (Value.str (sendS (textOf (cellsOf ns))) u3) := (if_neg (by decide)).trans m_sent
  replace m_texts : (fun y => if y = Str.ofString "both" then some (Value.int (dp true (textOf ((cellsOf ns).filter fun i => i.fmod 12 != 7)).cps.toList) u11) else M10 y) (Str.ofString "texts") = some (Value.ref KT) := (if_neg (by decide)).trans m_texts
  replace m_told : (fun y => if y = Str.ofString "both" then some (Value.int (dp true (textOf ((cellsOf ns).filter fun i => i.fmod 12 != 7)).cps.toList) u11) else M10 y) (Str.ofString "told") = some (Value.ref D) := (if_neg (by decide)).trans m_told
  replace m_outside : (fun y => if y = Str.ofString "both" then some (Value.int (dp true (textOf ((cellsOf ns).filter fun i => i.fmod 12 != 7)).cps.toList) u11) else M10 y) (Str.ofString "outside") = some (Value.ref O) := (if_neg (by decide)).trans m_outside
  replace m_depth : (fun y => if y = Str.ofString "both" then some (Value.int (dp true (textOf ((cellsOf ns).filter fun i => i.fmod 12 != 7)).cps.toList) u11) else M10 y) (Str.ofString "depth") = some (Value.int (dp false (textOf (cellsOf ns)).cps.toList) u8) := (if_neg (by decide)).trans m_depth
  replace m_bare : (fun y => if y = Str.ofString "both" then some (Value.int (dp true (textOf ((cellsOf ns).filter fun i => i.fmod 12 != 7)).cps.toList) u11) else M10 y) (Str.ofString "bare") = some (Value.int (dp false (textOf ((cellsOf ns).filter fun i => i.fmod 12 != 7)).cps.toList) u9) := (if_neg (by decide)).trans m_bare
  replace m_gone : (fun y => if y = Str.ofString "both" then some (Value.int (dp true (textOf ((cellsOf ns).filter fun i => i.fmod 12 != 7)).cps.toList) u11) else M10 y) (Str.ofString "gone") = some (Value.int (dp true (textOf (cellsOf ns)).cps.toList) u10) := (if_neg (by decide)).trans m_gone
  have m_both : (fun y => if y = Str.ofString "both" then some (Value.int (dp true (textOf ((cellsOf ns).filter fun i => i.fmod 12 != 7)).cps.toList) u11) else M10 y) (Str.ofString "both") = some (Value.int (dp true (textOf ((cellsOf ns).filter fun i => i.fmod 12 != 7)).cps.toList) u11) := if_pos rfl
  generalize hM : (fun y => if y = Str.ofString "both" then some (Value.int (dp true (textOf ((cellsOf ns).filter fun i => i.fmod 12 != 7)).cps.toList) u11) else M10 y) = M11 at F m_script m_cells m_text m_shown m_sent m_texts m_told m_outside m_depth m_bare m_gone m_both
  clear hM
  -- statement 12
  refine wpAny_execs_cons (law12 g w S hA' hu' F N (.tail _ (.head _)) hys m_told m_depth m_bare m_gone m_both ?_)
  clear F N
  intro h12 tk12 F N
  show wpAny _ _ (execs _ _) _ _ { s with heap := h12, toks := tk12 }
  -- statement 13
  refine wpAny_execs_cons (law13 g w S hA' F N (.head _) hc8 hd8 hi8 hpos hle (.tail _ (.tail _ (.tail _ (.head _)))) hcs m_outside m_cells ?_)
  clear F N
  intro z u13 h13 tk13 hz F N
  show wpAny _ _ (execs _ _) _ _ { s with heap := h13, toks := tk13 }
  replace m_script : (fun y => if y = Str.ofString "cut" then some (Value.int z u13) else M11 y) (Str.ofString "script") = some (.ref a) := (if_neg (by decide)).trans m_script
  replace m_cells : (fun y => if y = Str.ofString "cut" then some (Value.int z u13) else M11 y) (Str.ofString "cells") = some (Value.ref K) := (if_neg (by decide)).trans m_cells
  replace m_text : (fun y => if y = Str.ofString "cut" then some (Value.int z u13) else M11 y) (Str.ofString "text") = some (Value.str (textOf (cellsOf ns)) u1) := (if_neg (by decide)).trans m_text
  replace m_shown : (fun y => if y = Str.ofString "cut" then some (Value.int z u13) else M11 y) (Str.ofString "shown") = some (Value.str (textOf ((cellsOf ns).filter fun i => i.fmod 12 != 7)) u2) := (if_neg (by decide)).trans m_shown
  replace m_sent : (fun y => if y = Str.ofString "cut" then some (Value.int z u13) else M11 y) (Str.ofString "sent") = some (Value.str (sendS (textOf (cellsOf ns))) u3) := (if_neg (by decide)).trans m_sent
  replace m_texts : (fun y => if y = Str.ofString "cut" then some (Value.int z u13) else M11 y) (Str.ofString "texts") = some (Value.ref KT) := (if_neg (by decide)).trans m_texts
  replace m_told : (fun y => if y = Str.ofString "cut" then some (Value.int z u13) else M11 y) (Str.ofString "told") = some (Value.ref D) := (if_neg (by decide)).trans m_told
  replace m_outside : (fun y => if y = Str.ofString "cut" then some (Value.int z u13) else M11 y) (Str.ofString "outside") = some (Value.ref O) := (if_neg (by decide)).trans m_outside
  replace m_depth : (fun y => if y = Str.ofString "cut" then some (Value.int z u13) else M11 y) (Str.ofString "depth") = some (Value.int (dp false (textOf (cellsOf ns)).cps.toList) u8) := (if_neg (by decide)).trans m_depth
  replace m_bare : (fun y => if y = Str.ofString "cut" then some (Value.int z u13) else M11 y) (Str.ofString "bare") = some (Value.int (dp false (textOf ((cellsOf ns).filter fun i => i.fmod 12 != 7)).cps.toList) u9) := (if_neg (by decide)).trans m_bare
  replace m_gone : (fun y => if y = Str.ofString "cut" then some (Value.int z u13) else M11 y) (Str.ofString "gone") = some (Value.int (dp true (textOf (cellsOf ns)).cps.toList) u10) := (if_neg (by decide)).trans m_gone
  replace m_both : (fun y => if y = Str.ofString "cut" then some (Value.int z u13) else M11 y) (Str.ofString "both") = some (Value.int (dp true (textOf ((cellsOf ns).filter fun i => i.fmod 12 != 7)).cps.toList) u11) := (if_neg (by decide)).trans m_both
  have m_cut : (fun y => if y = Str.ofString "cut" then some (Value.int z u13) else M11 y) (Str.ofString "cut") = some (Value.int z u13) := if_pos rfl
  generalize hM : (fun y => if y = Str.ofString "cut" then some (Value.int z u13) else M11 y) = M13 at F m_script m_cells m_text m_shown m_sent m_texts m_told m_outside m_depth m_bare m_gone m_both m_cut
  clear hM
  obtain ⟨r, hr, hzr⟩ := hall z hz
  obtain ⟨ez1, ez2, hsum⟩ := X.cut z r hr hzr
  -- statement 14
  refine wpAny_execs_cons (law14 g w S hA' hd0 F N (.tail _ (.tail _ (.tail _ (.tail _ (.head _))))) ho6 m_text m_cut small1 ez1 ?_)
  clear F N
  intro u14 h14 tk14 F N
  show wpAny _ _ (execs _ _) _ _ { s with heap := h14, toks := tk14 }
  replace m_script : (fun y => if y = Str.ofString "first" then some (Value.int (ns.sum + dp false (Txt.slice (textOf (cellsOf ns)) none (some z)).cps.toList) u14) else M13 y) (Str.ofString "script") = some (.ref a) := (if_neg (by decide)).trans m_script
  replace m_cells : (fun y => if y = Str.ofString "first" then some (Value.int (ns.sum + dp false (Txt.slice (textOf (cellsOf ns)) none (some z)).cps.toList) u14) else M13 y) (Str.ofString "cells") = some (Value.ref K) := (if_neg (by decide)).trans m_cells
  replace m_text : (fun y => if y = Str.ofString "first" then some (Value.int (ns.sum + dp false (Txt.slice (textOf (cellsOf ns)) none (some z)).cps.toList) u14) else M13 y) (Str.ofString "text") = some (Value.str (textOf (cellsOf ns)) u1) := (if_neg (by decide)).trans m_text
  replace m_shown : (fun y => if y = Str.ofString "first" then some (Value.int (ns.sum + dp false (Txt.slice (textOf (cellsOf ns)) none (some z)).cps.toList) u14) else M13 y) (Str.ofString "shown") = some (Value.str (textOf ((cellsOf ns).filter fun i => i.fmod 12 != 7)) u2) := (if_neg (by decide)).trans m_shown
  replace m_sent : (fun y => if y = Str.ofString "first" then some (Value.int (ns.sum + dp false (Txt.slice (textOf (cellsOf ns)) none (some z)).cps.toList) u14) else M13 y) (Str.ofString "sent") = some (Value.str (sendS (textOf (cellsOf ns))) u3) := (if_neg (by decide)).trans m_sent
  replace m_texts : (fun y => if y = Str.ofString "first" then some (Value.int (ns.sum + dp false (Txt.slice (textOf (cellsOf ns)) none (some z)).cps.toList) u14) else M13 y) (Str.ofString "texts") = some (Value.ref KT) := (if_neg (by decide)).trans m_texts
  replace m_told : (fun y => if y = Str.ofString "first" then some (Value.int (ns.sum + dp false (Txt.slice (textOf (cellsOf ns)) none (some z)).cps.toList) u14) else M13 y) (Str.ofString "told") = some (Value.ref D) := (if_neg (by decide)).trans m_told
  replace m_outside : (fun y => if y = Str.ofString "first" then some (Value.int (ns.sum + dp false (Txt.slice (textOf (cellsOf ns)) none (some z)).cps.toList) u14) else M13 y) (Str.ofString "outside") = some (Value.ref O) := (if_neg (by decide)).trans m_outside
  replace m_depth : (fun y => if y = Str.ofString "first" then some (Value.int (ns.sum + dp false (Txt.slice (textOf (cellsOf ns)) none (some z)).cps.toList) u14) else M13 y) (Str.ofString "depth") = some (Value.int (dp false (textOf (cellsOf ns)).cps.toList) u8) := (if_neg (by decide)).trans m_depth
  replace m_bare : (fun y => if y = Str.ofString "first" then some (Value.int (ns.sum + dp false (Txt.slice (textOf (cellsOf ns)) none (some z)).cps.toList) u14) else M13 y) (Str.ofString "bare") = some (Value.int (dp false (textOf ((cellsOf ns).filter fun i => i.fmod 12 != 7)).cps.toList) u9) := (if_neg (by decide)).trans m_bare
  replace m_gone : (fun y => if y = Str.ofString "first" then some (Value.int (ns.sum + dp false (Txt.slice (textOf (cellsOf ns)) none (some z)).cps.toList) u14) else M13 y) (Str.ofString "gone") = some (Value.int (dp true (textOf (cellsOf ns)).cps.toList) u10) := (if_neg (by decide)).trans m_gone
  replace m_both : (fun y => if y = Str.ofString "first" then some (Value.int (ns.sum + dp false (Txt.slice (textOf (cellsOf ns)) none (some z)).cps.toList) u14) else M13 y) (Str.ofString "both") = some (Value.int (dp true (textOf ((cellsOf ns).filter fun i => i.fmod 12 != 7)).cps.toList) u11) := (if_neg (by decide)).trans m_both
  replace m_cut : (fun y => if y = Str.ofString "first" then some (Value.int (ns.sum + dp false (Txt.slice (textOf (cellsOf ns)) none (some z)).cps.toList) u14) else M13 y) (Str.ofString "cut") = some (Value.int z u13) := (if_neg (by decide)).trans m_cut
  have m_first : (fun y => if y = Str.ofString "first" then some (Value.int (ns.sum + dp false (Txt.slice (textOf (cellsOf ns)) none (some z)).cps.toList) u14) else M13 y) (Str.ofString "first") = some (Value.int (ns.sum + dp false (Txt.slice (textOf (cellsOf ns)) none (some z)).cps.toList) u14) := if_pos rfl
  generalize hM : (fun y => if y = Str.ofString "first" then some (Value.int (ns.sum + dp false (Txt.slice (textOf (cellsOf ns)) none (some z)).cps.toList) u14) else M13 y) = M14 at F m_script m_cells m_text m_shown m_sent m_texts m_told m_outside m_depth m_bare m_gone m_both m_cut m_first
  clear hM
  -- statement 15
  refine wpAny_execs_cons (law15 g w S hA' hd0 F N (.tail _ (.tail _ (.tail _ (.tail _ (.head _))))) ho6 m_text m_cut m_first m_depth small1 ez2 ?_)
  clear F N
  intro h15 tk15 k15
  have e : ((ns.sum + dp false (Txt.slice (textOf (cellsOf ns)) none (some z)).cps.toList + dp false (Txt.slice (textOf (cellsOf ns)) (some z) none).cps.toList == ns.sum + dp false (textOf (cellsOf ns)).cps.toList) : Bool) = true := by
    rw [beq_iff_eq]; omega
  rw [e]
  exact hq _ _ k15
end Mine

end
/-! ## Plain6 -/
section
open PySem PySem.W PySem.Builtin PySem.Builtin.Re PyProof.Rows
set_option maxRecDepth 100000
set_option maxHeartbeats 4000000
set_option linter.unusedVariables false
namespace Mine
def al : List Nat := [40, 41, 34, 92, 10, 13, 46, 81, 223, 64259, 8481, 13255, 7838, 890]
def okc (c : Nat) : Bool := decide (c < 1114112) && !Str.isSurrogate c
def plb (c : Nat) : Bool := c != 34 && c != 92 && c != 40 && c != 41 && c != 10
def foldOk (c : Nat) (ys : List Nat) : Bool := match ys with
  | [] => false
  | d :: ws => ((d == c) && ws.isEmpty) || (plb c && plb d && ws.all plb)
def alOk (c : Nat) (ys : List Nat) : Bool := foldOk c ys && decide (ys.length ≤ 3) && ys.all okc && okc c && !inB1 c
theorem al_ok : (al.all fun c => alOk c (foldS c).cps.toList) = true := by decide +kernel
theorem pts_ok : (ptsI.all fun i => inB1 (i.toNat : Int) && okc i.toNat) = true := by decide +kernel
theorem pts_len : ptsI.length = 27 := by decide +kernel
theorem items_ok : ((List.range 7).all fun j => (Txt.item (Str.ofString "Qßﬃ℡㏇ẞͺ") (j : Int)).cps.toList.all al.contains && decide ((Txt.item (Str.ofString "Qßﬃ℡㏇ẞͺ") (j : Int)).cps.size ≤ 2)) = true := by decide +kernel
theorem tbl_ok : (tblS.all fun y => y.cps.toList.all al.contains && decide (y.cps.size ≤ 2)) = true := by decide +kernel
end Mine

end
/-! ## Plain7 -/
section
open PySem PySem.W PySem.Builtin PySem.Builtin.Re PyProof.Rows
set_option maxRecDepth 100000
set_option maxHeartbeats 4000000
set_option linter.unusedVariables false
namespace Mine
theorem fmod27 (n : Int) : 0 ≤ n.fmod 27 ∧ n.fmod 27 < 27 := ⟨Int.fmod_nonneg_of_pos _ (by decide), Int.fmod_lt_of_pos _ (by decide)⟩
theorem piece7 {n : Int} (h : n.fmod 12 = 7) : ∃ c, (pieceS n).cps.toList = [c] ∧ inB1 (c : Int) = true ∧ okc c = true := by
  unfold pieceS
  rw [if_pos h]
  refine ⟨_, rfl, ?_⟩
  have hk := fmod27 (n.fdiv 12)
  generalize (n.fdiv 12).fmod 27 = k at hk
  have hlt : k.toNat < ptsI.length := by rw [pts_len]; omega
  have hm : ptsI.getD k.toNat 0 ∈ ptsI := by
    rw [List.getD_eq_getElem?_getD, List.getElem?_eq_getElem hlt]
    exact List.getElem_mem hlt
  have := List.all_eq_true.1 pts_ok _ hm
  simp only [Bool.and_eq_true] at this
  exact this
theorem piece_other {n : Int} (h : n.fmod 12 ≠ 7) : (∀ c ∈ (pieceS n).cps.toList, c ∈ al) ∧ (pieceS n).cps.size ≤ 2 := by
  unfold pieceS
  rw [if_neg h]
  split
  · have h0 : 0 ≤ (n.fdiv 12).fmod 7 := Int.fmod_nonneg_of_pos _ (by decide)
    have h1 : (n.fdiv 12).fmod 7 < 7 := Int.fmod_lt_of_pos _ (by decide)
    generalize (n.fdiv 12).fmod 7 = k at h0 h1
    obtain ⟨j, rfl⟩ := Int.eq_ofNat_of_zero_le h0
    have := List.all_eq_true.1 items_ok j (List.mem_range.2 (by omega))
    simp only [Bool.and_eq_true, decide_eq_true_eq] at this
    refine ⟨fun c hc => ?_, this.2⟩
    have h2 := List.all_eq_true.1 this.1 c hc
    simpa using h2
  · cases e : tblS[(n.fmod 12).toNat]? with
    | none => exact ⟨fun c hc => by simp at hc, by simp⟩
    | some y =>
      have := List.all_eq_true.1 tbl_ok y (List.mem_of_getElem? e)
      simp only [Bool.and_eq_true, decide_eq_true_eq] at this
      refine ⟨fun c hc => ?_, this.2⟩
      have h2 := List.all_eq_true.1 this.1 c hc
      simpa using h2
theorem al_fact {c : Nat} (h : c ∈ al) : foldOk c (foldS c).cps.toList = true ∧ (foldS c).cps.toList.length ≤ 3 ∧ (∀ x ∈ (foldS c).cps.toList, okc x = true) ∧ okc c = true ∧ inB1 (c : Int) = false := by
  have := List.all_eq_true.1 al_ok c h
  unfold alOk at this
  simp only [Bool.and_eq_true, decide_eq_true_eq, List.all_eq_true, Bool.not_eq_true'] at this
  obtain ⟨⟨⟨⟨a, b⟩, c'⟩, d⟩, e⟩ := this
  exact ⟨a, b, c', d, e⟩
/-- the signs of a list of pieces -/
noncomputable def tl (cs : List Int) : List Nat := cs.flatMap fun n => (pieceS n).cps.toList
theorem join_list_eq (ys : List Str) : (Txt.join (Str.ofString "") ys).cps.toList = ys.flatMap (·.cps.toList) := by
  have e : Txt.join (Str.ofString "") ys = Str.join ⟨#[]⟩ ys := eq_of_beq (join_closes (sep := Str.ofString "") (sep' := ⟨#[]⟩) (ys := ys) rfl)
  rw [e, join_flat]; rfl
theorem text_list (cs : List Int) : (textOf cs).cps.toList = tl cs := by
  unfold textOf tl
  rw [join_list_eq, List.flatMap_map]
def Sg (c : Nat) : Prop := c ∈ al ∨ (inB1 (c : Int) = true ∧ okc c = true)
theorem tl_sg (cs : List Int) : ∀ c ∈ tl cs, Sg c := by
  intro c hc
  unfold tl at hc
  obtain ⟨n, _, hn⟩ := List.mem_flatMap.1 hc
  by_cases h : n.fmod 12 = 7
  · obtain ⟨d, h1, h2, h3⟩ := piece7 h
    rw [h1, List.mem_singleton] at hn
    subst hn
    exact .inr ⟨h2, h3⟩
  · exact .inl ((piece_other h).1 c hn)
theorem sg_ok {c : Nat} (h : Sg c) : okc c = true := by
  rcases h with h | h
  · exact (al_fact h).2.2.2.1
  · exact h.2
def nb1 (c : Nat) : Bool := !inB1 (c : Int)
theorem sg_al {c : Nat} (h : Sg c) (h2 : nb1 c = true) : c ∈ al := by
  rcases h with h | h
  · exact h
  · unfold nb1 at h2; rw [h.1] at h2; cases h2
theorem tl_filter : ∀ (cs : List Int), (tl cs).filter nb1 = tl (cs.filter fun i => i.fmod 12 != 7)
  | [] => rfl
  | n :: cs => by
    have ih := tl_filter cs
    show ((pieceS n).cps.toList ++ tl cs).filter nb1 = _
    rw [List.filter_append, ih]
    by_cases h : n.fmod 12 = 7
    · obtain ⟨d, h1, h2, _⟩ := piece7 h
      rw [List.filter_cons_of_neg (by simp [h]), h1, List.filter_cons_of_neg (by unfold nb1; rw [h2]; simp)]; rfl
    · rw [List.filter_cons_of_pos (by simpa using h), List.filter_eq_self.2 ?_]
      · rfl
      · intro c hc
        unfold nb1
        rw [(al_fact ((piece_other h).1 c hc)).2.2.2.2]; rfl
theorem piece_len (n : Int) : (pieceS n).cps.toList.length ≤ 2 := by
  by_cases h : n.fmod 12 = 7
  · obtain ⟨d, h1, _⟩ := piece7 h
    rw [h1]; simp
  · have := (piece_other h).2
    rwa [Array.length_toList]
theorem tl_len : ∀ cs, (tl cs).length ≤ 2 * cs.length
  | [] => Nat.le_refl _
  | n :: cs => by
    have ih := tl_len cs
    have := piece_len n
    show ((pieceS n).cps.toList ++ tl cs).length ≤ _
    rw [List.length_append, List.length_cons]
    omega
/-! ### preparing -/
noncomputable def foldL (l : List Nat) : List Nat := l.flatMap fun c => (foldS c).cps.toList
noncomputable def prepL (l : List Nat) : List Nat := foldL (l.filter nb1)
theorem prep_list (x : Str) : (prepS x).cps.toList = prepL x.cps.toList := by
  unfold prepS prepL foldL foldsOf
  rw [join_list_eq, List.flatMap_map]; rfl
def Nf (c : Nat) : Prop := Plain c ∧ c ≠ 10
theorem plb_nf {c : Nat} (h : plb c = true) : Nf c := by
  unfold plb at h
  simp only [Bool.and_eq_true, bne_iff_ne, ne_eq] at h
  exact ⟨⟨h.1.1.1.1, h.1.1.1.2, h.1.1.2, h.1.2⟩, h.2⟩
theorem exp_fold : ∀ (l : List Nat), (∀ c ∈ l, c ∈ al) → Exp Nf l (foldL l)
  | [], _ => .nil
  | c :: l, h => by
    have ih := exp_fold l fun x hx => h x (.tail _ hx)
    have hf := (al_fact (h c (.head _))).1
    show Exp Nf (c :: l) ((foldS c).cps.toList ++ foldL l)
    revert hf
    cases (foldS c).cps.toList with
    | nil => intro hf; cases hf
    | cons d ws =>
      intro hf
      unfold foldOk at hf
      simp only [Bool.or_eq_true, Bool.and_eq_true, beq_iff_eq, List.isEmpty_iff, List.all_eq_true] at hf
      rcases hf with ⟨h1, h2⟩ | ⟨⟨h1, h2⟩, h3⟩
      · subst h1 h2
        exact .same _ ih
      · exact .word (plb_nf h1) (plb_nf h2) (fun x hx => plb_nf (h3 x hx)) ih
theorem dp_fold (sent : Bool) (l : List Nat) (h : ∀ c ∈ l, c ∈ al) : dp sent (foldL l) = dp sent l :=
  ((exp_fold l h).dp (fun c hc => ⟨hc.1, .inr hc.2⟩) _ _ _ (Nat.le_refl _)).symm
theorem filter_al {l : List Nat} (h : ∀ c ∈ l, Sg c) : ∀ c ∈ l.filter nb1, c ∈ al := fun c hc => sg_al (h c (List.mem_filter.1 hc).1) (List.mem_filter.1 hc).2
theorem dp_prep (sent : Bool) (l : List Nat) (h : ∀ c ∈ l, Sg c) : dp sent (prepL l) = dp sent (l.filter nb1) := dp_fold sent _ (filter_al h)
theorem exp_filter {N : Nat → Prop} {f : Nat → Bool} (hN : ∀ c, N c → f c = true) {l m : List Nat} (h : Exp N l m) : Exp N (l.filter f) (m.filter f) := by
  induction h with
  | nil => exact .nil
  | same c h ih =>
    by_cases hc : f c = true
    · rw [List.filter_cons_of_pos hc, List.filter_cons_of_pos hc]; exact .same _ ih
    · rw [List.filter_cons_of_neg hc, List.filter_cons_of_neg hc]; exact ih
  | word hc hd hw h ih =>
    rename_i c d ws l m
    rw [List.filter_cons_of_pos (hN _ hc), List.filter_cons_of_pos (hN _ hd), List.filter_append, List.filter_eq_self.2 fun x hx => hN x (hw x hx)]
    exact .word hc hd hw ih
def Nn (c : Nat) : Prop := Plain c ∧ nb1 c = true
theorem nn10 : Nn 10 := ⟨plain10, by decide +kernel⟩
theorem nn13 : Nn 13 := ⟨plain13, by decide +kernel⟩
theorem nn46 : Nn 46 := ⟨plain46, by decide +kernel⟩
theorem dp_filter_send (l : List Nat) : dp true ((sendL l).filter nb1) = dp true (l.filter nb1) := by
  have e1 := (exp_filter (f := nb1) (fun c hc => hc.2) (exp_cnv nn10 nn13 _ l (Nat.le_refl _))).dp (sent := true) (fun c hc => ⟨hc.1, .inl rfl⟩) _ _ _ (Nat.le_refl _)
  have e2 := (exp_filter (f := nb1) (fun c hc => hc.2) (exp_dots nn46 (cnvL l) true)).dp (sent := true) (fun c hc => ⟨hc.1, .inl rfl⟩) _ _ _ (Nat.le_refl _)
  exact (e1.trans e2).symm
theorem dp_prep_send (l : List Nat) (h : ∀ c ∈ sendL l, Sg c) : dp false (prepL (sendL l)) = dp true (l.filter nb1) := by
  rw [dp_prep false _ h, crOk_dp _ _ false (Nat.le_refl _) (crOk_filter (by decide +kernel) _ _ (crOk_send l)), dp_filter_send]
/-! ### sending -/
theorem send_list (x : Str) : (sendS x).cps.toList = sendL x.cps.toList := by
  have h1 : (cnv x).cps.toList = cnvL x.cps.toList := cnv_spec x.cps
  have h2 : (sendS x).cps.toList = dotsL true (cnv x).cps.toList := dots_spec (cnv x).cps
  rw [h2, h1]; rfl
theorem mem_cnv : ∀ (n : Nat) (l : List Nat), l.length ≤ n → ∀ c ∈ cnvL l, c ∈ l ∨ c = 13 ∨ c = 10
  | 0, l, hn, c, hc => by
    obtain rfl : l = [] := List.length_eq_zero_iff.1 (by omega)
    exact .inl hc
  | n + 1, [], hn, c, hc => .inl hc
  | n + 1, a :: r, hn, c, hc => by
    simp only [List.length_cons] at hn
    by_cases h1 : a = 13
    · subst h1
      match r, hn, hc with
      | [], _, hc =>
        rw [cnvL_cr0] at hc
        rcases List.mem_cons.1 hc with e | hc
        · exact .inr (.inl e)
        · exact .inr (.inr (List.mem_singleton.1 hc))
      | d :: r', hn, hc =>
        simp only [List.length_cons] at hn
        by_cases h2 : d = 10
        · subst h2
          rw [cnvL_crlf] at hc
          rcases List.mem_cons.1 hc with e | hc
          · exact .inr (.inl e)
          rcases List.mem_cons.1 hc with e | hc
          · exact .inr (.inr e)
          rcases mem_cnv n r' (by omega) c hc with h | h
          · exact .inl (.tail _ (.tail _ h))
          · exact .inr h
        · rw [cnvL_cr h2] at hc
          rcases List.mem_cons.1 hc with e | hc
          · exact .inr (.inl e)
          rcases List.mem_cons.1 hc with e | hc
          · exact .inr (.inr e)
          rcases mem_cnv n (d :: r') (by simp; omega) c hc with h | h
          · exact .inl (.tail _ h)
          · exact .inr h
    by_cases h2 : a = 10
    · subst h2
      rw [cnvL_lf] at hc
      rcases List.mem_cons.1 hc with e | hc
      · exact .inr (.inl e)
      rcases List.mem_cons.1 hc with e | hc
      · exact .inr (.inr e)
      rcases mem_cnv n r (by omega) c hc with h | h
      · exact .inl (.tail _ h)
      · exact .inr h
    · rw [cnvL_other h1 h2] at hc
      rcases List.mem_cons.1 hc with e | hc
      · exact .inl (e ▸ .head _)
      rcases mem_cnv n r (by omega) c hc with h | h
      · exact .inl (.tail _ h)
      · exact .inr h
theorem mem_dots : ∀ (l : List Nat) (b : Bool), ∀ c ∈ dotsL b l, c ∈ l ∨ c = 46
  | [], b, c, hc => by cases b <;> exact .inl hc
  | a :: r, b, c, hc => by
    unfold dotsL at hc
    split at hc
    · rcases List.mem_cons.1 hc with e | hc
      · exact .inr e
      rcases List.mem_cons.1 hc with e | hc
      · exact .inr e
      rcases mem_dots r false c hc with h | h
      · exact .inl (.tail _ h)
      · exact .inr h
    · rcases List.mem_cons.1 hc with e | hc
      · exact .inl (e ▸ .head _)
      rcases mem_dots r _ c hc with h | h
      · exact .inl (.tail _ h)
      · exact .inr h
theorem mem_send {P : Nat → Prop} (h13 : P 13) (h10 : P 10) (h46 : P 46) {l : List Nat} (h : ∀ c ∈ l, P c) : ∀ c ∈ sendL l, P c := fun c hc => by
  rcases mem_dots _ _ c hc with hc | rfl
  · rcases mem_cnv _ l (Nat.le_refl _) c hc with hc | rfl | rfl
    · exact h c hc
    · exact h13
    · exact h10
  · exact h46
theorem cnv_len : ∀ (n : Nat) (l : List Nat), l.length ≤ n → (cnvL l).length ≤ 2 * l.length
  | 0, l, hn => by
    obtain rfl : l = [] := List.length_eq_zero_iff.1 (by omega)
    exact Nat.le_refl _
  | n + 1, [], hn => Nat.le_refl _
  | n + 1, a :: r, hn => by
    simp only [List.length_cons] at hn
    by_cases h1 : a = 13
    · subst h1
      match r, hn with
      | [], _ => rw [cnvL_cr0]; simp
      | d :: r', hn =>
        simp only [List.length_cons] at hn
        by_cases h2 : d = 10
        · subst h2
          rw [cnvL_crlf]
          have := cnv_len n r' (by omega)
          simp only [List.length_cons]; omega
        · rw [cnvL_cr h2]
          have := cnv_len n (d :: r') (by simp; omega)
          simp only [List.length_cons] at this ⊢; omega
    by_cases h2 : a = 10
    · subst h2
      rw [cnvL_lf]
      have := cnv_len n r (by omega)
      simp only [List.length_cons]; omega
    · rw [cnvL_other h1 h2]
      have := cnv_len n r (by omega)
      simp only [List.length_cons]; omega
theorem dots_len : ∀ (l : List Nat) (b : Bool), (dotsL b l).length ≤ 2 * l.length
  | [], b => by cases b <;> exact Nat.le_refl _
  | a :: r, b => by
    unfold dotsL
    split
    · have := dots_len r false
      simp only [List.length_cons]; omega
    · have := dots_len r (a == 10)
      simp only [List.length_cons]; omega
theorem send_len (l : List Nat) : (sendL l).length ≤ 4 * l.length := by
  have h1 := cnv_len _ l (Nat.le_refl _)
  have h2 := dots_len (cnvL l) true
  unfold sendL; omega
theorem fold_len : ∀ (l : List Nat), (∀ c ∈ l, c ∈ al) → (foldL l).length ≤ 3 * l.length
  | [], _ => Nat.le_refl _
  | c :: l, h => by
    have ih := fold_len l fun x hx => h x (.tail _ hx)
    have := (al_fact (h c (.head _))).2.1
    show ((foldS c).cps.toList ++ foldL l).length ≤ _
    rw [List.length_append, List.length_cons]; omega
theorem prep_len {l : List Nat} (h : ∀ c ∈ l, Sg c) : (prepL l).length ≤ 3 * l.length := by
  have h1 := fold_len _ (filter_al h)
  have h2 := List.length_filter_le nb1 l
  unfold prepL; omega
theorem prep_ok {l : List Nat} (h : ∀ c ∈ l, Sg c) : ∀ c ∈ prepL l, okc c = true := fun c hc => by
  unfold prepL foldL at hc
  obtain ⟨a, ha, hca⟩ := List.mem_flatMap.1 hc
  exact (al_fact (filter_al h a ha)).2.2.1 c hca
end Mine

end
/-! ## Plain8 -/
section
open PySem PySem.W PySem.Builtin PySem.Builtin.Re PyProof.Rows
set_option maxRecDepth 100000
set_option maxHeartbeats 4000000
set_option linter.unusedVariables false
namespace Mine
theorem size_list (x : Str) : x.cps.size = x.cps.toList.length := by simp
theorem len_list (x : Str) : x.length = x.cps.toList.length := by simp [Str.length]
theorem utf8_len (c : Nat) : (Str.utf8Of c).length ≤ 4 := by
  unfold Str.utf8Of
  split
  · simp
  split
  · simp
  split <;> simp
theorem encB_len : ∀ l : List Nat, (encB l).length ≤ 4 * l.length
  | [] => Nat.le_refl _
  | c :: l => by
    have ih := encB_len l
    have := utf8_len c
    show (Str.utf8Of c ++ encB l).length ≤ _
    rw [List.length_append, List.length_cons]; omega
theorem ez_of {x : Str} {l : List Nat} (e : x.cps.toList = l) (h : ∀ c ∈ l, okc c = true) (hl : l.length ≤ 10000) : Ez x := by
  have ok : ∀ c ∈ l, c < 1114112 ∧ Str.isSurrogate c = false := fun c hc => by
    have := h c hc
    unfold okc at this
    simpa using this
  refine ⟨fun c hc => (ok c (e ▸ hc)).2, ?_, fun c hc => (ok c (e ▸ hc)).1⟩
  have := encB_len l
  rw [e]; omega
theorem sz_of {x : Str} {l : List Nat} (e : x.cps.toList = l) (hl : l.length ≤ 10000) : Sz x := by
  refine ⟨by rw [size_list, e]; omega, ?_⟩
  have h1 : subText fit2 (Str.ofString "\r\n") x = cnvL x.cps.toList := cnv_spec x.cps
  have := cnv_len _ l (Nat.le_refl _)
  rw [h1, e]; omega
theorem sum_flat : ∀ (ys : List Str), (ys.map (·.length)).sum = (ys.flatMap (·.cps.toList)).length
  | [] => rfl
  | y :: r => by
    rw [List.map_cons, List.sum_cons, sum_flat r, List.flatMap_cons, List.length_append, len_list]
theorem pz_of {x : Str} {l : List Nat} (e : x.cps.toList = l) (h : ∀ c ∈ l, Sg c) (hl : l.length ≤ 10000) : Pz x := by
  refine ⟨by rw [size_list, e]; omega, ?_⟩
  rw [sum_flat]
  have h1 : (foldsOf x.cps.toList).flatMap (·.cps.toList) = prepL x.cps.toList := by
    unfold prepL foldL foldsOf; rw [List.flatMap_map]; rfl
  have := prep_len h
  rw [h1, e]; omega
theorem sum_pieces (cs : List Int) : ((cs.map pieceS).map (·.length)).sum = (tl cs).length := by
  rw [sum_flat, List.flatMap_map]; rfl
theorem cells_ok (ns : List Int) : ∀ i ∈ cellsOf ns, 0 ≤ i ∧ i < 1000000 := by
  intro i hi
  unfold cellsOf at hi
  rcases List.mem_append.1 hi with hi | hi
  · obtain ⟨x, _, rfl⟩ := List.mem_map.1 hi
    exact ⟨Int.fmod_nonneg_of_pos _ (by decide), Int.fmod_lt_of_pos _ (by decide)⟩
  · have : ∀ j ∈ ([2, 3, 7, 2, 0, 2, 1, 2, 0, 0, 11, 2] : List Int), 0 ≤ j ∧ j < 1000000 := by decide
    exact this i hi
theorem cells_len (ns : List Int) : (cellsOf ns).length ≤ 20 := by
  unfold cellsOf
  simp only [List.length_append, List.length_map, List.length_take, List.length_cons, List.length_nil]
  omega
theorem sg13 : Sg 13 := .inl (by decide)
theorem sg10 : Sg 10 := .inl (by decide)
theorem sg46 : Sg 46 := .inl (by decide)
theorem slice_lo (x : Str) {z : Int} (h0 : 0 ≤ z) (h1 : z ≤ x.length) : (Txt.slice x none (some z)).cps.toList = x.cps.toList.take z.toNat := by
  rw [eq_of_beq (slice_closes_toL h0 h1)]
  simp
theorem slice_hi (x : Str) {z : Int} (h0 : 0 ≤ z) (h1 : z ≤ x.length) : (Txt.slice x (some z) none).cps.toList = x.cps.toList.drop z.toNat := by
  rw [slice_from_eq h0 h1 rfl]
  show (x.cps.toList.drop z.toNat).take ((x.length : Int) - z).toNat = _
  rw [List.take_of_length_le]
  rw [List.length_drop, len_list] at *
  omega
theorem law_facts (ns : List Int) : LawFacts ns := by
  have hc := cells_ok ns
  have hl := cells_len ns
  generalize hC : cellsOf ns = cs at hc hl
  have hl2 : (cs.filter fun i => i.fmod 12 != 7).length ≤ 20 := Nat.le_trans (List.length_filter_le _ _) hl
  have t1 := text_list cs
  have t2 := text_list (cs.filter fun i => i.fmod 12 != 7)
  have g1 := tl_sg cs
  have n1 := tl_len cs
  have n2 := tl_len (cs.filter fun i => i.fmod 12 != 7)
  have hf := tl_filter cs
  generalize hT : textOf cs = T at t1
  generalize hSH : textOf (cs.filter fun i => i.fmod 12 != 7) = SH at t2
  generalize hl1 : tl cs = l at t1 g1 n1 hf
  have ll : l.length ≤ 40 := by omega
  -- sent
  have t3 : (sendS T).cps.toList = sendL l := by rw [send_list, t1]
  have g3 : ∀ c ∈ sendL l, Sg c := mem_send sg13 sg10 sg46 g1
  have n3 := send_len l
  have t4 : (sendS (sendS T)).cps.toList = sendL (sendL l) := by rw [send_list, t3]
  have g4 : ∀ c ∈ sendL (sendL l), Sg c := mem_send sg13 sg10 sg46 g3
  have n4 := send_len (sendL l)
  have t5 : (sendS (sendS (sendS T))).cps.toList = sendL (sendL (sendL l)) := by rw [send_list, t4]
  have g5 : ∀ c ∈ sendL (sendL (sendL l)), Sg c := mem_send sg13 sg10 sg46 g4
  have n5 := send_len (sendL (sendL l))
  -- prepared
  have t6 : (prepS T).cps.toList = prepL l := by rw [prep_list, t1]
  have n6 := prep_len g1
  have o6 := prep_ok g1
  have t7 : (sendS (prepS T)).cps.toList = sendL (prepL l) := by rw [send_list, t6]
  have n7 := send_len (prepL l)
  have o7 : ∀ c ∈ sendL (prepL l), okc c = true := mem_send (by decide) (by decide) (by decide) o6
  have t8 : (prepS (sendS T)).cps.toList = prepL (sendL l) := by rw [prep_list, t3]
  have n8 := prep_len g3
  have o8 := prep_ok g3
  have o1 : ∀ c ∈ l, okc c = true := fun c hc => sg_ok (g1 c hc)
  have d2 : dp false (prepL l) = dp false (tl (cs.filter fun i => i.fmod 12 != 7)) := by rw [dp_prep false l g1, hf]
  have d3 : dp true (prepL l) = dp true (tl (cs.filter fun i => i.fmod 12 != 7)) := by rw [dp_prep true l g1, hf]
  have d4 : dp false (prepL (sendL l)) = dp true (tl (cs.filter fun i => i.fmod 12 != 7)) := by rw [dp_prep_send l g3, hf]
  have hTl : T.length = l.length := by rw [len_list, t1]
  refine ⟨?_, ?_, ?_, ?_, ?_, ?_, ?_, ?_, ?_, ?_, ?_, ?_, ?_, ?_, ?_⟩ <;> (try rw [hC]) <;> (try rw [hT]) <;> (try rw [hSH])
  · exact hc
  · exact hl
  · rw [sum_pieces, hl1]; omega
  · rw [sum_pieces]; omega
  · exact sz_of t1 (by omega)
  · exact sz_of t3 (by omega)
  · exact sz_of t4 (by omega)
  · exact sz_of t6 (by omega)
  · exact pz_of t1 g1 (by omega)
  · exact pz_of t3 g3 (by omega)
  · omega
  · rw [len_list, t2]; omega
  · intro x hx
    simp only [List.mem_cons, List.not_mem_nil, or_false] at hx
    rcases hx with rfl | rfl | rfl | rfl | rfl | rfl
    · exact ez_of t1 o1 (by omega)
    · exact ez_of t6 o6 (by omega)
    · exact ez_of t3 (fun c hc => sg_ok (g3 c hc)) (by omega)
    · exact ez_of t5 (fun c hc => sg_ok (g5 c hc)) (by omega)
    · exact ez_of t7 o7 (by omega)
    · exact ez_of t8 o8 (by omega)
  · simp only [List.map_cons, List.map_nil]
    rw [t1, t6, t3, t5, t7, t8, t2, d2, d4, dp_send, dp_send, dp_sent, dp_sent, dp_send, d3]
  · intro z r hr hz
    rw [t1] at hr hz
    obtain ⟨a, ha, hd⟩ := hr.split
    have hz0 : 0 ≤ z := by omega
    have hzl : z ≤ T.length := by omega
    have hla : a.length = z.toNat := by
      have := congrArg List.length ha
      rw [List.length_append] at this
      omega
    have s1 : (Txt.slice T none (some z)).cps.toList = a := by
      rw [slice_lo T hz0 hzl, t1, ← hla, ha, List.take_left]
    have s2 : (Txt.slice T (some z) none).cps.toList = r := by
      rw [slice_hi T hz0 hzl, t1, ← hla, ha, List.drop_left]
    have hal : a.length ≤ l.length ∧ r.length ≤ l.length := by
      have := congrArg List.length ha
      rw [List.length_append] at this
      omega
    refine ⟨ez_of s1 (fun c hc => o1 c (by rw [ha]; exact List.mem_append_left _ hc)) (by omega), ez_of s2 (fun c hc => o1 c (by rw [ha]; exact List.mem_append_right _ hc)) (by omega), ?_⟩
    rw [s1, s2, t1, hd]
end Mine

end
/-! ## Final -/
section
open PySem PySem.W PySem.Builtin PySem.Builtin.Re PyProof.Rows
set_option maxRecDepth 100000
set_option maxHeartbeats 4000000
set_option linter.unusedVariables false
namespace Mine
theorem call_ok : CallOk := by
  intro w g hb ns vs a s₁ G hk hg ha hsz hget hints hlen hlay
  subst ha
  have hmg : mgT g w = (sT g w).heap.nsMap mainGlobals := by unfold mgT; rfl
  have hmb : mbT g w = (sT g w).heap.nsMap builtinsNs := by unfold mbT; rfl
  have S : Std g w s₁.heap := ⟨hk, by rw [hmg, hmb]; exact G.T⟩
  refine law_walk g w hb S (by decide) rfl (fun env => by simp only [Around.deeper, callerA]; decide) ⟨_, hget, rfl, 0, rfl⟩ hints hlen (law_facts ns) ?_
  intro h' tk hkeep
  exact ⟨rfl, hkeep, rfl, hg⟩
theorem holds : PySem.Challenge.rw_ta0028_01.Holds := law_of_call call_ok
end Mine

end
theorem PySem.Challenge.cw_ta0028_01_holds : PySem.Challenge.rw_ta0028_01.Holds :=
  Mine.holds
