import PyProof.Rows.All
import Wide.All
import OpenK.AllK
import Wide.FinOn
import PyProof.StrLawsNeg
import PyProof.StrLawsFirst
import PyProof.StrLawsFrom
import PyProof.StrLawsRepr
import Lean
import PySem.Challenge.RW_ny0344_01
set_option Elab.async false
set_option maxRecDepth 100000
set_option maxHeartbeats 8000000
set_option linter.all false
set_option compiler.extract_closed false
section
open PySem PySem.W PyProof.Rows
namespace Mine
noncomputable def stA (i : Nat) : Stmt := (behindTheImports Challenge.pw_ny0344_01).getD i (.Pass ⟨0,0,0,0⟩)
noncomputable def inC (s : Stmt) (j : Nat) : Stmt := match s with | .ClassDef _ _ _ b _ _ _ _ _ _ _ => b.getD j (.Pass ⟨0,0,0,0⟩) | s => s
noncomputable def fA : Stmt → Arguments | .FunctionDef _ a _ _ _ _ _ _ _ _ => a | _ => ⟨[], [], none, [], [], none, []⟩
noncomputable def fB : Stmt → List Stmt | .FunctionDef _ _ b _ _ _ _ _ _ _ => b | _ => []
noncomputable def fS : Stmt → Scope | .FunctionDef _ _ _ _ _ _ s _ _ _ => s | _ => ⟨.module, [], false, false, []⟩
noncomputable abbrev ca_88 : { x : Arguments // fA (stA 5) = x } := ⟨_, by conv => { lhs; whnf }⟩
noncomputable abbrev cb_88 : { x : List Stmt // fB (stA 5) = x } := ⟨_, by conv => { lhs; whnf }⟩
noncomputable abbrev cs_88 : { x : Scope // fS (stA 5) = x } := ⟨_, by conv => { lhs; whnf }⟩
noncomputable abbrev as_88 : Arguments := ca_88.1
noncomputable abbrev bd_88 : List Stmt := cb_88.1
noncomputable abbrev sc_88 : Scope := cs_88.1
noncomputable abbrev ca_95 : { x : Arguments // fA (stA 7) = x } := ⟨_, by conv => { lhs; whnf }⟩
noncomputable abbrev cb_95 : { x : List Stmt // fB (stA 7) = x } := ⟨_, by conv => { lhs; whnf }⟩
noncomputable abbrev cs_95 : { x : Scope // fS (stA 7) = x } := ⟨_, by conv => { lhs; whnf }⟩
noncomputable abbrev as_95 : Arguments := ca_95.1
noncomputable abbrev bd_95 : List Stmt := cb_95.1
noncomputable abbrev sc_95 : Scope := cs_95.1
noncomputable abbrev ca_168 : { x : Arguments // fA (stA 16) = x } := ⟨_, by conv => { lhs; whnf }⟩
noncomputable abbrev cb_168 : { x : List Stmt // fB (stA 16) = x } := ⟨_, by conv => { lhs; whnf }⟩
noncomputable abbrev cs_168 : { x : Scope // fS (stA 16) = x } := ⟨_, by conv => { lhs; whnf }⟩
noncomputable abbrev as_168 : Arguments := ca_168.1
noncomputable abbrev bd_168 : List Stmt := cb_168.1
noncomputable abbrev sc_168 : Scope := cs_168.1
noncomputable abbrev ca_175 : { x : Arguments // fA (stA 18) = x } := ⟨_, by conv => { lhs; whnf }⟩
noncomputable abbrev cb_175 : { x : List Stmt // fB (stA 18) = x } := ⟨_, by conv => { lhs; whnf }⟩
noncomputable abbrev cs_175 : { x : Scope // fS (stA 18) = x } := ⟨_, by conv => { lhs; whnf }⟩
noncomputable abbrev as_175 : Arguments := ca_175.1
noncomputable abbrev bd_175 : List Stmt := cb_175.1
noncomputable abbrev sc_175 : Scope := cs_175.1
noncomputable abbrev ca_182 : { x : Arguments // fA (stA 19) = x } := ⟨_, by conv => { lhs; whnf }⟩
noncomputable abbrev cb_182 : { x : List Stmt // fB (stA 19) = x } := ⟨_, by conv => { lhs; whnf }⟩
noncomputable abbrev cs_182 : { x : Scope // fS (stA 19) = x } := ⟨_, by conv => { lhs; whnf }⟩
noncomputable abbrev as_182 : Arguments := ca_182.1
noncomputable abbrev bd_182 : List Stmt := cb_182.1
noncomputable abbrev sc_182 : Scope := cs_182.1
noncomputable abbrev ca_201 : { x : Arguments // fA (stA 24) = x } := ⟨_, by conv => { lhs; whnf }⟩
noncomputable abbrev cb_201 : { x : List Stmt // fB (stA 24) = x } := ⟨_, by conv => { lhs; whnf }⟩
noncomputable abbrev cs_201 : { x : Scope // fS (stA 24) = x } := ⟨_, by conv => { lhs; whnf }⟩
noncomputable abbrev as_201 : Arguments := ca_201.1
noncomputable abbrev bd_201 : List Stmt := cb_201.1
noncomputable abbrev sc_201 : Scope := cs_201.1
noncomputable abbrev ca_228 : { x : Arguments // fA (inC (stA 26) 1) = x } := ⟨_, by conv => { lhs; whnf }⟩
noncomputable abbrev cb_228 : { x : List Stmt // fB (inC (stA 26) 1) = x } := ⟨_, by conv => { lhs; whnf }⟩
noncomputable abbrev cs_228 : { x : Scope // fS (inC (stA 26) 1) = x } := ⟨_, by conv => { lhs; whnf }⟩
noncomputable abbrev as_228 : Arguments := ca_228.1
noncomputable abbrev bd_228 : List Stmt := cb_228.1
noncomputable abbrev sc_228 : Scope := cs_228.1
noncomputable abbrev ca_505 : { x : Arguments // fA (inC (stA 30) 1) = x } := ⟨_, by conv => { lhs; whnf }⟩
noncomputable abbrev cb_505 : { x : List Stmt // fB (inC (stA 30) 1) = x } := ⟨_, by conv => { lhs; whnf }⟩
noncomputable abbrev cs_505 : { x : Scope // fS (inC (stA 30) 1) = x } := ⟨_, by conv => { lhs; whnf }⟩
noncomputable abbrev as_505 : Arguments := ca_505.1
noncomputable abbrev bd_505 : List Stmt := cb_505.1
noncomputable abbrev sc_505 : Scope := cs_505.1
noncomputable abbrev ca_512 : { x : Arguments // fA (inC (stA 30) 2) = x } := ⟨_, by conv => { lhs; whnf }⟩
noncomputable abbrev cb_512 : { x : List Stmt // fB (inC (stA 30) 2) = x } := ⟨_, by conv => { lhs; whnf }⟩
noncomputable abbrev cs_512 : { x : Scope // fS (inC (stA 30) 2) = x } := ⟨_, by conv => { lhs; whnf }⟩
noncomputable abbrev as_512 : Arguments := ca_512.1
noncomputable abbrev bd_512 : List Stmt := cb_512.1
noncomputable abbrev sc_512 : Scope := cs_512.1
noncomputable abbrev ca_519 : { x : Arguments // fA (inC (stA 30) 3) = x } := ⟨_, by conv => { lhs; whnf }⟩
noncomputable abbrev cb_519 : { x : List Stmt // fB (inC (stA 30) 3) = x } := ⟨_, by conv => { lhs; whnf }⟩
noncomputable abbrev cs_519 : { x : Scope // fS (inC (stA 30) 3) = x } := ⟨_, by conv => { lhs; whnf }⟩
noncomputable abbrev as_519 : Arguments := ca_519.1
noncomputable abbrev bd_519 : List Stmt := cb_519.1
noncomputable abbrev sc_519 : Scope := cs_519.1
noncomputable abbrev ca_681 : { x : Arguments // fA (inC (stA 30) 25) = x } := ⟨_, by conv => { lhs; whnf }⟩
noncomputable abbrev cb_681 : { x : List Stmt // fB (inC (stA 30) 25) = x } := ⟨_, by conv => { lhs; whnf }⟩
noncomputable abbrev cs_681 : { x : Scope // fS (inC (stA 30) 25) = x } := ⟨_, by conv => { lhs; whnf }⟩
noncomputable abbrev as_681 : Arguments := ca_681.1
noncomputable abbrev bd_681 : List Stmt := cb_681.1
noncomputable abbrev sc_681 : Scope := cs_681.1
noncomputable abbrev ca_794 : { x : Arguments // fA (inC (stA 40) 0) = x } := ⟨_, by conv => { lhs; whnf }⟩
noncomputable abbrev cb_794 : { x : List Stmt // fB (inC (stA 40) 0) = x } := ⟨_, by conv => { lhs; whnf }⟩
noncomputable abbrev cs_794 : { x : Scope // fS (inC (stA 40) 0) = x } := ⟨_, by conv => { lhs; whnf }⟩
noncomputable abbrev as_794 : Arguments := ca_794.1
noncomputable abbrev bd_794 : List Stmt := cb_794.1
noncomputable abbrev sc_794 : Scope := cs_794.1
noncomputable abbrev ca_801 : { x : Arguments // fA (inC (stA 40) 1) = x } := ⟨_, by conv => { lhs; whnf }⟩
noncomputable abbrev cb_801 : { x : List Stmt // fB (inC (stA 40) 1) = x } := ⟨_, by conv => { lhs; whnf }⟩
noncomputable abbrev cs_801 : { x : Scope // fS (inC (stA 40) 1) = x } := ⟨_, by conv => { lhs; whnf }⟩
noncomputable abbrev as_801 : Arguments := ca_801.1
noncomputable abbrev bd_801 : List Stmt := cb_801.1
noncomputable abbrev sc_801 : Scope := cs_801.1
noncomputable abbrev ca_831 : { x : Arguments // fA (inC (stA 40) 5) = x } := ⟨_, by conv => { lhs; whnf }⟩
noncomputable abbrev cb_831 : { x : List Stmt // fB (inC (stA 40) 5) = x } := ⟨_, by conv => { lhs; whnf }⟩
noncomputable abbrev cs_831 : { x : Scope // fS (inC (stA 40) 5) = x } := ⟨_, by conv => { lhs; whnf }⟩
noncomputable abbrev as_831 : Arguments := ca_831.1
noncomputable abbrev bd_831 : List Stmt := cb_831.1
noncomputable abbrev sc_831 : Scope := cs_831.1
noncomputable abbrev ca_838 : { x : Arguments // fA (inC (stA 40) 6) = x } := ⟨_, by conv => { lhs; whnf }⟩
noncomputable abbrev cb_838 : { x : List Stmt // fB (inC (stA 40) 6) = x } := ⟨_, by conv => { lhs; whnf }⟩
noncomputable abbrev cs_838 : { x : Scope // fS (inC (stA 40) 6) = x } := ⟨_, by conv => { lhs; whnf }⟩
noncomputable abbrev as_838 : Arguments := ca_838.1
noncomputable abbrev bd_838 : List Stmt := cb_838.1
noncomputable abbrev sc_838 : Scope := cs_838.1
noncomputable abbrev ca_860 : { x : Arguments // fA (inC (stA 40) 9) = x } := ⟨_, by conv => { lhs; whnf }⟩
noncomputable abbrev cb_860 : { x : List Stmt // fB (inC (stA 40) 9) = x } := ⟨_, by conv => { lhs; whnf }⟩
noncomputable abbrev cs_860 : { x : Scope // fS (inC (stA 40) 9) = x } := ⟨_, by conv => { lhs; whnf }⟩
noncomputable abbrev as_860 : Arguments := ca_860.1
noncomputable abbrev bd_860 : List Stmt := cb_860.1
noncomputable abbrev sc_860 : Scope := cs_860.1
noncomputable abbrev ca_867 : { x : Arguments // fA (inC (stA 40) 10) = x } := ⟨_, by conv => { lhs; whnf }⟩
noncomputable abbrev cb_867 : { x : List Stmt // fB (inC (stA 40) 10) = x } := ⟨_, by conv => { lhs; whnf }⟩
noncomputable abbrev cs_867 : { x : Scope // fS (inC (stA 40) 10) = x } := ⟨_, by conv => { lhs; whnf }⟩
noncomputable abbrev as_867 : Arguments := ca_867.1
noncomputable abbrev bd_867 : List Stmt := cb_867.1
noncomputable abbrev sc_867 : Scope := cs_867.1
noncomputable abbrev ca_882 : { x : Arguments // fA (stA 41) = x } := ⟨_, by conv => { lhs; whnf }⟩
noncomputable abbrev cb_882 : { x : List Stmt // fB (stA 41) = x } := ⟨_, by conv => { lhs; whnf }⟩
noncomputable abbrev cs_882 : { x : Scope // fS (stA 41) = x } := ⟨_, by conv => { lhs; whnf }⟩
noncomputable abbrev as_882 : Arguments := ca_882.1
noncomputable abbrev bd_882 : List Stmt := cb_882.1
noncomputable abbrev sc_882 : Scope := cs_882.1
noncomputable abbrev ca_890 : { x : Arguments // fA (stA 43) = x } := ⟨_, by conv => { lhs; whnf }⟩
noncomputable abbrev cb_890 : { x : List Stmt // fB (stA 43) = x } := ⟨_, by conv => { lhs; whnf }⟩
noncomputable abbrev cs_890 : { x : Scope // fS (stA 43) = x } := ⟨_, by conv => { lhs; whnf }⟩
noncomputable abbrev as_890 : Arguments := ca_890.1
noncomputable abbrev bd_890 : List Stmt := cb_890.1
noncomputable abbrev sc_890 : Scope := cs_890.1
noncomputable abbrev ca_897 : { x : Arguments // fA (stA 45) = x } := ⟨_, by conv => { lhs; whnf }⟩
noncomputable abbrev cb_897 : { x : List Stmt // fB (stA 45) = x } := ⟨_, by conv => { lhs; whnf }⟩
noncomputable abbrev cs_897 : { x : Scope // fS (stA 45) = x } := ⟨_, by conv => { lhs; whnf }⟩
noncomputable abbrev as_897 : Arguments := ca_897.1
noncomputable abbrev bd_897 : List Stmt := cb_897.1
noncomputable abbrev sc_897 : Scope := cs_897.1
noncomputable abbrev ca_904 : { x : Arguments // fA (stA 46) = x } := ⟨_, by conv => { lhs; whnf }⟩
noncomputable abbrev cb_904 : { x : List Stmt // fB (stA 46) = x } := ⟨_, by conv => { lhs; whnf }⟩
noncomputable abbrev cs_904 : { x : Scope // fS (stA 46) = x } := ⟨_, by conv => { lhs; whnf }⟩
noncomputable abbrev as_904 : Arguments := ca_904.1
noncomputable abbrev bd_904 : List Stmt := cb_904.1
noncomputable abbrev sc_904 : Scope := cs_904.1
noncomputable abbrev ca_911 : { x : Arguments // fA (stA 47) = x } := ⟨_, by conv => { lhs; whnf }⟩
noncomputable abbrev cb_911 : { x : List Stmt // fB (stA 47) = x } := ⟨_, by conv => { lhs; whnf }⟩
noncomputable abbrev cs_911 : { x : Scope // fS (stA 47) = x } := ⟨_, by conv => { lhs; whnf }⟩
noncomputable abbrev as_911 : Arguments := ca_911.1
noncomputable abbrev bd_911 : List Stmt := cb_911.1
noncomputable abbrev sc_911 : Scope := cs_911.1
noncomputable abbrev ca_918 : { x : Arguments // fA (stA 48) = x } := ⟨_, by conv => { lhs; whnf }⟩
noncomputable abbrev cb_918 : { x : List Stmt // fB (stA 48) = x } := ⟨_, by conv => { lhs; whnf }⟩
noncomputable abbrev cs_918 : { x : Scope // fS (stA 48) = x } := ⟨_, by conv => { lhs; whnf }⟩
noncomputable abbrev as_918 : Arguments := ca_918.1
noncomputable abbrev bd_918 : List Stmt := cb_918.1
noncomputable abbrev sc_918 : Scope := cs_918.1
noncomputable abbrev ca_925 : { x : Arguments // fA (stA 49) = x } := ⟨_, by conv => { lhs; whnf }⟩
noncomputable abbrev cb_925 : { x : List Stmt // fB (stA 49) = x } := ⟨_, by conv => { lhs; whnf }⟩
noncomputable abbrev cs_925 : { x : Scope // fS (stA 49) = x } := ⟨_, by conv => { lhs; whnf }⟩
noncomputable abbrev as_925 : Arguments := ca_925.1
noncomputable abbrev bd_925 : List Stmt := cb_925.1
noncomputable abbrev sc_925 : Scope := cs_925.1
noncomputable abbrev ca_930 : { x : Arguments // fA (stA 50) = x } := ⟨_, by conv => { lhs; whnf }⟩
noncomputable abbrev cb_930 : { x : List Stmt // fB (stA 50) = x } := ⟨_, by conv => { lhs; whnf }⟩
noncomputable abbrev cs_930 : { x : Scope // fS (stA 50) = x } := ⟨_, by conv => { lhs; whnf }⟩
noncomputable abbrev as_930 : Arguments := ca_930.1
noncomputable abbrev bd_930 : List Stmt := cb_930.1
noncomputable abbrev sc_930 : Scope := cs_930.1
noncomputable abbrev ca_935 : { x : Arguments // fA (stA 51) = x } := ⟨_, by conv => { lhs; whnf }⟩
noncomputable abbrev cb_935 : { x : List Stmt // fB (stA 51) = x } := ⟨_, by conv => { lhs; whnf }⟩
noncomputable abbrev cs_935 : { x : Scope // fS (stA 51) = x } := ⟨_, by conv => { lhs; whnf }⟩
noncomputable abbrev as_935 : Arguments := ca_935.1
noncomputable abbrev bd_935 : List Stmt := cb_935.1
noncomputable abbrev sc_935 : Scope := cs_935.1
noncomputable def o0 (P : Params) : Obj := ⟨(Value.type "dict"), none, (.dict (List.toArray [⟨PyData.keyHash P (Str.ofString "__name__"), (Value.str (Str.ofString "__name__") 1), (Value.str (Str.ofString "builtins") 160)⟩, ⟨PyData.keyHash P (Str.ofString "__doc__"), (Value.str (Str.ofString "__doc__") 2), (Value.builtin "builtins.__doc__:str#\x6fpaque")⟩, ⟨PyData.keyHash P (Str.ofString "__package__"), (Value.str (Str.ofString "__package__") 3), (Value.builtin "builtins.__package__:str#\x6fpaque")⟩, ⟨PyData.keyHash P (Str.ofString "__loader__"), (Value.str (Str.ofString "__loader__") 4), (Value.builtin "builtins.__loader__:shared#\x6fpaque")⟩, ⟨PyData.keyHash P (Str.ofString "__spec__"), (Value.str (Str.ofString "__spec__") 5), (Value.builtin "builtins.__spec__#\x6fpaque")⟩, ⟨PyData.keyHash P (Str.ofString "__build_class__"), (Value.str (Str.ofString "__build_class__") 6), (Value.builtin "__build_class__")⟩, ⟨PyData.keyHash P (Str.ofString "__import__"), (Value.str (Str.ofString "__import__") 7), (Value.builtin "__import__")⟩, ⟨PyData.keyHash P (Str.ofString "abs"), (Value.str (Str.ofString "abs") 8), (Value.builtin "abs")⟩, ⟨PyData.keyHash P (Str.ofString "all"), (Value.str (Str.ofString "all") 9), (Value.builtin "all")⟩, ⟨PyData.keyHash P (Str.ofString "any"), (Value.str (Str.ofString "any") 10), (Value.builtin "any")⟩, ⟨PyData.keyHash P (Str.ofString "ascii"), (Value.str (Str.ofString "ascii") 11), (Value.builtin "ascii")⟩, ⟨PyData.keyHash P (Str.ofString "bin"), (Value.str (Str.ofString "bin") 12), (Value.builtin "bin")⟩, ⟨PyData.keyHash P (Str.ofString "breakpoint"), (Value.str (Str.ofString "breakpoint") 13), (Value.builtin "breakpoint")⟩, ⟨PyData.keyHash P (Str.ofString "callable"), (Value.str (Str.ofString "callable") 14), (Value.builtin "callable")⟩, ⟨PyData.keyHash P (Str.ofString "chr"), (Value.str (Str.ofString "chr") 15), (Value.builtin "chr")⟩, ⟨PyData.keyHash P (Str.ofString "compile"), (Value.str (Str.ofString "compile") 16), (Value.builtin "compile")⟩, ⟨PyData.keyHash P (Str.ofString "delattr"), (Value.str (Str.ofString "delattr") 17), (Value.builtin "delattr")⟩, ⟨PyData.keyHash P (Str.ofString "dir"), (Value.str (Str.ofString "dir") 18), (Value.builtin "dir")⟩, ⟨PyData.keyHash P (Str.ofString "divmod"), (Value.str (Str.ofString "divmod") 19), (Value.builtin "divmod")⟩, ⟨PyData.keyHash P (Str.ofString "eval"), (Value.str (Str.ofString "eval") 20), (Value.builtin "eval")⟩, ⟨PyData.keyHash P (Str.ofString "exec"), (Value.str (Str.ofString "exec") 21), (Value.builtin "exec")⟩, ⟨PyData.keyHash P (Str.ofString "format"), (Value.str (Str.ofString "format") 22), (Value.builtin "format")⟩, ⟨PyData.keyHash P (Str.ofString "getattr"), (Value.str (Str.ofString "getattr") 23), (Value.builtin "getattr")⟩, ⟨PyData.keyHash P (Str.ofString "globals"), (Value.str (Str.ofString "globals") 24), (Value.builtin "globals")⟩, ⟨PyData.keyHash P (Str.ofString "hasattr"), (Value.str (Str.ofString "hasattr") 25), (Value.builtin "hasattr")⟩, ⟨PyData.keyHash P (Str.ofString "hash"), (Value.str (Str.ofString "hash") 26), (Value.builtin "hash")⟩, ⟨PyData.keyHash P (Str.ofString "hex"), (Value.str (Str.ofString "hex") 27), (Value.builtin "hex")⟩, ⟨PyData.keyHash P (Str.ofString "id"), (Value.str (Str.ofString "id") 28), (Value.builtin "id")⟩, ⟨PyData.keyHash P (Str.ofString "input"), (Value.str (Str.ofString "input") 29), (Value.builtin "input")⟩, ⟨PyData.keyHash P (Str.ofString "isinstance"), (Value.str (Str.ofString "isinstance") 30), (Value.builtin "isinstance")⟩, ⟨PyData.keyHash P (Str.ofString "issubclass"), (Value.str (Str.ofString "issubclass") 31), (Value.builtin "issubclass")⟩, ⟨PyData.keyHash P (Str.ofString "iter"), (Value.str (Str.ofString "iter") 32), (Value.builtin "iter")⟩, ⟨PyData.keyHash P (Str.ofString "aiter"), (Value.str (Str.ofString "aiter") 33), (Value.builtin "aiter")⟩, ⟨PyData.keyHash P (Str.ofString "len"), (Value.str (Str.ofString "len") 34), (Value.builtin "len")⟩, ⟨PyData.keyHash P (Str.ofString "locals"), (Value.str (Str.ofString "locals") 35), (Value.builtin "locals")⟩, ⟨PyData.keyHash P (Str.ofString "max"), (Value.str (Str.ofString "max") 36), (Value.builtin "max")⟩, ⟨PyData.keyHash P (Str.ofString "min"), (Value.str (Str.ofString "min") 37), (Value.builtin "min")⟩, ⟨PyData.keyHash P (Str.ofString "next"), (Value.str (Str.ofString "next") 38), (Value.builtin "next")⟩, ⟨PyData.keyHash P (Str.ofString "anext"), (Value.str (Str.ofString "anext") 39), (Value.builtin "anext")⟩, ⟨PyData.keyHash P (Str.ofString "oct"), (Value.str (Str.ofString "oct") 40), (Value.builtin "oct")⟩, ⟨PyData.keyHash P (Str.ofString "ord"), (Value.str (Str.ofString "ord") 41), (Value.builtin "ord")⟩, ⟨PyData.keyHash P (Str.ofString "pow"), (Value.str (Str.ofString "pow") 42), (Value.builtin "pow")⟩, ⟨PyData.keyHash P (Str.ofString "print"), (Value.str (Str.ofString "print") 43), (Value.builtin "print")⟩, ⟨PyData.keyHash P (Str.ofString "repr"), (Value.str (Str.ofString "repr") 44), (Value.builtin "repr")⟩, ⟨PyData.keyHash P (Str.ofString "round"), (Value.str (Str.ofString "round") 45), (Value.builtin "round")⟩, ⟨PyData.keyHash P (Str.ofString "setattr"), (Value.str (Str.ofString "setattr") 46), (Value.builtin "setattr")⟩, ⟨PyData.keyHash P (Str.ofString "sorted"), (Value.str (Str.ofString "sorted") 47), (Value.builtin "sorted")⟩, ⟨PyData.keyHash P (Str.ofString "sum"), (Value.str (Str.ofString "sum") 48), (Value.builtin "sum")⟩, ⟨PyData.keyHash P (Str.ofString "vars"), (Value.str (Str.ofString "vars") 49), (Value.builtin "vars")⟩, ⟨PyData.keyHash P (Str.ofString "None"), (Value.str (Str.ofString "None") 50), Value.none⟩, ⟨PyData.keyHash P (Str.ofString "Ellipsis"), (Value.str (Str.ofString "Ellipsis") 51), Value.ellipsis⟩, ⟨PyData.keyHash P (Str.ofString "NotImplemented"), (Value.str (Str.ofString "NotImplemented") 52), Value.notImplemented⟩, ⟨PyData.keyHash P (Str.ofString "False"), (Value.str (Str.ofString "False") 53), (Value.bool false)⟩, ⟨PyData.keyHash P (Str.ofString "True"), (Value.str (Str.ofString "True") 54), (Value.bool true)⟩, ⟨PyData.keyHash P (Str.ofString "bool"), (Value.str (Str.ofString "bool") 55), (Value.type "bool")⟩, ⟨PyData.keyHash P (Str.ofString "memoryview"), (Value.str (Str.ofString "memoryview") 56), (Value.type "memoryview")⟩, ⟨PyData.keyHash P (Str.ofString "bytearray"), (Value.str (Str.ofString "bytearray") 57), (Value.type "bytearray")⟩, ⟨PyData.keyHash P (Str.ofString "bytes"), (Value.str (Str.ofString "bytes") 58), (Value.type "bytes")⟩, ⟨PyData.keyHash P (Str.ofString "classmethod"), (Value.str (Str.ofString "classmethod") 59), (Value.type "classmethod")⟩, ⟨PyData.keyHash P (Str.ofString "complex"), (Value.str (Str.ofString "complex") 60), (Value.type "complex")⟩, ⟨PyData.keyHash P (Str.ofString "dict"), (Value.str (Str.ofString "dict") 61), (Value.type "dict")⟩, ⟨PyData.keyHash P (Str.ofString "enumerate"), (Value.str (Str.ofString "enumerate") 62), (Value.type "enumerate")⟩, ⟨PyData.keyHash P (Str.ofString "filter"), (Value.str (Str.ofString "filter") 63), (Value.type "filter")⟩, ⟨PyData.keyHash P (Str.ofString "float"), (Value.str (Str.ofString "float") 64), (Value.type "float")⟩, ⟨PyData.keyHash P (Str.ofString "frozenset"), (Value.str (Str.ofString "frozenset") 65), (Value.type "frozenset")⟩, ⟨PyData.keyHash P (Str.ofString "property"), (Value.str (Str.ofString "property") 66), (Value.type "property")⟩, ⟨PyData.keyHash P (Str.ofString "int"), (Value.str (Str.ofString "int") 67), (Value.type "int")⟩, ⟨PyData.keyHash P (Str.ofString "list"), (Value.str (Str.ofString "list") 68), (Value.type "list")⟩, ⟨PyData.keyHash P (Str.ofString "map"), (Value.str (Str.ofString "map") 69), (Value.type "map")⟩, ⟨PyData.keyHash P (Str.ofString "object"), (Value.str (Str.ofString "object") 70), (Value.type "object")⟩, ⟨PyData.keyHash P (Str.ofString "range"), (Value.str (Str.ofString "range") 71), (Value.type "range")⟩, ⟨PyData.keyHash P (Str.ofString "reversed"), (Value.str (Str.ofString "reversed") 72), (Value.type "reversed")⟩, ⟨PyData.keyHash P (Str.ofString "set"), (Value.str (Str.ofString "set") 73), (Value.type "set")⟩, ⟨PyData.keyHash P (Str.ofString "slice"), (Value.str (Str.ofString "slice") 74), (Value.type "slice")⟩, ⟨PyData.keyHash P (Str.ofString "staticmethod"), (Value.str (Str.ofString "staticmethod") 75), (Value.type "staticmethod")⟩, ⟨PyData.keyHash P (Str.ofString "str"), (Value.str (Str.ofString "str") 76), (Value.type "str")⟩, ⟨PyData.keyHash P (Str.ofString "super"), (Value.str (Str.ofString "super") 77), (Value.type "super")⟩, ⟨PyData.keyHash P (Str.ofString "tuple"), (Value.str (Str.ofString "tuple") 78), (Value.type "tuple")⟩, ⟨PyData.keyHash P (Str.ofString "type"), (Value.str (Str.ofString "type") 79), (Value.type "type")⟩, ⟨PyData.keyHash P (Str.ofString "zip"), (Value.str (Str.ofString "zip") 80), (Value.type "zip")⟩, ⟨PyData.keyHash P (Str.ofString "__debug__"), (Value.str (Str.ofString "__debug__") 81), (Value.bool true)⟩, ⟨PyData.keyHash P (Str.ofString "BaseException"), (Value.str (Str.ofString "BaseException") 82), (Value.type "BaseException")⟩, ⟨PyData.keyHash P (Str.ofString "BaseExceptionGroup"), (Value.str (Str.ofString "BaseExceptionGroup") 83), (Value.type "BaseExceptionGroup")⟩, ⟨PyData.keyHash P (Str.ofString "Exception"), (Value.str (Str.ofString "Exception") 84), (Value.type "Exception")⟩, ⟨PyData.keyHash P (Str.ofString "GeneratorExit"), (Value.str (Str.ofString "GeneratorExit") 85), (Value.type "GeneratorExit")⟩, ⟨PyData.keyHash P (Str.ofString "KeyboardInterrupt"), (Value.str (Str.ofString "KeyboardInterrupt") 86), (Value.type "KeyboardInterrupt")⟩, ⟨PyData.keyHash P (Str.ofString "SystemExit"), (Value.str (Str.ofString "SystemExit") 87), (Value.type "SystemExit")⟩, ⟨PyData.keyHash P (Str.ofString "ArithmeticError"), (Value.str (Str.ofString "ArithmeticError") 88), (Value.type "ArithmeticError")⟩, ⟨PyData.keyHash P (Str.ofString "AssertionError"), (Value.str (Str.ofString "AssertionError") 89), (Value.type "AssertionError")⟩, ⟨PyData.keyHash P (Str.ofString "AttributeError"), (Value.str (Str.ofString "AttributeError") 90), (Value.type "AttributeError")⟩, ⟨PyData.keyHash P (Str.ofString "BufferError"), (Value.str (Str.ofString "BufferError") 91), (Value.type "BufferError")⟩, ⟨PyData.keyHash P (Str.ofString "EOFError"), (Value.str (Str.ofString "EOFError") 92), (Value.type "EOFError")⟩, ⟨PyData.keyHash P (Str.ofString "ImportError"), (Value.str (Str.ofString "ImportError") 93), (Value.type "ImportError")⟩, ⟨PyData.keyHash P (Str.ofString "LookupError"), (Value.str (Str.ofString "LookupError") 94), (Value.type "LookupError")⟩, ⟨PyData.keyHash P (Str.ofString "MemoryError"), (Value.str (Str.ofString "MemoryError") 95), (Value.type "MemoryError")⟩, ⟨PyData.keyHash P (Str.ofString "NameError"), (Value.str (Str.ofString "NameError") 96), (Value.type "NameError")⟩, ⟨PyData.keyHash P (Str.ofString "OSError"), (Value.str (Str.ofString "OSError") 97), (Value.type "OSError")⟩, ⟨PyData.keyHash P (Str.ofString "ReferenceError"), (Value.str (Str.ofString "ReferenceError") 98), (Value.type "ReferenceError")⟩, ⟨PyData.keyHash P (Str.ofString "RuntimeError"), (Value.str (Str.ofString "RuntimeError") 99), (Value.type "RuntimeError")⟩, ⟨PyData.keyHash P (Str.ofString "StopAsyncIteration"), (Value.str (Str.ofString "StopAsyncIteration") 100), (Value.type "StopAsyncIteration")⟩, ⟨PyData.keyHash P (Str.ofString "StopIteration"), (Value.str (Str.ofString "StopIteration") 101), (Value.type "StopIteration")⟩, ⟨PyData.keyHash P (Str.ofString "SyntaxError"), (Value.str (Str.ofString "SyntaxError") 102), (Value.type "SyntaxError")⟩, ⟨PyData.keyHash P (Str.ofString "SystemError"), (Value.str (Str.ofString "SystemError") 103), (Value.type "SystemError")⟩, ⟨PyData.keyHash P (Str.ofString "TypeError"), (Value.str (Str.ofString "TypeError") 104), (Value.type "TypeError")⟩, ⟨PyData.keyHash P (Str.ofString "ValueError"), (Value.str (Str.ofString "ValueError") 105), (Value.type "ValueError")⟩, ⟨PyData.keyHash P (Str.ofString "Warning"), (Value.str (Str.ofString "Warning") 106), (Value.type "Warning")⟩, ⟨PyData.keyHash P (Str.ofString "FloatingPointError"), (Value.str (Str.ofString "FloatingPointError") 107), (Value.type "FloatingPointError")⟩, ⟨PyData.keyHash P (Str.ofString "OverflowError"), (Value.str (Str.ofString "OverflowError") 108), (Value.type "OverflowError")⟩, ⟨PyData.keyHash P (Str.ofString "ZeroDivisionError"), (Value.str (Str.ofString "ZeroDivisionError") 109), (Value.type "ZeroDivisionError")⟩, ⟨PyData.keyHash P (Str.ofString "BytesWarning"), (Value.str (Str.ofString "BytesWarning") 110), (Value.type "BytesWarning")⟩, ⟨PyData.keyHash P (Str.ofString "DeprecationWarning"), (Value.str (Str.ofString "DeprecationWarning") 111), (Value.type "DeprecationWarning")⟩, ⟨PyData.keyHash P (Str.ofString "EncodingWarning"), (Value.str (Str.ofString "EncodingWarning") 112), (Value.type "EncodingWarning")⟩, ⟨PyData.keyHash P (Str.ofString "FutureWarning"), (Value.str (Str.ofString "FutureWarning") 113), (Value.type "FutureWarning")⟩, ⟨PyData.keyHash P (Str.ofString "ImportWarning"), (Value.str (Str.ofString "ImportWarning") 114), (Value.type "ImportWarning")⟩, ⟨PyData.keyHash P (Str.ofString "PendingDeprecationWarning"), (Value.str (Str.ofString "PendingDeprecationWarning") 115), (Value.type "PendingDeprecationWarning")⟩, ⟨PyData.keyHash P (Str.ofString "ResourceWarning"), (Value.str (Str.ofString "ResourceWarning") 116), (Value.type "ResourceWarning")⟩, ⟨PyData.keyHash P (Str.ofString "RuntimeWarning"), (Value.str (Str.ofString "RuntimeWarning") 117), (Value.type "RuntimeWarning")⟩, ⟨PyData.keyHash P (Str.ofString "SyntaxWarning"), (Value.str (Str.ofString "SyntaxWarning") 118), (Value.type "SyntaxWarning")⟩, ⟨PyData.keyHash P (Str.ofString "UnicodeWarning"), (Value.str (Str.ofString "UnicodeWarning") 119), (Value.type "UnicodeWarning")⟩, ⟨PyData.keyHash P (Str.ofString "UserWarning"), (Value.str (Str.ofString "UserWarning") 120), (Value.type "UserWarning")⟩, ⟨PyData.keyHash P (Str.ofString "BlockingIOError"), (Value.str (Str.ofString "BlockingIOError") 121), (Value.type "BlockingIOError")⟩, ⟨PyData.keyHash P (Str.ofString "ChildProcessError"), (Value.str (Str.ofString "ChildProcessError") 122), (Value.type "ChildProcessError")⟩, ⟨PyData.keyHash P (Str.ofString "ConnectionError"), (Value.str (Str.ofString "ConnectionError") 123), (Value.type "ConnectionError")⟩, ⟨PyData.keyHash P (Str.ofString "FileExistsError"), (Value.str (Str.ofString "FileExistsError") 124), (Value.type "FileExistsError")⟩, ⟨PyData.keyHash P (Str.ofString "FileNotFoundError"), (Value.str (Str.ofString "FileNotFoundError") 125), (Value.type "FileNotFoundError")⟩, ⟨PyData.keyHash P (Str.ofString "InterruptedError"), (Value.str (Str.ofString "InterruptedError") 126), (Value.type "InterruptedError")⟩, ⟨PyData.keyHash P (Str.ofString "IsADirectoryError"), (Value.str (Str.ofString "IsADirectoryError") 127), (Value.type "IsADirectoryError")⟩, ⟨PyData.keyHash P (Str.ofString "NotADirectoryError"), (Value.str (Str.ofString "NotADirectoryError") 128), (Value.type "NotADirectoryError")⟩, ⟨PyData.keyHash P (Str.ofString "PermissionError"), (Value.str (Str.ofString "PermissionError") 129), (Value.type "PermissionError")⟩, ⟨PyData.keyHash P (Str.ofString "ProcessLookupError"), (Value.str (Str.ofString "ProcessLookupError") 130), (Value.type "ProcessLookupError")⟩, ⟨PyData.keyHash P (Str.ofString "TimeoutError"), (Value.str (Str.ofString "TimeoutError") 131), (Value.type "TimeoutError")⟩, ⟨PyData.keyHash P (Str.ofString "IndentationError"), (Value.str (Str.ofString "IndentationError") 132), (Value.type "IndentationError")⟩, ⟨PyData.keyHash P (Str.ofString "_IncompleteInputError"), (Value.str (Str.ofString "_IncompleteInputError") 133), (Value.type "_IncompleteInputError")⟩, ⟨PyData.keyHash P (Str.ofString "IndexError"), (Value.str (Str.ofString "IndexError") 134), (Value.type "IndexError")⟩, ⟨PyData.keyHash P (Str.ofString "KeyError"), (Value.str (Str.ofString "KeyError") 135), (Value.type "KeyError")⟩, ⟨PyData.keyHash P (Str.ofString "ModuleNotFoundError"), (Value.str (Str.ofString "ModuleNotFoundError") 136), (Value.type "ModuleNotFoundError")⟩, ⟨PyData.keyHash P (Str.ofString "NotImplementedError"), (Value.str (Str.ofString "NotImplementedError") 137), (Value.type "NotImplementedError")⟩, ⟨PyData.keyHash P (Str.ofString "PythonFinalizationError"), (Value.str (Str.ofString "PythonFinalizationError") 138), (Value.type "PythonFinalizationError")⟩, ⟨PyData.keyHash P (Str.ofString "RecursionError"), (Value.str (Str.ofString "RecursionError") 139), (Value.type "RecursionError")⟩, ⟨PyData.keyHash P (Str.ofString "UnboundLocalError"), (Value.str (Str.ofString "UnboundLocalError") 140), (Value.type "UnboundLocalError")⟩, ⟨PyData.keyHash P (Str.ofString "UnicodeError"), (Value.str (Str.ofString "UnicodeError") 141), (Value.type "UnicodeError")⟩, ⟨PyData.keyHash P (Str.ofString "BrokenPipeError"), (Value.str (Str.ofString "BrokenPipeError") 142), (Value.type "BrokenPipeError")⟩, ⟨PyData.keyHash P (Str.ofString "ConnectionAbortedError"), (Value.str (Str.ofString "ConnectionAbortedError") 143), (Value.type "ConnectionAbortedError")⟩, ⟨PyData.keyHash P (Str.ofString "ConnectionRefusedError"), (Value.str (Str.ofString "ConnectionRefusedError") 144), (Value.type "ConnectionRefusedError")⟩, ⟨PyData.keyHash P (Str.ofString "ConnectionResetError"), (Value.str (Str.ofString "ConnectionResetError") 145), (Value.type "ConnectionResetError")⟩, ⟨PyData.keyHash P (Str.ofString "TabError"), (Value.str (Str.ofString "TabError") 146), (Value.type "TabError")⟩, ⟨PyData.keyHash P (Str.ofString "UnicodeDecodeError"), (Value.str (Str.ofString "UnicodeDecodeError") 147), (Value.type "UnicodeDecodeError")⟩, ⟨PyData.keyHash P (Str.ofString "UnicodeEncodeError"), (Value.str (Str.ofString "UnicodeEncodeError") 148), (Value.type "UnicodeEncodeError")⟩, ⟨PyData.keyHash P (Str.ofString "UnicodeTranslateError"), (Value.str (Str.ofString "UnicodeTranslateError") 149), (Value.type "UnicodeTranslateError")⟩, ⟨PyData.keyHash P (Str.ofString "ExceptionGroup"), (Value.str (Str.ofString "ExceptionGroup") 150), (Value.type "ExceptionGroup")⟩, ⟨PyData.keyHash P (Str.ofString "EnvironmentError"), (Value.str (Str.ofString "EnvironmentError") 151), (Value.type "OSError")⟩, ⟨PyData.keyHash P (Str.ofString "IOError"), (Value.str (Str.ofString "IOError") 152), (Value.type "OSError")⟩, ⟨PyData.keyHash P (Str.ofString "open"), (Value.str (Str.ofString "open") 153), (Value.builtin "open")⟩, ⟨PyData.keyHash P (Str.ofString "quit"), (Value.str (Str.ofString "quit") 154), (Value.builtin "builtins.quit#\x6fpaque")⟩, ⟨PyData.keyHash P (Str.ofString "exit"), (Value.str (Str.ofString "exit") 155), (Value.builtin "builtins.exit#\x6fpaque")⟩, ⟨PyData.keyHash P (Str.ofString "copyright"), (Value.str (Str.ofString "copyright") 156), (Value.builtin "builtins.copyright#\x6fpaque")⟩, ⟨PyData.keyHash P (Str.ofString "credits"), (Value.str (Str.ofString "credits") 157), (Value.builtin "builtins.credits#\x6fpaque")⟩, ⟨PyData.keyHash P (Str.ofString "license"), (Value.str (Str.ofString "license") 158), (Value.builtin "builtins.license#\x6fpaque")⟩, ⟨PyData.keyHash P (Str.ofString "help"), (Value.str (Str.ofString "help") 159), (Value.builtin "builtins.help#\x6fpaque")⟩]) 159), (List.toArray [])⟩
noncomputable def o1 (P : Params) : Obj := ⟨(Value.type "dict"), none, (.dict (List.toArray [⟨PyData.keyHash P (Str.ofString "builtins"), (Value.str (Str.ofString "builtins") 162), (Value.ref 4)⟩, ⟨PyData.keyHash P (Str.ofString "__main__"), (Value.str (Str.ofString "__main__") 163), (Value.ref 5)⟩, ⟨PyData.keyHash P (Str.ofString "_sre"), (Value.str (Str.ofString "_sre") 244), (Value.ref 12)⟩, ⟨PyData.keyHash P (Str.ofString "_collections"), (Value.str (Str.ofString "_collections") 292), (Value.ref 30)⟩]) 4), (List.toArray [])⟩
noncomputable def o2 (P : Params) : Obj := ⟨Value.none, none, (.dict (List.toArray [⟨PyData.keyHash P (Str.ofString "\x69mport.loaded._sre"), (Value.str (Str.ofString "\x69mport.loaded._sre") 183), (Value.bool true)⟩, ⟨PyData.keyHash P (Str.ofString "class._frozen_importlib.BuiltinImporter"), (Value.str (Str.ofString "class._frozen_importlib.BuiltinImporter") 185), (Value.ref 14)⟩, ⟨PyData.keyHash P (Str.ofString "watched.\x69mport"), (Value.str (Str.ofString "watched.\x69mport") 206), (Value.ref 18)⟩, ⟨PyData.keyHash P (Str.ofString "class._frozen_importlib.ModuleSpec"), (Value.str (Str.ofString "class._frozen_importlib.ModuleSpec") 216), (Value.ref 22)⟩, ⟨PyData.keyHash P (Str.ofString "sys.modules.booked-epoch"), (Value.str (Str.ofString "sys.modules.booked-epoch") 245), (Value.int 4 0)⟩, ⟨PyData.keyHash P (Str.ofString "\x69mport.later-laid._sre"), (Value.str (Str.ofString "\x69mport.later-laid._sre") 270), (Value.bool true)⟩, ⟨PyData.keyHash P (Str.ofString "watched.library"), (Value.str (Str.ofString "watched.library") 272), (Value.ref 27)⟩, ⟨PyData.keyHash P (Str.ofString "watched.library-objects"), (Value.str (Str.ofString "watched.library-objects") 0), (Value.str (Str.ofString "\x0c\x1e") 0)⟩, ⟨PyData.keyHash P (Str.ofString "watched.library-deep._sre"), (Value.str (Str.ofString "watched.library-deep._sre") 273), (Value.str (Str.ofString "\x04\x00\x00\x0b\x04\x00\x00\x0b\x04\x00\x00\x03\x04\x00\x00\x0b\x08\x04dict\x02") 0)⟩, ⟨PyData.keyHash P (Str.ofString "\x69mport.loaded._collections"), (Value.str (Str.ofString "\x69mport.loaded._collections") 280), (Value.bool true)⟩, ⟨PyData.keyHash P (Str.ofString "sys.modules.landed._collections"), (Value.str (Str.ofString "sys.modules.landed._collections") 294), (Value.bool true)⟩, ⟨PyData.keyHash P (Str.ofString "\x69mport.later-laid._collections"), (Value.str (Str.ofString "\x69mport.later-laid._collections") 309), (Value.bool true)⟩, ⟨PyData.keyHash P (Str.ofString "watched.library-deep._collections"), (Value.str (Str.ofString "watched.library-deep._collections") 311), (Value.str (Str.ofString "\x04\x00\x00\x1d\x04\x00\x00\x1d\x04\x00\x00\x03\x04\x00\x00\x1d\x08\x04dict\x02") 0)⟩]) 13), (List.toArray [])⟩
noncomputable def o3 (P : Params) : Obj := ⟨(Value.type "dict"), none, (.dict (List.toArray [⟨PyData.keyHash P (Str.ofString "__name__"), (Value.str (Str.ofString "__name__") 165), (Value.str (Str.ofString "__main__") 164)⟩, ⟨PyData.keyHash P (Str.ofString "__doc__"), (Value.str (Str.ofString "__doc__") 166), Value.none⟩, ⟨PyData.keyHash P (Str.ofString "__package__"), (Value.str (Str.ofString "__package__") 167), Value.none⟩, ⟨PyData.keyHash P (Str.ofString "__loader__"), (Value.str (Str.ofString "__loader__") 168), (Value.builtin "__main__.__loader__#\x6fpaque")⟩, ⟨PyData.keyHash P (Str.ofString "__spec__"), (Value.str (Str.ofString "__spec__") 169), Value.none⟩, ⟨PyData.keyHash P (Str.ofString "__annotations__"), (Value.str (Str.ofString "__annotations__") 170), (Value.ref 6)⟩, ⟨PyData.keyHash P (Str.ofString "__builtins__"), (Value.str (Str.ofString "__builtins__") 171), (Value.ref 4)⟩, ⟨PyData.keyHash P (Str.ofString "__file__"), (Value.str (Str.ofString "__file__") 173), (Value.str (Str.ofString "/claim/cut.py") 172)⟩, ⟨PyData.keyHash P (Str.ofString "__cached__"), (Value.str (Str.ofString "__cached__") 174), Value.none⟩, ⟨PyData.keyHash P (Str.ofString "_sre"), (Value.str (Str.ofString "_sre") 275), (Value.ref 12)⟩, ⟨PyData.keyHash P (Str.ofString "deque"), (Value.str (Str.ofString "deque") 317), (Value.type "collections.deque")⟩]) 11), (List.toArray [])⟩
noncomputable def o4 (P : Params) : Obj := ⟨(Value.type "module"), (some 0), Data.plain, (List.toArray [])⟩
noncomputable def o5 (P : Params) : Obj := ⟨(Value.type "module"), (some 3), Data.plain, (List.toArray [])⟩
noncomputable def o6 (P : Params) : Obj := ⟨(Value.type "dict"), none, (.dict (List.toArray []) 0), (List.toArray [])⟩
noncomputable def o7 (P : Params) : Obj := ⟨(Value.type "tuple"), none, (Data.seq (List.toArray []) 0), (List.toArray [])⟩
noncomputable def o8 (P : Params) : Obj := ⟨Value.none, none, (Data.fields (List.toArray [])), (List.toArray [])⟩
noncomputable def o9 (P : Params) : Obj := ⟨(Value.type "code"), none, (Data.fields (List.toArray [(Value.str (Str.ofString "<module>") 176), (Value.str (Str.ofString "<module>") 177), (Value.str (Str.ofString "/claim/cut.py") 178), (Value.int 1 0), (Value.int 0 0), (Value.int 0 0), (Value.int 0 0), (Value.int 0 0), (Value.ref 7), (Value.bool false), (Value.int 175 0), (Value.ref 8), Value.none, Value.none, Value.none, Value.none, (Value.int 179 0), (Value.int 1 0), (Value.str (Str.ofString "/claim/cut.py") 180)])), (List.toArray [])⟩
noncomputable def o10 (P : Params) : Obj := ⟨(Value.type "frame"), none, Data.plain, (List.toArray [(some (Value.ref 9)), (some (Value.ref 3)), (some (Value.ref 3)), none, (some (Value.str (Str.ofString "__main__") 164)), none, (some (Value.ref 0))])⟩
noncomputable def o11 (P : Params) : Obj := ⟨(Value.type "dict"), none, (.dict (List.toArray [⟨PyData.keyHash P (Str.ofString "__name__"), (Value.str (Str.ofString "__name__") 247), (Value.str (Str.ofString "_sre") 246)⟩, ⟨PyData.keyHash P (Str.ofString "__doc__"), (Value.str (Str.ofString "__doc__") 248), Value.none⟩, ⟨PyData.keyHash P (Str.ofString "__package__"), (Value.str (Str.ofString "__package__") 250), (Value.str (Str.ofString "") 249)⟩, ⟨PyData.keyHash P (Str.ofString "__loader__"), (Value.str (Str.ofString "__loader__") 251), (Value.ref 14)⟩, ⟨PyData.keyHash P (Str.ofString "__spec__"), (Value.str (Str.ofString "__spec__") 252), (Value.ref 26)⟩, ⟨PyData.keyHash P (Str.ofString "compile"), (Value.str (Str.ofString "compile") 253), (Value.builtin "_sre.compile")⟩, ⟨PyData.keyHash P (Str.ofString "template"), (Value.str (Str.ofString "template") 254), (Value.builtin "_sre.template")⟩, ⟨PyData.keyHash P (Str.ofString "getcodesize"), (Value.str (Str.ofString "getcodesize") 255), (Value.builtin "_sre.getcodesize")⟩, ⟨PyData.keyHash P (Str.ofString "ascii_iscased"), (Value.str (Str.ofString "ascii_iscased") 256), (Value.builtin "_sre.ascii_iscased")⟩, ⟨PyData.keyHash P (Str.ofString "unicode_iscased"), (Value.str (Str.ofString "unicode_iscased") 257), (Value.builtin "_sre.unicode_iscased")⟩, ⟨PyData.keyHash P (Str.ofString "ascii_tolower"), (Value.str (Str.ofString "ascii_tolower") 258), (Value.builtin "_sre.ascii_tolower")⟩, ⟨PyData.keyHash P (Str.ofString "unicode_tolower"), (Value.str (Str.ofString "unicode_tolower") 259), (Value.builtin "_sre.unicode_tolower")⟩, ⟨PyData.keyHash P (Str.ofString "MAGIC"), (Value.str (Str.ofString "MAGIC") 261), (Value.int 20230612 260)⟩, ⟨PyData.keyHash P (Str.ofString "CODESIZE"), (Value.str (Str.ofString "CODESIZE") 263), (Value.int 4 262)⟩, ⟨PyData.keyHash P (Str.ofString "MAXREPEAT"), (Value.str (Str.ofString "MAXREPEAT") 265), (Value.int 4294967295 264)⟩, ⟨PyData.keyHash P (Str.ofString "MAXGROUPS"), (Value.str (Str.ofString "MAXGROUPS") 267), (Value.int 1073741823 266)⟩, ⟨PyData.keyHash P (Str.ofString "copyright"), (Value.str (Str.ofString "copyright") 269), (Value.str (Str.ofString " SRE 2.2.2 Copyright (c) 1997-2002 by Secret Labs AB ") 268)⟩]) 17), (List.toArray [])⟩
noncomputable def o12 (P : Params) : Obj := ⟨(Value.type "module"), (some 11), Data.plain, (List.toArray [])⟩
noncomputable def o13 (P : Params) : Obj := ⟨(Value.type "dict"), none, (.dict (List.toArray [⟨PyData.keyHash P (Str.ofString "__module__"), (Value.str (Str.ofString "__module__") 189), (Value.str (Str.ofString "_frozen_importlib") 186)⟩, ⟨PyData.keyHash P (Str.ofString "__firstlineno__"), (Value.str (Str.ofString "__firstlineno__") 190), (Value.int 971 187)⟩, ⟨PyData.keyHash P (Str.ofString "__doc__"), (Value.str (Str.ofString "__doc__") 191), (Value.builtin "_frozen_importlib.BuiltinImporter.__doc__:str#\x6fpaque")⟩, ⟨PyData.keyHash P (Str.ofString "_ORIGIN"), (Value.str (Str.ofString "_ORIGIN") 192), (Value.str (Str.ofString "built-in") 188)⟩, ⟨PyData.keyHash P (Str.ofString "find_spec"), (Value.str (Str.ofString "find_spec") 193), (Value.builtin "_frozen_importlib.BuiltinImporter.find_spec#\x6fpaque")⟩, ⟨PyData.keyHash P (Str.ofString "create_module"), (Value.str (Str.ofString "create_module") 194), (Value.builtin "_frozen_importlib.BuiltinImporter.create_module#\x6fpaque")⟩, ⟨PyData.keyHash P (Str.ofString "exec_module"), (Value.str (Str.ofString "exec_module") 195), (Value.builtin "_frozen_importlib.BuiltinImporter.exec_module#\x6fpaque")⟩, ⟨PyData.keyHash P (Str.ofString "get_code"), (Value.str (Str.ofString "get_code") 196), (Value.builtin "_frozen_importlib.BuiltinImporter.get_code#\x6fpaque")⟩, ⟨PyData.keyHash P (Str.ofString "get_source"), (Value.str (Str.ofString "get_source") 197), (Value.builtin "_frozen_importlib.BuiltinImporter.get_source#\x6fpaque")⟩, ⟨PyData.keyHash P (Str.ofString "is_package"), (Value.str (Str.ofString "is_package") 198), (Value.builtin "_frozen_importlib.BuiltinImporter.is_package#\x6fpaque")⟩, ⟨PyData.keyHash P (Str.ofString "load_module"), (Value.str (Str.ofString "load_module") 199), (Value.builtin "_frozen_importlib.BuiltinImporter.load_module#\x6fpaque")⟩, ⟨PyData.keyHash P (Str.ofString "__static_attributes__"), (Value.str (Str.ofString "__static_attributes__") 200), (Value.ref 15)⟩, ⟨PyData.keyHash P (Str.ofString "__dict__"), (Value.str (Str.ofString "__dict__") 202), (Value.ref 16)⟩, ⟨PyData.keyHash P (Str.ofString "__weakref__"), (Value.str (Str.ofString "__weakref__") 204), (Value.ref 17)⟩]) 14), (List.toArray [])⟩
noncomputable def o14 (P : Params) : Obj := ⟨(Value.type "type"), none, (Data.cls ⟨(Str.ofString "BuiltinImporter"), [(Value.type "object")], [(Value.ref 14), (Value.type "object")], 13, (Str.ofString "BuiltinImporter"), true, [], [], false, none, false⟩), (List.toArray [])⟩
noncomputable def o15 (P : Params) : Obj := ⟨(Value.type "getset_descriptor"), none, (Data.fields (List.toArray [(Value.str (Str.ofString "__dict__") 201), (Value.ref 14), (Value.builtin "function.__dict__"), (Value.builtin "function.__dict__#set")])), (List.toArray [])⟩
noncomputable def o16 (P : Params) : Obj := ⟨(Value.type "getset_descriptor"), none, (Data.fields (List.toArray [(Value.str (Str.ofString "__weakref__") 203), (Value.ref 14), (Value.builtin "ExceptionGroup.__weakref__"), Value.none])), (List.toArray [])⟩
noncomputable def o17 (P : Params) : Obj := ⟨Value.none, none, (Data.seq (List.toArray [(Value.int 13 0), (Value.str (Str.ofString "\x06½\n__module__\x06º\x11_frozen_importlib\x06¾\x0f__firstlineno__\x04»\x00ϋ\x06¿\x07__doc__\t4_frozen_importlib.BuiltinImporter.__doc__:str#\x6fpaque\x06À\x07_ORIGIN\x06¼\x08built-in\x06Á\tfind_spec\t2_frozen_importlib.BuiltinImporter.find_spec#\x6fpaque\x06Â\rcreate_module\t6_frozen_importlib.BuiltinImporter.create_module#\x6fpaque\x06Ã\x0bexec_module\t4_frozen_importlib.BuiltinImporter.exec_module#\x6fpaque\x06Ä\x08get_code\t1_frozen_importlib.BuiltinImporter.get_code#\x6fpaque\x06Å\nget_source\t3_frozen_importlib.BuiltinImporter.get_source#\x6fpaque\x06Æ\nis_package\t3_frozen_importlib.BuiltinImporter.is_package#\x6fpaque\x06Ç\x0bload_module\t4_frozen_importlib.BuiltinImporter.load_module#\x6fpaque\x06È\x15__static_attributes__\x04\x00\x00\x0f\x06Ê\x08__dict__\x04\x00\x00\x10\x06Ì\x0b__weakref__\x04\x00\x00\x11") 0), (Value.bool true), (Value.bool true), (Value.str (Str.ofString "") 205), (Value.int 21 0), (Value.str (Str.ofString "\x06ã\n__module__\x06Ù\x11_frozen_importlib\x06ä\x0f__firstlineno__\x04Ú\x00Ȳ\x06å\x07__doc__\t/_frozen_importlib.ModuleSpec.__doc__:str#\x6fpaque\x06æ\x08__init__\t,_frozen_importlib.ModuleSpec.__init__#\x6fpaque\x06ç\x08__repr__\t,_frozen_importlib.ModuleSpec.__repr__#\x6fpaque\x06è\x06__eq__\t*_frozen_importlib.ModuleSpec.__eq__#\x6fpaque\x06é\x06cached\t*_frozen_importlib.ModuleSpec.cached#\x6fpaque\x06ê\x06parent\t*_frozen_importlib.ModuleSpec.parent#\x6fpaque\x06ë\x0chas_location\t0_frozen_importlib.ModuleSpec.has_location#\x6fpaque\x06ì\x15__static_attributes__\x04\x00\x00\x17\x06î\x08__dict__\x04\x00\x00\x18\x06ð\x0b__weakref__\x04\x00\x00\x19\x06ñ\x08__hash__\x00") 0), (Value.bool true), (Value.bool true), (Value.str (Str.ofString "") 242)]) 1), (List.toArray [])⟩
noncomputable def o18 (P : Params) : Obj := ⟨(Value.type "list"), none, (Data.seq (List.toArray []) 0), (List.toArray [])⟩
noncomputable def o19 (P : Params) : Obj := ⟨(Value.type "dict"), none, (.dict (List.toArray [⟨PyData.keyHash P (Str.ofString "name"), (Value.str (Str.ofString "name") 208), (Value.str (Str.ofString "_sre") 207)⟩, ⟨PyData.keyHash P (Str.ofString "loader"), (Value.str (Str.ofString "loader") 209), (Value.ref 14)⟩, ⟨PyData.keyHash P (Str.ofString "origin"), (Value.str (Str.ofString "origin") 210), (Value.str (Str.ofString "built-in") 184)⟩, ⟨PyData.keyHash P (Str.ofString "loader_state"), (Value.str (Str.ofString "loader_state") 211), Value.none⟩, ⟨PyData.keyHash P (Str.ofString "submodule_search_locations"), (Value.str (Str.ofString "submodule_search_locations") 212), Value.none⟩, ⟨PyData.keyHash P (Str.ofString "_uninitialized_submodules"), (Value.str (Str.ofString "_uninitialized_submodules") 213), (Value.ref 19)⟩, ⟨PyData.keyHash P (Str.ofString "_set_fileattr"), (Value.str (Str.ofString "_set_fileattr") 214), (Value.bool false)⟩, ⟨PyData.keyHash P (Str.ofString "_cached"), (Value.str (Str.ofString "_cached") 215), Value.none⟩, ⟨PyData.keyHash P (Str.ofString "_initializing"), (Value.str (Str.ofString "_initializing") 243), (Value.bool false)⟩]) 9), (List.toArray [])⟩
noncomputable def o20 (P : Params) : Obj := ⟨(Value.type "dict"), none, (.dict (List.toArray [⟨PyData.keyHash P (Str.ofString "__module__"), (Value.str (Str.ofString "__module__") 227), (Value.str (Str.ofString "_frozen_importlib") 217)⟩, ⟨PyData.keyHash P (Str.ofString "__firstlineno__"), (Value.str (Str.ofString "__firstlineno__") 228), (Value.int 562 218)⟩, ⟨PyData.keyHash P (Str.ofString "__doc__"), (Value.str (Str.ofString "__doc__") 229), (Value.builtin "_frozen_importlib.ModuleSpec.__doc__:str#\x6fpaque")⟩, ⟨PyData.keyHash P (Str.ofString "__init__"), (Value.str (Str.ofString "__init__") 230), (Value.builtin "_frozen_importlib.ModuleSpec.__init__#\x6fpaque")⟩, ⟨PyData.keyHash P (Str.ofString "__repr__"), (Value.str (Str.ofString "__repr__") 231), (Value.builtin "_frozen_importlib.ModuleSpec.__repr__#\x6fpaque")⟩, ⟨PyData.keyHash P (Str.ofString "__eq__"), (Value.str (Str.ofString "__eq__") 232), (Value.builtin "_frozen_importlib.ModuleSpec.__eq__#\x6fpaque")⟩, ⟨PyData.keyHash P (Str.ofString "cached"), (Value.str (Str.ofString "cached") 233), (Value.builtin "_frozen_importlib.ModuleSpec.cached#\x6fpaque")⟩, ⟨PyData.keyHash P (Str.ofString "parent"), (Value.str (Str.ofString "parent") 234), (Value.builtin "_frozen_importlib.ModuleSpec.parent#\x6fpaque")⟩, ⟨PyData.keyHash P (Str.ofString "has_location"), (Value.str (Str.ofString "has_location") 235), (Value.builtin "_frozen_importlib.ModuleSpec.has_location#\x6fpaque")⟩, ⟨PyData.keyHash P (Str.ofString "__static_attributes__"), (Value.str (Str.ofString "__static_attributes__") 236), (Value.ref 23)⟩, ⟨PyData.keyHash P (Str.ofString "__dict__"), (Value.str (Str.ofString "__dict__") 238), (Value.ref 24)⟩, ⟨PyData.keyHash P (Str.ofString "__weakref__"), (Value.str (Str.ofString "__weakref__") 240), (Value.ref 25)⟩, ⟨PyData.keyHash P (Str.ofString "__hash__"), (Value.str (Str.ofString "__hash__") 241), Value.none⟩]) 13), (List.toArray [])⟩
noncomputable def o21 (P : Params) : Obj := ⟨(Value.type "type"), none, (Data.cls ⟨(Str.ofString "ModuleSpec"), [(Value.type "object")], [(Value.ref 22), (Value.type "object")], 21, (Str.ofString "ModuleSpec"), true, [], [], false, none, false⟩), (List.toArray [])⟩
noncomputable def o22 (P : Params) : Obj := ⟨(Value.type "tuple"), none, (Data.seq (List.toArray [(Value.str (Str.ofString "_cached") 219), (Value.str (Str.ofString "_set_fileattr") 220), (Value.str (Str.ofString "_uninitialized_submodules") 221), (Value.str (Str.ofString "loader") 222), (Value.str (Str.ofString "loader_state") 223), (Value.str (Str.ofString "name") 224), (Value.str (Str.ofString "origin") 225), (Value.str (Str.ofString "submodule_search_locations") 226)]) 0), (List.toArray [])⟩
noncomputable def o23 (P : Params) : Obj := ⟨(Value.type "getset_descriptor"), none, (Data.fields (List.toArray [(Value.str (Str.ofString "__dict__") 237), (Value.ref 22), (Value.builtin "function.__dict__"), (Value.builtin "function.__dict__#set")])), (List.toArray [])⟩
noncomputable def o24 (P : Params) : Obj := ⟨(Value.type "getset_descriptor"), none, (Data.fields (List.toArray [(Value.str (Str.ofString "__weakref__") 239), (Value.ref 22), (Value.builtin "ExceptionGroup.__weakref__"), Value.none])), (List.toArray [])⟩
noncomputable def o25 (P : Params) : Obj := ⟨(Value.ref 22), (some 20), Data.plain, (List.toArray [])⟩
noncomputable def o26 (P : Params) : Obj := ⟨Value.none, none, (Data.seq (List.toArray [(Value.int 11 0), (Value.str ⟨(List.toArray [6, 247, 8, 95, 95, 110, 97, 109, 101, 95, 95, 6, 246, 4, 95, 115, 114, 101, 6, 248, 7, 95, 95, 100, 111, 99, 95, 95, 0, 6, 250, 11, 95, 95, 112, 97, 99, 107, 97, 103, 101, 95, 95, 6, 249, 0, 6, 251, 10, 95, 95, 108, 111, 97, 100, 101, 114, 95, 95, 4, 0, 0, 14, 6, 252, 8, 95, 95, 115, 112, 101, 99, 95, 95, 4, 0, 0, 26, 6, 253, 7, 99, 111, 109, 112, 105, 108, 101, 9, 12, 95, 115, 114, 101, 46, 99, 111, 109, 112, 105, 108, 101, 6, 254, 8, 116, 101, 109, 112, 108, 97, 116, 101, 9, 13, 95, 115, 114, 101, 46, 116, 101, 109, 112, 108, 97, 116, 101, 6, 255, 11, 103, 101, 116, 99, 111, 100, 101, 115, 105, 122, 101, 9, 16, 95, 115, 114, 101, 46, 103, 101, 116, 99, 111, 100, 101, 115, 105, 122, 101, 6, 256, 13, 97, 115, 99, 105, 105, 95, 105, 115, 99, 97, 115, 101, 100, 9, 18, 95, 115, 114, 101, 46, 97, 115, 99, 105, 105, 95, 105, 115, 99, 97, 115, 101, 100, 6, 257, 15, 117, 110, 105, 99, 111, 100, 101, 95, 105, 115, 99, 97, 115, 101, 100, 9, 20, 95, 115, 114, 101, 46, 117, 110, 105, 99, 111, 100, 101, 95, 105, 115, 99, 97, 115, 101, 100, 6, 258, 13, 97, 115, 99, 105, 105, 95, 116, 111, 108, 111, 119, 101, 114, 9, 18, 95, 115, 114, 101, 46, 97, 115, 99, 105, 105, 95, 116, 111, 108, 111, 119, 101, 114, 6, 259, 15, 117, 110, 105, 99, 111, 100, 101, 95, 116, 111, 108, 111, 119, 101, 114, 9, 20, 95, 115, 114, 101, 46, 117, 110, 105, 99, 111, 100, 101, 95, 116, 111, 108, 111, 119, 101, 114, 6, 261, 5, 77, 65, 71, 73, 67, 4, 260, 0, 20230612, 6, 263, 8, 67, 79, 68, 69, 83, 73, 90, 69, 4, 262, 0, 4, 6, 265, 9, 77, 65, 88, 82, 69, 80, 69, 65, 84, 4, 264, 0, 4294967295, 6, 267, 9, 77, 65, 88, 71, 82, 79, 85, 80, 83, 4, 266, 0, 1073741823, 6, 269, 9, 99, 111, 112, 121, 114, 105, 103, 104, 116, 6, 268, 53, 32, 83, 82, 69, 32, 50, 46, 50, 46, 50, 32, 67, 111, 112, 121, 114, 105, 103, 104, 116, 32, 40, 99, 41, 32, 49, 57, 57, 55, 45, 50, 48, 48, 50, 32, 98, 121, 32, 83, 101, 99, 114, 101, 116, 32, 76, 97, 98, 115, 32, 65, 66, 32])⟩ 0), (Value.bool true), (Value.bool false), (Value.str (Str.ofString "_sre") 271), (Value.int 29 0), (Value.str (Str.ofString "\x06Ĩ\x08__name__\x06ħ\x0c_collections\x06ĩ\x07__doc__\t\x1f_collections.__doc__:str#\x6fpaque\x06ī\x0b__package__\x06Ī\x00\x06Ĭ\n__loader__\x04\x00\x00\x0e\x06ĭ\x08__spec__\x04\x00\x00!\x06Į\x0f_count_elements\t\x1c_collections._count_elements\x06į\x05deque\x08\x11collections.deque\x06İ\x0bdefaultdict\x08\x17collections.defaultdict\x06ı\x0f_deque_iterator\x08\x1bcollections._deque_iterator\x06Ĳ\x17_deque_reverse_iterator\x08#collections._deque_reverse_iterator\x06ĳ\x0c_tuplegetter\x08\x18collections._tuplegetter\x06Ĵ\x0bOrderedDict\x08\x17collections.OrderedDict") 0), (Value.bool true), (Value.bool false), (Value.str (Str.ofString "_collections") 310)]) 1), (List.toArray [])⟩
noncomputable def o27 (P : Params) : Obj := ⟨(Value.type "tuple"), none, (Data.seq (List.toArray [(Value.str (Str.ofString "deque") 277)]) 0), (List.toArray [])⟩
noncomputable def o28 (P : Params) : Obj := ⟨(Value.type "dict"), none, (.dict (List.toArray [⟨PyData.keyHash P (Str.ofString "__name__"), (Value.str (Str.ofString "__name__") 296), (Value.str (Str.ofString "_collections") 295)⟩, ⟨PyData.keyHash P (Str.ofString "__doc__"), (Value.str (Str.ofString "__doc__") 297), (Value.builtin "_collections.__doc__:str#\x6fpaque")⟩, ⟨PyData.keyHash P (Str.ofString "__package__"), (Value.str (Str.ofString "__package__") 299), (Value.str (Str.ofString "") 298)⟩, ⟨PyData.keyHash P (Str.ofString "__loader__"), (Value.str (Str.ofString "__loader__") 300), (Value.ref 14)⟩, ⟨PyData.keyHash P (Str.ofString "__spec__"), (Value.str (Str.ofString "__spec__") 301), (Value.ref 33)⟩, ⟨PyData.keyHash P (Str.ofString "_count_elements"), (Value.str (Str.ofString "_count_elements") 302), (Value.builtin "_collections._count_elements")⟩, ⟨PyData.keyHash P (Str.ofString "deque"), (Value.str (Str.ofString "deque") 303), (Value.type "collections.deque")⟩, ⟨PyData.keyHash P (Str.ofString "defaultdict"), (Value.str (Str.ofString "defaultdict") 304), (Value.type "collections.defaultdict")⟩, ⟨PyData.keyHash P (Str.ofString "_deque_iterator"), (Value.str (Str.ofString "_deque_iterator") 305), (Value.type "collections._deque_iterator")⟩, ⟨PyData.keyHash P (Str.ofString "_deque_reverse_iterator"), (Value.str (Str.ofString "_deque_reverse_iterator") 306), (Value.type "collections._deque_reverse_iterator")⟩, ⟨PyData.keyHash P (Str.ofString "_tuplegetter"), (Value.str (Str.ofString "_tuplegetter") 307), (Value.type "collections._tuplegetter")⟩, ⟨PyData.keyHash P (Str.ofString "OrderedDict"), (Value.str (Str.ofString "OrderedDict") 308), (Value.type "collections.OrderedDict")⟩]) 12), (List.toArray [])⟩
noncomputable def o29 (P : Params) : Obj := ⟨(Value.type "module"), (some 29), Data.plain, (List.toArray [])⟩
noncomputable def o30 (P : Params) : Obj := ⟨(Value.type "dict"), none, (.dict (List.toArray [⟨PyData.keyHash P (Str.ofString "name"), (Value.str (Str.ofString "name") 283), (Value.str (Str.ofString "_collections") 282)⟩, ⟨PyData.keyHash P (Str.ofString "loader"), (Value.str (Str.ofString "loader") 284), (Value.ref 14)⟩, ⟨PyData.keyHash P (Str.ofString "origin"), (Value.str (Str.ofString "origin") 285), (Value.str (Str.ofString "built-in") 281)⟩, ⟨PyData.keyHash P (Str.ofString "loader_state"), (Value.str (Str.ofString "loader_state") 286), Value.none⟩, ⟨PyData.keyHash P (Str.ofString "submodule_search_locations"), (Value.str (Str.ofString "submodule_search_locations") 287), Value.none⟩, ⟨PyData.keyHash P (Str.ofString "_uninitialized_submodules"), (Value.str (Str.ofString "_uninitialized_submodules") 288), (Value.ref 31)⟩, ⟨PyData.keyHash P (Str.ofString "_set_fileattr"), (Value.str (Str.ofString "_set_fileattr") 289), (Value.bool false)⟩, ⟨PyData.keyHash P (Str.ofString "_cached"), (Value.str (Str.ofString "_cached") 290), Value.none⟩, ⟨PyData.keyHash P (Str.ofString "_initializing"), (Value.str (Str.ofString "_initializing") 291), (Value.bool false)⟩]) 9), (List.toArray [])⟩
noncomputable def o31 (P : Params) : Obj := ⟨(Value.ref 22), (some 32), Data.plain, (List.toArray [])⟩
noncomputable def o32 (P : Params) : Obj := ⟨(Value.type "dict"), none, (.dict (List.toArray [⟨PyData.keyHash P (Str.ofString "__name__"), (Value.str (Str.ofString "__name__") 247), (Value.str (Str.ofString "_sre") 246)⟩, ⟨PyData.keyHash P (Str.ofString "__doc__"), (Value.str (Str.ofString "__doc__") 248), Value.none⟩, ⟨PyData.keyHash P (Str.ofString "__package__"), (Value.str (Str.ofString "__package__") 250), (Value.str (Str.ofString "") 249)⟩, ⟨PyData.keyHash P (Str.ofString "__loader__"), (Value.str (Str.ofString "__loader__") 251), (Value.builtin "off-the-table:_sre.__loader__:shared#\x6fpaque")⟩, ⟨PyData.keyHash P (Str.ofString "__spec__"), (Value.str (Str.ofString "__spec__") 252), (Value.builtin "off-the-table:_sre.__spec__:shared#\x6fpaque")⟩, ⟨PyData.keyHash P (Str.ofString "compile"), (Value.str (Str.ofString "compile") 253), (Value.builtin "_sre.compile")⟩, ⟨PyData.keyHash P (Str.ofString "template"), (Value.str (Str.ofString "template") 254), (Value.builtin "off-the-table:_sre.template:shared#\x6fpaque")⟩, ⟨PyData.keyHash P (Str.ofString "getcodesize"), (Value.str (Str.ofString "getcodesize") 255), (Value.builtin "off-the-table:_sre.getcodesize:shared#\x6fpaque")⟩, ⟨PyData.keyHash P (Str.ofString "ascii_iscased"), (Value.str (Str.ofString "ascii_iscased") 256), (Value.builtin "off-the-table:_sre.ascii_iscased:shared#\x6fpaque")⟩, ⟨PyData.keyHash P (Str.ofString "unicode_iscased"), (Value.str (Str.ofString "unicode_iscased") 257), (Value.builtin "off-the-table:_sre.unicode_iscased:shared#\x6fpaque")⟩, ⟨PyData.keyHash P (Str.ofString "ascii_tolower"), (Value.str (Str.ofString "ascii_tolower") 258), (Value.builtin "off-the-table:_sre.ascii_tolower:shared#\x6fpaque")⟩, ⟨PyData.keyHash P (Str.ofString "unicode_tolower"), (Value.str (Str.ofString "unicode_tolower") 259), (Value.builtin "off-the-table:_sre.unicode_tolower:shared#\x6fpaque")⟩, ⟨PyData.keyHash P (Str.ofString "MAGIC"), (Value.str (Str.ofString "MAGIC") 261), (Value.int 20230612 260)⟩, ⟨PyData.keyHash P (Str.ofString "CODESIZE"), (Value.str (Str.ofString "CODESIZE") 263), (Value.int 4 262)⟩, ⟨PyData.keyHash P (Str.ofString "MAXREPEAT"), (Value.str (Str.ofString "MAXREPEAT") 265), (Value.int 4294967295 264)⟩, ⟨PyData.keyHash P (Str.ofString "MAXGROUPS"), (Value.str (Str.ofString "MAXGROUPS") 267), (Value.int 1073741823 266)⟩, ⟨PyData.keyHash P (Str.ofString "copyright"), (Value.str (Str.ofString "copyright") 269), (Value.str (Str.ofString " SRE 2.2.2 Copyright (c) 1997-2002 by Secret Labs AB ") 268)⟩]) 17), (List.toArray [])⟩
noncomputable def o33 (P : Params) : Obj := ⟨(Value.type "dict"), none, (.dict (List.toArray [⟨PyData.keyHash P (Str.ofString "__name__"), (Value.str (Str.ofString "__name__") 296), (Value.str (Str.ofString "_collections") 295)⟩, ⟨PyData.keyHash P (Str.ofString "__doc__"), (Value.str (Str.ofString "__doc__") 297), (Value.builtin "off-the-table:_collections.__doc__:shared#\x6fpaque")⟩, ⟨PyData.keyHash P (Str.ofString "__package__"), (Value.str (Str.ofString "__package__") 299), (Value.str (Str.ofString "") 298)⟩, ⟨PyData.keyHash P (Str.ofString "__loader__"), (Value.str (Str.ofString "__loader__") 300), (Value.builtin "off-the-table:_collections.__loader__:shared#\x6fpaque")⟩, ⟨PyData.keyHash P (Str.ofString "__spec__"), (Value.str (Str.ofString "__spec__") 301), (Value.builtin "off-the-table:_collections.__spec__:shared#\x6fpaque")⟩, ⟨PyData.keyHash P (Str.ofString "_count_elements"), (Value.str (Str.ofString "_count_elements") 302), (Value.builtin "_collections._count_elements")⟩, ⟨PyData.keyHash P (Str.ofString "deque"), (Value.str (Str.ofString "deque") 303), (Value.type "collections.deque")⟩, ⟨PyData.keyHash P (Str.ofString "defaultdict"), (Value.str (Str.ofString "defaultdict") 304), (Value.type "collections.defaultdict")⟩, ⟨PyData.keyHash P (Str.ofString "_deque_iterator"), (Value.str (Str.ofString "_deque_iterator") 305), (Value.builtin "off-the-table:_collections._deque_iterator:shared#\x6fpaque")⟩, ⟨PyData.keyHash P (Str.ofString "_deque_reverse_iterator"), (Value.str (Str.ofString "_deque_reverse_iterator") 306), (Value.builtin "off-the-table:_collections._deque_reverse_iterator:shared#\x6fpaque")⟩, ⟨PyData.keyHash P (Str.ofString "_tuplegetter"), (Value.str (Str.ofString "_tuplegetter") 307), (Value.type "collections._tuplegetter")⟩, ⟨PyData.keyHash P (Str.ofString "OrderedDict"), (Value.str (Str.ofString "OrderedDict") 308), (Value.type "collections.OrderedDict")⟩]) 12), (List.toArray [])⟩
noncomputable def o34 (P : Params) : Obj := ⟨(Value.type "code"), none, (Data.fields (List.toArray [(Value.str (Str.ofString "<module>") 319), (Value.str (Str.ofString "<module>") 320), (Value.str (Str.ofString "/claim/cut.py") 321), (Value.int 1 0), (Value.int 0 0), (Value.int 0 0), (Value.int 0 0), (Value.int 0 0), (Value.ref 34), (Value.bool false), (Value.int 318 0), (Value.ref 35), Value.none, Value.none, Value.none, Value.none, (Value.int 322 0), (Value.int 1 0), (Value.str (Str.ofString "/claim/cut.py") 323)])), (List.toArray [])⟩
noncomputable def o35 (P : Params) : Obj := ⟨(Value.type "frame"), none, Data.plain, (List.toArray [(some (Value.ref 36)), (some (Value.ref 3)), (some (Value.ref 3)), none, (some (Value.str (Str.ofString "__main__") 164)), none, (some (Value.ref 0))])⟩
noncomputable def o36 (P : Params) : Obj := ⟨Value.none, none, (.dict (List.toArray [⟨PyData.keyHash P (Str.ofString "\x69mport.loaded._sre"), (Value.str (Str.ofString "\x69mport.loaded._sre") 183), (Value.bool true)⟩, ⟨PyData.keyHash P (Str.ofString "class._frozen_importlib.BuiltinImporter"), (Value.str (Str.ofString "class._frozen_importlib.BuiltinImporter") 185), (Value.ref 14)⟩, ⟨PyData.keyHash P (Str.ofString "watched.\x69mport"), (Value.str (Str.ofString "watched.\x69mport") 206), (Value.ref 18)⟩, ⟨PyData.keyHash P (Str.ofString "class._frozen_importlib.ModuleSpec"), (Value.str (Str.ofString "class._frozen_importlib.ModuleSpec") 216), (Value.ref 22)⟩, ⟨PyData.keyHash P (Str.ofString "sys.modules.booked-epoch"), (Value.str (Str.ofString "sys.modules.booked-epoch") 245), (Value.int 4 0)⟩, ⟨PyData.keyHash P (Str.ofString "\x69mport.later-laid._sre"), (Value.str (Str.ofString "\x69mport.later-laid._sre") 270), (Value.bool true)⟩, ⟨PyData.keyHash P (Str.ofString "watched.library"), (Value.str (Str.ofString "watched.library") 272), (Value.ref 27)⟩, ⟨PyData.keyHash P (Str.ofString "watched.library-objects"), (Value.str (Str.ofString "watched.library-objects") 0), (Value.str (Str.ofString "\x0c\x1e") 0)⟩, ⟨PyData.keyHash P (Str.ofString "watched.library-deep._sre"), (Value.str (Str.ofString "watched.library-deep._sre") 273), (Value.str (Str.ofString "\x04\x00\x00\x0b\x04\x00\x00\x0b\x04\x00\x00\x03\x04\x00\x00\x0b\x08\x04dict\x02") 0)⟩, ⟨PyData.keyHash P (Str.ofString "\x69mport.loaded._collections"), (Value.str (Str.ofString "\x69mport.loaded._collections") 280), (Value.bool true)⟩, ⟨PyData.keyHash P (Str.ofString "sys.modules.landed._collections"), (Value.str (Str.ofString "sys.modules.landed._collections") 294), (Value.bool true)⟩, ⟨PyData.keyHash P (Str.ofString "\x69mport.later-laid._collections"), (Value.str (Str.ofString "\x69mport.later-laid._collections") 309), (Value.bool true)⟩, ⟨PyData.keyHash P (Str.ofString "watched.library-deep._collections"), (Value.str (Str.ofString "watched.library-deep._collections") 311), (Value.str (Str.ofString "\x04\x00\x00\x1d\x04\x00\x00\x1d\x04\x00\x00\x03\x04\x00\x00\x1d\x08\x04dict\x02") 0)⟩, ⟨PyData.keyHash P (Str.ofString "type.__subclasses__.Exception.0"), (Value.str (Str.ofString "type.__subclasses__.Exception.0") 349), (Value.int 54 0)⟩, ⟨PyData.keyHash P (Str.ofString "type.__subclasses__.Exception.n"), (Value.str (Str.ofString "type.__subclasses__.Exception.n") 350), (Value.int 1 0)⟩]) 15), (List.toArray [])⟩
noncomputable def o37 (P : Params) : Obj := ⟨(Value.type "dict"), none, (.dict (List.toArray [⟨PyData.keyHash P (Str.ofString "__name__"), (Value.str (Str.ofString "__name__") 165), (Value.str (Str.ofString "collections.abc") 444)⟩, ⟨PyData.keyHash P (Str.ofString "__doc__"), (Value.str (Str.ofString "__doc__") 166), Value.none⟩, ⟨PyData.keyHash P (Str.ofString "__package__"), (Value.str (Str.ofString "__package__") 167), Value.none⟩, ⟨PyData.keyHash P (Str.ofString "__loader__"), (Value.str (Str.ofString "__loader__") 168), (Value.builtin "__main__.__loader__#\x6fpaque")⟩, ⟨PyData.keyHash P (Str.ofString "__spec__"), (Value.str (Str.ofString "__spec__") 169), Value.none⟩, ⟨PyData.keyHash P (Str.ofString "__annotations__"), (Value.str (Str.ofString "__annotations__") 170), (Value.ref 6)⟩, ⟨PyData.keyHash P (Str.ofString "__builtins__"), (Value.str (Str.ofString "__builtins__") 171), (Value.ref 4)⟩, ⟨PyData.keyHash P (Str.ofString "__file__"), (Value.str (Str.ofString "__file__") 173), (Value.str (Str.ofString "/claim/cut.py") 172)⟩, ⟨PyData.keyHash P (Str.ofString "__cached__"), (Value.str (Str.ofString "__cached__") 174), Value.none⟩, ⟨PyData.keyHash P (Str.ofString "_sre"), (Value.str (Str.ofString "_sre") 275), (Value.ref 12)⟩, ⟨PyData.keyHash P (Str.ofString "deque"), (Value.str (Str.ofString "deque") 317), (Value.type "collections.deque")⟩, ⟨PyData.keyHash P (Str.ofString "_wall"), (Value.str (Str.ofString "_wall") 330), (Value.ref 44)⟩, ⟨PyData.keyHash P (Str.ofString "Error"), (Value.str (Str.ofString "Error") 352), (Value.ref 54)⟩, ⟨PyData.keyHash P (Str.ofString "error_reply"), (Value.str (Str.ofString "error_reply") 368), (Value.ref 67)⟩, ⟨PyData.keyHash P (Str.ofString "error_proto"), (Value.str (Str.ofString "error_proto") 384), (Value.ref 79)⟩, ⟨PyData.keyHash P (Str.ofString "parse229"), (Value.str (Str.ofString "parse229") 397), (Value.ref 88)⟩, ⟨PyData.keyHash P (Str.ofString "_get_sep"), (Value.str (Str.ofString "_get_sep") 406), (Value.ref 95)⟩, ⟨PyData.keyHash P (Str.ofString "_plain_name"), (Value.str (Str.ofString "_plain_name") 417), (Value.ref 102)⟩, ⟨PyData.keyHash P (Str.ofString "ABCMeta"), (Value.str (Str.ofString "ABCMeta") 443), (Value.ref 119)⟩, ⟨PyData.keyHash P (Str.ofString "_ABCLike"), (Value.str (Str.ofString "_ABCLike") 486), (Value.ref 152)⟩]) 20), (List.toArray [])⟩
noncomputable def o38 (P : Params) : Obj := ⟨Value.none, none, (Data.fields (List.toArray [(Value.int 3 0), (Value.int 0 0), (Value.ref 43), (Value.int 7 0), (Value.int 0 0), (Value.ref 50), (Value.int 9 0), (Value.int 0 0), (Value.ref 63), (Value.int 11 0), (Value.int 0 0), (Value.ref 75), (Value.int 13 0), (Value.int 0 0), (Value.ref 87), (Value.int 31 0), (Value.int 0 0), (Value.ref 94), (Value.int 37 0), (Value.int 0 0), (Value.ref 101), (Value.int 43 0), (Value.int 0 0), (Value.ref 108), (Value.int 48 0), (Value.int 0 0), (Value.ref 127)])), (List.toArray [])⟩
noncomputable def o39 (P : Params) : Obj := ⟨(Value.type "tuple"), none, (Data.seq (List.toArray [(Value.str (Str.ofString "k") 327)]) 0), (List.toArray [])⟩
noncomputable def o40 (P : Params) : Obj := ⟨Value.none, none, (.func ⟨(Str.ofString "_wall"), (Str.ofString "_wall"), (fA (stA 0)), .stmts (fB (stA 0)), (fS (stA 0)), 0, [], Value.none, Value.none, Value.none, Value.none, none, Value.none, Value.none, 0⟩), (List.toArray [])⟩
noncomputable def o41 (P : Params) : Obj := ⟨(Value.type "code"), none, (Data.fields (List.toArray [(Value.str (Str.ofString "_wall") 324), (Value.str (Str.ofString "_wall") 325), (Value.str (Str.ofString "/claim/cut.py") 326), (Value.int 3 0), (Value.int 1 0), (Value.int 0 0), (Value.int 0 0), (Value.int 3 0), (Value.ref 38), (Value.bool true), (Value.int 318 0), (Value.ref 39), Value.none, (Value.ref 40), (Value.ref 41), (Value.ref 42), (Value.int 328 0), (Value.int 3 0), (Value.str (Str.ofString "/claim/cut.py") 329)])), (List.toArray [])⟩
noncomputable def o42 (P : Params) : Obj := ⟨(Value.type "function"), none, (.func ⟨(Str.ofString "_wall"), (Str.ofString "_wall"), (fA (stA 0)), .stmts (fB (stA 0)), (fS (stA 0)), 3, [], Value.none, Value.none, Value.none, (Value.str (Str.ofString "__main__") 164), none, (Value.ref 43), Value.none, 0⟩), (List.toArray [])⟩
noncomputable def o43 (P : Params) : Obj := ⟨(Value.type "tuple"), none, (Data.seq (List.toArray [(Value.type "Exception")]) 0), (List.toArray [])⟩
noncomputable def o44 (P : Params) : Obj := ⟨(Value.type "builtin_function_or_method"), none, (Data.fields (List.toArray [(Value.builtin "type.__prepare__"), (Value.type "type")])), (List.toArray [])⟩
noncomputable def o45 (P : Params) : Obj := ⟨(Value.type "dict"), none, (.dict (List.toArray [⟨PyData.keyHash P (Str.ofString "__module__"), (Value.str (Str.ofString "__module__") 340), (Value.str (Str.ofString "cpy313.ftplib") 331)⟩, ⟨PyData.keyHash P (Str.ofString "__qualname__"), (Value.str (Str.ofString "__qualname__") 342), (Value.str (Str.ofString "Error") 341)⟩, ⟨PyData.keyHash P (Str.ofString "__firstlineno__"), (Value.str (Str.ofString "__firstlineno__") 344), (Value.int 7 343)⟩, ⟨PyData.keyHash P (Str.ofString "__static_attributes__"), (Value.str (Str.ofString "__static_attributes__") 345), (Value.ref 52)⟩]) 4), (List.toArray [])⟩
noncomputable def o46 (P : Params) : Obj := ⟨(Value.type "code"), none, (Data.fields (List.toArray [(Value.str (Str.ofString "Error") 335), (Value.str (Str.ofString "Error") 336), (Value.str (Str.ofString "/claim/cut.py") 337), (Value.int 7 0), (Value.int 0 0), (Value.int 0 0), (Value.int 0 0), (Value.int 0 0), (Value.ref 48), (Value.bool false), (Value.int 318 0), (Value.ref 49), Value.none, Value.none, Value.none, Value.none, (Value.int 338 0), (Value.int 7 0), (Value.str (Str.ofString "/claim/cut.py") 339)])), (List.toArray [])⟩
noncomputable def o47 (P : Params) : Obj := ⟨(Value.type "frame"), none, Data.plain, (List.toArray [(some (Value.ref 50)), (some (Value.ref 3)), (some (Value.ref 47)), none, (some (Value.str (Str.ofString "cpy313.ftplib") 331)), none, (some (Value.ref 0))])⟩
noncomputable def o48 (P : Params) : Obj := ⟨(Value.type "dict"), none, (.dict (List.toArray [⟨PyData.keyHash P (Str.ofString "__module__"), (Value.str (Str.ofString "__module__") 340), (Value.str (Str.ofString "cpy313.ftplib") 331)⟩, ⟨PyData.keyHash P (Str.ofString "__firstlineno__"), (Value.str (Str.ofString "__firstlineno__") 344), (Value.int 7 343)⟩, ⟨PyData.keyHash P (Str.ofString "__static_attributes__"), (Value.str (Str.ofString "__static_attributes__") 345), (Value.ref 52)⟩, ⟨PyData.keyHash P (Str.ofString "__weakref__"), (Value.str (Str.ofString "__weakref__") 347), (Value.ref 55)⟩, ⟨PyData.keyHash P (Str.ofString "__doc__"), (Value.str (Str.ofString "__doc__") 348), Value.none⟩]) 3), (List.toArray [])⟩
noncomputable def o49 (P : Params) : Obj := ⟨(Value.type "type"), none, (Data.cls ⟨(Str.ofString "Error"), [(Value.type "Exception")], [(Value.ref 54), (Value.type "Exception"), (Value.type "BaseException"), (Value.type "object")], 53, (Str.ofString "Error"), true, [], [(Value.ref 67), (Value.ref 79)], false, none, false⟩), (List.toArray [(some (Value.ref 45)), none, (some (Value.str (Str.ofString "Error") 333)), (some (Value.str (Str.ofString "Error") 341)), (some (Value.builtin "Exception.__new__")), (some (Value.bool true))])⟩
noncomputable def o50 (P : Params) : Obj := ⟨(Value.type "getset_descriptor"), none, (Data.fields (List.toArray [(Value.str (Str.ofString "__weakref__") 346), (Value.ref 54), (Value.builtin "ExceptionGroup.__weakref__"), Value.none])), (List.toArray [])⟩
noncomputable def o51 (P : Params) : Obj := ⟨(Value.type "super"), none, (Data.fields (List.toArray [(Value.ref 54), (Value.ref 54), (Value.ref 54)])), (List.toArray [])⟩
noncomputable def o52 (P : Params) : Obj := ⟨(Value.type "builtin_function_or_method"), none, (Data.fields (List.toArray [(Value.builtin "object.__init_subclass__"), (Value.ref 54)])), (List.toArray [])⟩
noncomputable def o53 (P : Params) : Obj := ⟨(Value.type "tuple"), none, (Data.seq (List.toArray [(Value.ref 54)]) 0), (List.toArray [])⟩
noncomputable def o54 (P : Params) : Obj := ⟨(Value.type "dict"), none, (.dict (List.toArray [⟨PyData.keyHash P (Str.ofString "__module__"), (Value.str (Str.ofString "__module__") 360), (Value.str (Str.ofString "cpy313.ftplib") 331)⟩, ⟨PyData.keyHash P (Str.ofString "__qualname__"), (Value.str (Str.ofString "__qualname__") 362), (Value.str (Str.ofString "error_reply") 361)⟩, ⟨PyData.keyHash P (Str.ofString "__firstlineno__"), (Value.str (Str.ofString "__firstlineno__") 364), (Value.int 9 363)⟩, ⟨PyData.keyHash P (Str.ofString "__static_attributes__"), (Value.str (Str.ofString "__static_attributes__") 365), (Value.ref 65)⟩]) 4), (List.toArray [])⟩
noncomputable def o55 (P : Params) : Obj := ⟨(Value.type "code"), none, (Data.fields (List.toArray [(Value.str (Str.ofString "error_reply") 355), (Value.str (Str.ofString "error_reply") 356), (Value.str (Str.ofString "/claim/cut.py") 357), (Value.int 9 0), (Value.int 0 0), (Value.int 0 0), (Value.int 0 0), (Value.int 0 0), (Value.ref 61), (Value.bool false), (Value.int 318 0), (Value.ref 62), Value.none, Value.none, Value.none, Value.none, (Value.int 358 0), (Value.int 9 0), (Value.str (Str.ofString "/claim/cut.py") 359)])), (List.toArray [])⟩
noncomputable def o56 (P : Params) : Obj := ⟨(Value.type "frame"), none, Data.plain, (List.toArray [(some (Value.ref 63)), (some (Value.ref 3)), (some (Value.ref 60)), none, (some (Value.str (Str.ofString "cpy313.ftplib") 331)), none, (some (Value.ref 0))])⟩
noncomputable def o57 (P : Params) : Obj := ⟨(Value.type "dict"), none, (.dict (List.toArray [⟨PyData.keyHash P (Str.ofString "__module__"), (Value.str (Str.ofString "__module__") 360), (Value.str (Str.ofString "cpy313.ftplib") 331)⟩, ⟨PyData.keyHash P (Str.ofString "__firstlineno__"), (Value.str (Str.ofString "__firstlineno__") 364), (Value.int 9 363)⟩, ⟨PyData.keyHash P (Str.ofString "__static_attributes__"), (Value.str (Str.ofString "__static_attributes__") 365), (Value.ref 65)⟩, ⟨PyData.keyHash P (Str.ofString "__doc__"), (Value.str (Str.ofString "__doc__") 366), Value.none⟩]) 2), (List.toArray [])⟩
noncomputable def o58 (P : Params) : Obj := ⟨(Value.type "type"), none, (Data.cls ⟨(Str.ofString "error_reply"), [(Value.ref 54)], [(Value.ref 67), (Value.ref 54), (Value.type "Exception"), (Value.type "BaseException"), (Value.type "object")], 66, (Str.ofString "error_reply"), true, [], [], false, none, false⟩), (List.toArray [(some (Value.ref 58)), none, (some (Value.str (Str.ofString "error_reply") 353)), (some (Value.str (Str.ofString "error_reply") 361)), (some (Value.builtin "Exception.__new__")), (some (Value.bool true))])⟩
noncomputable def o59 (P : Params) : Obj := ⟨(Value.type "super"), none, (Data.fields (List.toArray [(Value.ref 67), (Value.ref 67), (Value.ref 67)])), (List.toArray [])⟩
noncomputable def o60 (P : Params) : Obj := ⟨(Value.type "builtin_function_or_method"), none, (Data.fields (List.toArray [(Value.builtin "object.__init_subclass__"), (Value.ref 67)])), (List.toArray [])⟩
noncomputable def o61 (P : Params) : Obj := ⟨(Value.type "dict"), none, (.dict (List.toArray [⟨PyData.keyHash P (Str.ofString "__module__"), (Value.str (Str.ofString "__module__") 376), (Value.str (Str.ofString "cpy313.ftplib") 331)⟩, ⟨PyData.keyHash P (Str.ofString "__qualname__"), (Value.str (Str.ofString "__qualname__") 378), (Value.str (Str.ofString "error_proto") 377)⟩, ⟨PyData.keyHash P (Str.ofString "__firstlineno__"), (Value.str (Str.ofString "__firstlineno__") 380), (Value.int 11 379)⟩, ⟨PyData.keyHash P (Str.ofString "__static_attributes__"), (Value.str (Str.ofString "__static_attributes__") 381), (Value.ref 77)⟩]) 4), (List.toArray [])⟩
noncomputable def o62 (P : Params) : Obj := ⟨(Value.type "code"), none, (Data.fields (List.toArray [(Value.str (Str.ofString "error_proto") 371), (Value.str (Str.ofString "error_proto") 372), (Value.str (Str.ofString "/claim/cut.py") 373), (Value.int 11 0), (Value.int 0 0), (Value.int 0 0), (Value.int 0 0), (Value.int 0 0), (Value.ref 73), (Value.bool false), (Value.int 318 0), (Value.ref 74), Value.none, Value.none, Value.none, Value.none, (Value.int 374 0), (Value.int 11 0), (Value.str (Str.ofString "/claim/cut.py") 375)])), (List.toArray [])⟩
noncomputable def o63 (P : Params) : Obj := ⟨(Value.type "frame"), none, Data.plain, (List.toArray [(some (Value.ref 75)), (some (Value.ref 3)), (some (Value.ref 72)), none, (some (Value.str (Str.ofString "cpy313.ftplib") 331)), none, (some (Value.ref 0))])⟩
noncomputable def o64 (P : Params) : Obj := ⟨(Value.type "dict"), none, (.dict (List.toArray [⟨PyData.keyHash P (Str.ofString "__module__"), (Value.str (Str.ofString "__module__") 376), (Value.str (Str.ofString "cpy313.ftplib") 331)⟩, ⟨PyData.keyHash P (Str.ofString "__firstlineno__"), (Value.str (Str.ofString "__firstlineno__") 380), (Value.int 11 379)⟩, ⟨PyData.keyHash P (Str.ofString "__static_attributes__"), (Value.str (Str.ofString "__static_attributes__") 381), (Value.ref 77)⟩, ⟨PyData.keyHash P (Str.ofString "__doc__"), (Value.str (Str.ofString "__doc__") 382), Value.none⟩]) 2), (List.toArray [])⟩
noncomputable def o65 (P : Params) : Obj := ⟨(Value.type "type"), none, (Data.cls ⟨(Str.ofString "error_proto"), [(Value.ref 54)], [(Value.ref 79), (Value.ref 54), (Value.type "Exception"), (Value.type "BaseException"), (Value.type "object")], 78, (Str.ofString "error_proto"), true, [], [], false, none, false⟩), (List.toArray [(some (Value.ref 70)), none, (some (Value.str (Str.ofString "error_proto") 369)), (some (Value.str (Str.ofString "error_proto") 377)), (some (Value.builtin "Exception.__new__")), (some (Value.bool true))])⟩
noncomputable def o66 (P : Params) : Obj := ⟨(Value.type "super"), none, (Data.fields (List.toArray [(Value.ref 79), (Value.ref 79), (Value.ref 79)])), (List.toArray [])⟩
noncomputable def o67 (P : Params) : Obj := ⟨(Value.type "builtin_function_or_method"), none, (Data.fields (List.toArray [(Value.builtin "object.__init_subclass__"), (Value.ref 79)])), (List.toArray [])⟩
noncomputable def o68 (P : Params) : Obj := ⟨(Value.type "tuple"), none, (Data.seq (List.toArray [(Value.str (Str.ofString "resp") 388), (Value.str (Str.ofString "peer") 389), (Value.str (Str.ofString "left") 390), (Value.str (Str.ofString "right") 391), (Value.str (Str.ofString "parts") 392), (Value.str (Str.ofString "host") 393), (Value.str (Str.ofString "port") 394)]) 0), (List.toArray [])⟩
noncomputable def o69 (P : Params) : Obj := ⟨Value.none, none, (.func ⟨(Str.ofString "parse229"), (Str.ofString "parse229"), (fA (stA 5)), .stmts (fB (stA 5)), (fS (stA 5)), 0, [], Value.none, Value.none, Value.none, Value.none, none, Value.none, Value.none, 0⟩), (List.toArray [])⟩
noncomputable def o70 (P : Params) : Obj := ⟨(Value.type "code"), none, (Data.fields (List.toArray [(Value.str (Str.ofString "parse229") 385), (Value.str (Str.ofString "parse229") 386), (Value.str (Str.ofString "/claim/cut.py") 387), (Value.int 13 0), (Value.int 2 0), (Value.int 0 0), (Value.int 0 0), (Value.int 3 0), (Value.ref 82), (Value.bool true), (Value.int 318 0), (Value.ref 83), Value.none, (Value.ref 84), (Value.ref 85), (Value.ref 86), (Value.int 395 0), (Value.int 13 0), (Value.str (Str.ofString "/claim/cut.py") 396)])), (List.toArray [])⟩
noncomputable def o71 (P : Params) : Obj := ⟨(Value.type "function"), none, (.func ⟨(Str.ofString "parse229"), (Str.ofString "parse229"), as_88, .stmts bd_88, sc_88, 3, [], Value.none, Value.none, Value.none, (Value.str (Str.ofString "cpy313.ftplib") 331), none, (Value.ref 87), Value.none, 0⟩), (List.toArray [])⟩
noncomputable def o72 (P : Params) : Obj := ⟨(Value.type "tuple"), none, (Data.seq (List.toArray [(Value.str (Str.ofString "path") 403)]) 0), (List.toArray [])⟩
noncomputable def o73 (P : Params) : Obj := ⟨Value.none, none, (.func ⟨(Str.ofString "_get_sep"), (Str.ofString "_get_sep"), (fA (stA 7)), .stmts (fB (stA 7)), (fS (stA 7)), 0, [], Value.none, Value.none, Value.none, Value.none, none, Value.none, Value.none, 0⟩), (List.toArray [])⟩
noncomputable def o74 (P : Params) : Obj := ⟨(Value.type "code"), none, (Data.fields (List.toArray [(Value.str (Str.ofString "_get_sep") 400), (Value.str (Str.ofString "_get_sep") 401), (Value.str (Str.ofString "/claim/cut.py") 402), (Value.int 31 0), (Value.int 1 0), (Value.int 0 0), (Value.int 0 0), (Value.int 3 0), (Value.ref 89), (Value.bool true), (Value.int 318 0), (Value.ref 90), Value.none, (Value.ref 91), (Value.ref 92), (Value.ref 93), (Value.int 404 0), (Value.int 31 0), (Value.str (Str.ofString "/claim/cut.py") 405)])), (List.toArray [])⟩
noncomputable def o75 (P : Params) : Obj := ⟨(Value.type "function"), none, (.func ⟨(Str.ofString "_get_sep"), (Str.ofString "_get_sep"), as_95, .stmts bd_95, sc_95, 3, [], Value.none, Value.none, Value.none, (Value.str (Str.ofString "cpy313.posixpath") 398), none, (Value.ref 94), Value.none, 0⟩), (List.toArray [])⟩
noncomputable def o76 (P : Params) : Obj := ⟨(Value.type "tuple"), none, (Data.seq (List.toArray [(Value.str (Str.ofString "x") 412), (Value.str (Str.ofString "what") 413), (Value.str (Str.ofString "kind") 414)]) 0), (List.toArray [])⟩
noncomputable def o77 (P : Params) : Obj := ⟨Value.none, none, (.func ⟨(Str.ofString "_plain_name"), (Str.ofString "_plain_name"), (fA (stA 9)), .stmts (fB (stA 9)), (fS (stA 9)), 0, [], Value.none, Value.none, Value.none, Value.none, none, Value.none, Value.none, 0⟩), (List.toArray [])⟩
noncomputable def o78 (P : Params) : Obj := ⟨(Value.type "code"), none, (Data.fields (List.toArray [(Value.str (Str.ofString "_plain_name") 409), (Value.str (Str.ofString "_plain_name") 410), (Value.str (Str.ofString "/claim/cut.py") 411), (Value.int 37 0), (Value.int 2 0), (Value.int 0 0), (Value.int 0 0), (Value.int 3 0), (Value.ref 96), (Value.bool true), (Value.int 318 0), (Value.ref 97), Value.none, (Value.ref 98), (Value.ref 99), (Value.ref 100), (Value.int 415 0), (Value.int 37 0), (Value.str (Str.ofString "/claim/cut.py") 416)])), (List.toArray [])⟩
noncomputable def o79 (P : Params) : Obj := ⟨(Value.type "function"), none, (.func ⟨(Str.ofString "_plain_name"), (Str.ofString "_plain_name"), (fA (stA 9)), .stmts (fB (stA 9)), (fS (stA 9)), 3, [], Value.none, Value.none, Value.none, (Value.str (Str.ofString "os") 407), none, (Value.ref 101), Value.none, 0⟩), (List.toArray [])⟩
noncomputable def o80 (P : Params) : Obj := ⟨(Value.type "tuple"), none, (Data.seq (List.toArray [(Value.type "type")]) 0), (List.toArray [])⟩
noncomputable def o81 (P : Params) : Obj := ⟨(Value.type "dict"), none, (.dict (List.toArray [⟨PyData.keyHash P (Str.ofString "__module__"), (Value.str (Str.ofString "__module__") 427), (Value.str (Str.ofString "abc") 418)⟩, ⟨PyData.keyHash P (Str.ofString "__qualname__"), (Value.str (Str.ofString "__qualname__") 429), (Value.str (Str.ofString "ABCMeta") 428)⟩, ⟨PyData.keyHash P (Str.ofString "__firstlineno__"), (Value.str (Str.ofString "__firstlineno__") 431), (Value.int 43 430)⟩, ⟨PyData.keyHash P (Str.ofString "register"), (Value.str (Str.ofString "register") 439), (Value.ref 116)⟩, ⟨PyData.keyHash P (Str.ofString "__static_attributes__"), (Value.str (Str.ofString "__static_attributes__") 440), (Value.ref 117)⟩]) 5), (List.toArray [])⟩
noncomputable def o82 (P : Params) : Obj := ⟨Value.none, none, (Data.fields (List.toArray [(Value.int 45 0), (Value.int 4 0), (Value.ref 115)])), (List.toArray [])⟩
noncomputable def o83 (P : Params) : Obj := ⟨(Value.type "code"), none, (Data.fields (List.toArray [(Value.str (Str.ofString "ABCMeta") 422), (Value.str (Str.ofString "ABCMeta") 423), (Value.str (Str.ofString "/claim/cut.py") 424), (Value.int 43 0), (Value.int 0 0), (Value.int 0 0), (Value.int 0 0), (Value.int 0 0), (Value.ref 106), (Value.bool false), (Value.int 318 0), (Value.ref 107), Value.none, Value.none, Value.none, Value.none, (Value.int 425 0), (Value.int 43 0), (Value.str (Str.ofString "/claim/cut.py") 426)])), (List.toArray [])⟩
noncomputable def o84 (P : Params) : Obj := ⟨(Value.type "frame"), none, Data.plain, (List.toArray [(some (Value.ref 108)), (some (Value.ref 3)), (some (Value.ref 105)), none, (some (Value.str (Str.ofString "abc") 418)), none, (some (Value.ref 0))])⟩
noncomputable def o85 (P : Params) : Obj := ⟨(Value.type "tuple"), none, (Data.seq (List.toArray [(Value.str (Str.ofString "cls") 435), (Value.str (Str.ofString "subclass") 436)]) 0), (List.toArray [])⟩
noncomputable def o86 (P : Params) : Obj := ⟨Value.none, none, (.func ⟨(Str.ofString "register"), (Str.ofString "ABCMeta.register"), (fA (inC (stA 11) 0)), .stmts (fB (inC (stA 11) 0)), (fS (inC (stA 11) 0)), 0, [], Value.none, Value.none, Value.none, Value.none, none, Value.none, Value.none, 0⟩), (List.toArray [])⟩
noncomputable def o87 (P : Params) : Obj := ⟨(Value.type "code"), none, (Data.fields (List.toArray [(Value.str (Str.ofString "register") 432), (Value.str (Str.ofString "ABCMeta.register") 433), (Value.str (Str.ofString "/claim/cut.py") 434), (Value.int 45 0), (Value.int 2 0), (Value.int 0 0), (Value.int 0 0), (Value.int 3 0), (Value.ref 110), (Value.bool true), (Value.int 318 0), (Value.ref 111), Value.none, (Value.ref 112), (Value.ref 113), (Value.ref 114), (Value.int 437 0), (Value.int 45 0), (Value.str (Str.ofString "/claim/cut.py") 438)])), (List.toArray [])⟩
noncomputable def o88 (P : Params) : Obj := ⟨(Value.type "function"), none, (.func ⟨(Str.ofString "register"), (Str.ofString "ABCMeta.register"), (fA (inC (stA 11) 0)), .stmts (fB (inC (stA 11) 0)), (fS (inC (stA 11) 0)), 3, [], Value.none, Value.none, Value.none, (Value.str (Str.ofString "abc") 418), none, (Value.ref 115), Value.none, 0⟩), (List.toArray [])⟩
noncomputable def o89 (P : Params) : Obj := ⟨(Value.type "dict"), none, (.dict (List.toArray [⟨PyData.keyHash P (Str.ofString "__module__"), (Value.str (Str.ofString "__module__") 427), (Value.str (Str.ofString "abc") 418)⟩, ⟨PyData.keyHash P (Str.ofString "__firstlineno__"), (Value.str (Str.ofString "__firstlineno__") 431), (Value.int 43 430)⟩, ⟨PyData.keyHash P (Str.ofString "register"), (Value.str (Str.ofString "register") 439), (Value.ref 116)⟩, ⟨PyData.keyHash P (Str.ofString "__static_attributes__"), (Value.str (Str.ofString "__static_attributes__") 440), (Value.ref 117)⟩, ⟨PyData.keyHash P (Str.ofString "__doc__"), (Value.str (Str.ofString "__doc__") 441), Value.none⟩]) 2), (List.toArray [])⟩
noncomputable def o90 (P : Params) : Obj := ⟨(Value.type "type"), none, (Data.cls ⟨(Str.ofString "ABCMeta"), [(Value.type "type")], [(Value.ref 119), (Value.type "type"), (Value.type "object")], 118, (Str.ofString "ABCMeta"), true, [], [(Value.ref 152)], false, none, false⟩), (List.toArray [(some (Value.ref 103)), none, (some (Value.str (Str.ofString "ABCMeta") 420)), (some (Value.str (Str.ofString "ABCMeta") 428)), (some (Value.builtin "type.__new__")), (some (Value.bool true))])⟩
noncomputable def o91 (P : Params) : Obj := ⟨(Value.type "super"), none, (Data.fields (List.toArray [(Value.ref 119), (Value.ref 119), (Value.ref 119)])), (List.toArray [])⟩
noncomputable def o92 (P : Params) : Obj := ⟨(Value.type "builtin_function_or_method"), none, (Data.fields (List.toArray [(Value.builtin "object.__init_subclass__"), (Value.ref 119)])), (List.toArray [])⟩
noncomputable def o93 (P : Params) : Obj := ⟨(Value.type "tuple"), none, (Data.seq (List.toArray [(Value.ref 119)]) 0), (List.toArray [])⟩
noncomputable def o94 (P : Params) : Obj := ⟨(Value.type "dict"), none, (.dict (List.toArray [⟨PyData.keyHash P (Str.ofString "__module__"), (Value.str (Str.ofString "__module__") 453), (Value.str (Str.ofString "collections.abc") 444)⟩, ⟨PyData.keyHash P (Str.ofString "__qualname__"), (Value.str (Str.ofString "__qualname__") 455), (Value.str (Str.ofString "_ABCLike") 454)⟩, ⟨PyData.keyHash P (Str.ofString "__firstlineno__"), (Value.str (Str.ofString "__firstlineno__") 457), (Value.int 48 456)⟩, ⟨PyData.keyHash P (Str.ofString "__instancecheck__"), (Value.str (Str.ofString "__instancecheck__") 466), (Value.ref 135)⟩, ⟨PyData.keyHash P (Str.ofString "__subclasscheck__"), (Value.str (Str.ofString "__subclasscheck__") 474), (Value.ref 142)⟩, ⟨PyData.keyHash P (Str.ofString "register"), (Value.str (Str.ofString "register") 482), (Value.ref 149)⟩, ⟨PyData.keyHash P (Str.ofString "__static_attributes__"), (Value.str (Str.ofString "__static_attributes__") 483), (Value.ref 150)⟩]) 7), (List.toArray [])⟩
noncomputable def o95 (P : Params) : Obj := ⟨Value.none, none, (Data.fields (List.toArray [(Value.int 50 0), (Value.int 4 0), (Value.ref 134), (Value.int 56 0), (Value.int 4 0), (Value.ref 141), (Value.int 61 0), (Value.int 4 0), (Value.ref 148)])), (List.toArray [])⟩
noncomputable def o96 (P : Params) : Obj := ⟨(Value.type "code"), none, (Data.fields (List.toArray [(Value.str (Str.ofString "_ABCLike") 448), (Value.str (Str.ofString "_ABCLike") 449), (Value.str (Str.ofString "/claim/cut.py") 450), (Value.int 48 0), (Value.int 0 0), (Value.int 0 0), (Value.int 0 0), (Value.int 0 0), (Value.ref 125), (Value.bool false), (Value.int 318 0), (Value.ref 126), Value.none, Value.none, Value.none, Value.none, (Value.int 451 0), (Value.int 48 0), (Value.str (Str.ofString "/claim/cut.py") 452)])), (List.toArray [])⟩
noncomputable def o97 (P : Params) : Obj := ⟨(Value.type "frame"), none, Data.plain, (List.toArray [(some (Value.ref 127)), (some (Value.ref 3)), (some (Value.ref 124)), none, (some (Value.str (Str.ofString "collections.abc") 444)), none, (some (Value.ref 0))])⟩
noncomputable def o98 (P : Params) : Obj := ⟨(Value.type "tuple"), none, (Data.seq (List.toArray [(Value.str (Str.ofString "cls") 461), (Value.str (Str.ofString "\x69nstance") 462), (Value.str (Str.ofString "C") 463)]) 0), (List.toArray [])⟩
noncomputable def o99 (P : Params) : Obj := ⟨Value.none, none, (.func ⟨(Str.ofString "__instancecheck__"), (Str.ofString "_ABCLike.__instancecheck__"), (fA (inC (stA 13) 0)), .stmts (fB (inC (stA 13) 0)), (fS (inC (stA 13) 0)), 0, [], Value.none, Value.none, Value.none, Value.none, none, Value.none, Value.none, 0⟩), (List.toArray [])⟩
noncomputable def o100 (P : Params) : Obj := ⟨(Value.type "code"), none, (Data.fields (List.toArray [(Value.str (Str.ofString "__instancecheck__") 458), (Value.str (Str.ofString "_ABCLike.__instancecheck__") 459), (Value.str (Str.ofString "/claim/cut.py") 460), (Value.int 50 0), (Value.int 2 0), (Value.int 0 0), (Value.int 0 0), (Value.int 3 0), (Value.ref 129), (Value.bool true), (Value.int 318 0), (Value.ref 130), Value.none, (Value.ref 131), (Value.ref 132), (Value.ref 133), (Value.int 464 0), (Value.int 50 0), (Value.str (Str.ofString "/claim/cut.py") 465)])), (List.toArray [])⟩
noncomputable def o101 (P : Params) : Obj := ⟨(Value.type "function"), none, (.func ⟨(Str.ofString "__instancecheck__"), (Str.ofString "_ABCLike.__instancecheck__"), (fA (inC (stA 13) 0)), .stmts (fB (inC (stA 13) 0)), (fS (inC (stA 13) 0)), 3, [], Value.none, Value.none, Value.none, (Value.str (Str.ofString "collections.abc") 444), none, (Value.ref 134), Value.none, 0⟩), (List.toArray [])⟩
noncomputable def o102 (P : Params) : Obj := ⟨(Value.type "tuple"), none, (Data.seq (List.toArray [(Value.str (Str.ofString "cls") 470), (Value.str (Str.ofString "C") 471)]) 0), (List.toArray [])⟩
noncomputable def o103 (P : Params) : Obj := ⟨Value.none, none, (.func ⟨(Str.ofString "__subclasscheck__"), (Str.ofString "_ABCLike.__subclasscheck__"), (fA (inC (stA 13) 1)), .stmts (fB (inC (stA 13) 1)), (fS (inC (stA 13) 1)), 0, [], Value.none, Value.none, Value.none, Value.none, none, Value.none, Value.none, 0⟩), (List.toArray [])⟩
noncomputable def o104 (P : Params) : Obj := ⟨(Value.type "code"), none, (Data.fields (List.toArray [(Value.str (Str.ofString "__subclasscheck__") 467), (Value.str (Str.ofString "_ABCLike.__subclasscheck__") 468), (Value.str (Str.ofString "/claim/cut.py") 469), (Value.int 56 0), (Value.int 2 0), (Value.int 0 0), (Value.int 0 0), (Value.int 3 0), (Value.ref 136), (Value.bool true), (Value.int 318 0), (Value.ref 137), Value.none, (Value.ref 138), (Value.ref 139), (Value.ref 140), (Value.int 472 0), (Value.int 56 0), (Value.str (Str.ofString "/claim/cut.py") 473)])), (List.toArray [])⟩
noncomputable def o105 (P : Params) : Obj := ⟨(Value.type "function"), none, (.func ⟨(Str.ofString "__subclasscheck__"), (Str.ofString "_ABCLike.__subclasscheck__"), (fA (inC (stA 13) 1)), .stmts (fB (inC (stA 13) 1)), (fS (inC (stA 13) 1)), 3, [], Value.none, Value.none, Value.none, (Value.str (Str.ofString "collections.abc") 444), none, (Value.ref 141), Value.none, 0⟩), (List.toArray [])⟩
noncomputable def o106 (P : Params) : Obj := ⟨(Value.type "tuple"), none, (Data.seq (List.toArray [(Value.str (Str.ofString "cls") 478), (Value.str (Str.ofString "subclass") 479)]) 0), (List.toArray [])⟩
noncomputable def o107 (P : Params) : Obj := ⟨Value.none, none, (.func ⟨(Str.ofString "register"), (Str.ofString "_ABCLike.register"), (fA (inC (stA 13) 2)), .stmts (fB (inC (stA 13) 2)), (fS (inC (stA 13) 2)), 0, [], Value.none, Value.none, Value.none, Value.none, none, Value.none, Value.none, 0⟩), (List.toArray [])⟩
noncomputable def o108 (P : Params) : Obj := ⟨(Value.type "code"), none, (Data.fields (List.toArray [(Value.str (Str.ofString "register") 475), (Value.str (Str.ofString "_ABCLike.register") 476), (Value.str (Str.ofString "/claim/cut.py") 477), (Value.int 61 0), (Value.int 2 0), (Value.int 0 0), (Value.int 0 0), (Value.int 3 0), (Value.ref 143), (Value.bool true), (Value.int 318 0), (Value.ref 144), Value.none, (Value.ref 145), (Value.ref 146), (Value.ref 147), (Value.int 480 0), (Value.int 61 0), (Value.str (Str.ofString "/claim/cut.py") 481)])), (List.toArray [])⟩
noncomputable def o109 (P : Params) : Obj := ⟨(Value.type "function"), none, (.func ⟨(Str.ofString "register"), (Str.ofString "_ABCLike.register"), (fA (inC (stA 13) 2)), .stmts (fB (inC (stA 13) 2)), (fS (inC (stA 13) 2)), 3, [], Value.none, Value.none, Value.none, (Value.str (Str.ofString "collections.abc") 444), none, (Value.ref 148), Value.none, 0⟩), (List.toArray [])⟩
noncomputable def o110 (P : Params) : Obj := ⟨(Value.type "dict"), none, (.dict (List.toArray [⟨PyData.keyHash P (Str.ofString "__module__"), (Value.str (Str.ofString "__module__") 453), (Value.str (Str.ofString "collections.abc") 444)⟩, ⟨PyData.keyHash P (Str.ofString "__firstlineno__"), (Value.str (Str.ofString "__firstlineno__") 457), (Value.int 48 456)⟩, ⟨PyData.keyHash P (Str.ofString "__instancecheck__"), (Value.str (Str.ofString "__instancecheck__") 466), (Value.ref 135)⟩, ⟨PyData.keyHash P (Str.ofString "__subclasscheck__"), (Value.str (Str.ofString "__subclasscheck__") 474), (Value.ref 142)⟩, ⟨PyData.keyHash P (Str.ofString "register"), (Value.str (Str.ofString "register") 482), (Value.ref 149)⟩, ⟨PyData.keyHash P (Str.ofString "__static_attributes__"), (Value.str (Str.ofString "__static_attributes__") 483), (Value.ref 150)⟩, ⟨PyData.keyHash P (Str.ofString "__doc__"), (Value.str (Str.ofString "__doc__") 484), Value.none⟩]) 2), (List.toArray [])⟩
noncomputable def o111 (P : Params) : Obj := ⟨(Value.type "type"), none, (Data.cls ⟨(Str.ofString "_ABCLike"), [(Value.ref 119)], [(Value.ref 152), (Value.ref 119), (Value.type "type"), (Value.type "object")], 151, (Str.ofString "_ABCLike"), true, [], [], false, none, false⟩), (List.toArray [(some (Value.ref 122)), none, (some (Value.str (Str.ofString "_ABCLike") 446)), (some (Value.str (Str.ofString "_ABCLike") 454)), (some (Value.builtin "type.__new__")), (some (Value.bool true))])⟩
noncomputable def o112 (P : Params) : Obj := ⟨(Value.type "super"), none, (Data.fields (List.toArray [(Value.ref 152), (Value.ref 152), (Value.ref 152)])), (List.toArray [])⟩
noncomputable def o113 (P : Params) : Obj := ⟨(Value.type "builtin_function_or_method"), none, (Data.fields (List.toArray [(Value.builtin "object.__init_subclass__"), (Value.ref 152)])), (List.toArray [])⟩
noncomputable def o114 (P : Params) : Obj := ⟨Value.none, none, (.dict (List.toArray [⟨PyData.keyHash P (Str.ofString "\x69mport.loaded._sre"), (Value.str (Str.ofString "\x69mport.loaded._sre") 183), (Value.bool true)⟩, ⟨PyData.keyHash P (Str.ofString "class._frozen_importlib.BuiltinImporter"), (Value.str (Str.ofString "class._frozen_importlib.BuiltinImporter") 185), (Value.ref 14)⟩, ⟨PyData.keyHash P (Str.ofString "watched.\x69mport"), (Value.str (Str.ofString "watched.\x69mport") 206), (Value.ref 18)⟩, ⟨PyData.keyHash P (Str.ofString "class._frozen_importlib.ModuleSpec"), (Value.str (Str.ofString "class._frozen_importlib.ModuleSpec") 216), (Value.ref 22)⟩, ⟨PyData.keyHash P (Str.ofString "sys.modules.booked-epoch"), (Value.str (Str.ofString "sys.modules.booked-epoch") 245), (Value.int 4 0)⟩, ⟨PyData.keyHash P (Str.ofString "\x69mport.later-laid._sre"), (Value.str (Str.ofString "\x69mport.later-laid._sre") 270), (Value.bool true)⟩, ⟨PyData.keyHash P (Str.ofString "watched.library"), (Value.str (Str.ofString "watched.library") 272), (Value.ref 27)⟩, ⟨PyData.keyHash P (Str.ofString "watched.library-objects"), (Value.str (Str.ofString "watched.library-objects") 0), (Value.str (Str.ofString "\x0c\x1e") 0)⟩, ⟨PyData.keyHash P (Str.ofString "watched.library-deep._sre"), (Value.str (Str.ofString "watched.library-deep._sre") 273), (Value.str (Str.ofString "\x04\x00\x00\x0b\x04\x00\x00\x0b\x04\x00\x00\x03\x04\x00\x00\x0b\x08\x04dict\x02") 0)⟩, ⟨PyData.keyHash P (Str.ofString "\x69mport.loaded._collections"), (Value.str (Str.ofString "\x69mport.loaded._collections") 280), (Value.bool true)⟩, ⟨PyData.keyHash P (Str.ofString "sys.modules.landed._collections"), (Value.str (Str.ofString "sys.modules.landed._collections") 294), (Value.bool true)⟩, ⟨PyData.keyHash P (Str.ofString "\x69mport.later-laid._collections"), (Value.str (Str.ofString "\x69mport.later-laid._collections") 309), (Value.bool true)⟩, ⟨PyData.keyHash P (Str.ofString "watched.library-deep._collections"), (Value.str (Str.ofString "watched.library-deep._collections") 311), (Value.str (Str.ofString "\x04\x00\x00\x1d\x04\x00\x00\x1d\x04\x00\x00\x03\x04\x00\x00\x1d\x08\x04dict\x02") 0)⟩, ⟨PyData.keyHash P (Str.ofString "type.__subclasses__.Exception.0"), (Value.str (Str.ofString "type.__subclasses__.Exception.0") 349), (Value.int 54 0)⟩, ⟨PyData.keyHash P (Str.ofString "type.__subclasses__.Exception.n"), (Value.str (Str.ofString "type.__subclasses__.Exception.n") 350), (Value.int 1 0)⟩, ⟨PyData.keyHash P (Str.ofString "type.__subclasses__.OSError.0"), (Value.str (Str.ofString "type.__subclasses__.OSError.0") 604), (Value.int 211 0)⟩, ⟨PyData.keyHash P (Str.ofString "type.__subclasses__.OSError.n"), (Value.str (Str.ofString "type.__subclasses__.OSError.n") 605), (Value.int 1 0)⟩]) 17), (List.toArray [])⟩
noncomputable def o115 (P : Params) : Obj := ⟨(Value.type "dict"), none, (.dict (List.toArray [⟨PyData.keyHash P (Str.ofString "__name__"), (Value.str (Str.ofString "__name__") 165), (Value.str (Str.ofString "io") 568)⟩, ⟨PyData.keyHash P (Str.ofString "__doc__"), (Value.str (Str.ofString "__doc__") 166), Value.none⟩, ⟨PyData.keyHash P (Str.ofString "__package__"), (Value.str (Str.ofString "__package__") 167), Value.none⟩, ⟨PyData.keyHash P (Str.ofString "__loader__"), (Value.str (Str.ofString "__loader__") 168), (Value.builtin "__main__.__loader__#\x6fpaque")⟩, ⟨PyData.keyHash P (Str.ofString "__spec__"), (Value.str (Str.ofString "__spec__") 169), Value.none⟩, ⟨PyData.keyHash P (Str.ofString "__annotations__"), (Value.str (Str.ofString "__annotations__") 170), (Value.ref 6)⟩, ⟨PyData.keyHash P (Str.ofString "__builtins__"), (Value.str (Str.ofString "__builtins__") 171), (Value.ref 4)⟩, ⟨PyData.keyHash P (Str.ofString "__file__"), (Value.str (Str.ofString "__file__") 173), (Value.str (Str.ofString "/claim/cut.py") 172)⟩, ⟨PyData.keyHash P (Str.ofString "__cached__"), (Value.str (Str.ofString "__cached__") 174), Value.none⟩, ⟨PyData.keyHash P (Str.ofString "_sre"), (Value.str (Str.ofString "_sre") 275), (Value.ref 12)⟩, ⟨PyData.keyHash P (Str.ofString "deque"), (Value.str (Str.ofString "deque") 317), (Value.type "collections.deque")⟩, ⟨PyData.keyHash P (Str.ofString "_wall"), (Value.str (Str.ofString "_wall") 330), (Value.ref 44)⟩, ⟨PyData.keyHash P (Str.ofString "Error"), (Value.str (Str.ofString "Error") 352), (Value.ref 54)⟩, ⟨PyData.keyHash P (Str.ofString "error_reply"), (Value.str (Str.ofString "error_reply") 368), (Value.ref 67)⟩, ⟨PyData.keyHash P (Str.ofString "error_proto"), (Value.str (Str.ofString "error_proto") 384), (Value.ref 79)⟩, ⟨PyData.keyHash P (Str.ofString "parse229"), (Value.str (Str.ofString "parse229") 397), (Value.ref 88)⟩, ⟨PyData.keyHash P (Str.ofString "_get_sep"), (Value.str (Str.ofString "_get_sep") 406), (Value.ref 95)⟩, ⟨PyData.keyHash P (Str.ofString "_plain_name"), (Value.str (Str.ofString "_plain_name") 417), (Value.ref 102)⟩, ⟨PyData.keyHash P (Str.ofString "ABCMeta"), (Value.str (Str.ofString "ABCMeta") 443), (Value.ref 119)⟩, ⟨PyData.keyHash P (Str.ofString "_ABCLike"), (Value.str (Str.ofString "_ABCLike") 486), (Value.ref 152)⟩, ⟨PyData.keyHash P (Str.ofString "_abc_plain_meta"), (Value.str (Str.ofString "_abc_plain_meta") 493), (Value.ref 161)⟩, ⟨PyData.keyHash P (Str.ofString "fspath"), (Value.str (Str.ofString "fspath") 505), (Value.ref 168)⟩, ⟨PyData.keyHash P (Str.ofString "basename"), (Value.str (Str.ofString "basename") 516), (Value.ref 175)⟩, ⟨PyData.keyHash P (Str.ofString "dirname"), (Value.str (Str.ofString "dirname") 526), (Value.ref 182)⟩, ⟨PyData.keyHash P (Str.ofString "dirname_posixpath"), (Value.str (Str.ofString "dirname_posixpath") 527), (Value.ref 182)⟩, ⟨PyData.keyHash P (Str.ofString "_twin_re_1"), (Value.str (Str.ofString "_twin_re_1") 567), (Value.ref 187)⟩, ⟨PyData.keyHash P (Str.ofString "_whence"), (Value.str (Str.ofString "_whence") 577), (Value.ref 194)⟩, ⟨PyData.keyHash P (Str.ofString "_index"), (Value.str (Str.ofString "_index") 585), (Value.ref 201)⟩, ⟨PyData.keyHash P (Str.ofString "UnsupportedOperation"), (Value.str (Str.ofString "UnsupportedOperation") 607), (Value.ref 211)⟩, ⟨PyData.keyHash P (Str.ofString "IOBase"), (Value.str (Str.ofString "IOBase") 639), (Value.ref 231)⟩, ⟨PyData.keyHash P (Str.ofString "BufferedIOBase"), (Value.str (Str.ofString "BufferedIOBase") 657), (Value.ref 246)⟩, ⟨PyData.keyHash P (Str.ofString "TextIOBase"), (Value.str (Str.ofString "TextIOBase") 675), (Value.ref 258)⟩]) 32), (List.toArray [])⟩
noncomputable def o116 (P : Params) : Obj := ⟨Value.none, none, (Data.fields (List.toArray [(Value.int 3 0), (Value.int 0 0), (Value.ref 43), (Value.int 7 0), (Value.int 0 0), (Value.ref 50), (Value.int 9 0), (Value.int 0 0), (Value.ref 63), (Value.int 11 0), (Value.int 0 0), (Value.ref 75), (Value.int 13 0), (Value.int 0 0), (Value.ref 87), (Value.int 31 0), (Value.int 0 0), (Value.ref 94), (Value.int 37 0), (Value.int 0 0), (Value.ref 101), (Value.int 43 0), (Value.int 0 0), (Value.ref 108), (Value.int 48 0), (Value.int 0 0), (Value.ref 127), (Value.int 63 0), (Value.int 0 0), (Value.ref 160), (Value.int 67 0), (Value.int 0 0), (Value.ref 167), (Value.int 84 0), (Value.int 0 0), (Value.ref 174), (Value.int 89 0), (Value.int 0 0), (Value.ref 181), (Value.int 100 0), (Value.int 0 0), (Value.ref 193), (Value.int 105 0), (Value.int 0 0), (Value.ref 200), (Value.int 112 0), (Value.int 0 0), (Value.ref 207), (Value.int 114 0), (Value.int 0 0), (Value.ref 220), (Value.int 121 0), (Value.int 0 0), (Value.ref 242), (Value.int 123 0), (Value.int 0 0), (Value.ref 254)])), (List.toArray [])⟩
noncomputable def o117 (P : Params) : Obj := ⟨(Value.type "tuple"), none, (Data.seq (List.toArray [(Value.str (Str.ofString "C") 490)]) 0), (List.toArray [])⟩
noncomputable def o118 (P : Params) : Obj := ⟨Value.none, none, (.func ⟨(Str.ofString "_abc_plain_meta"), (Str.ofString "_abc_plain_meta"), (fA (stA 14)), .stmts (fB (stA 14)), (fS (stA 14)), 0, [], Value.none, Value.none, Value.none, Value.none, none, Value.none, Value.none, 0⟩), (List.toArray [])⟩
noncomputable def o119 (P : Params) : Obj := ⟨(Value.type "code"), none, (Data.fields (List.toArray [(Value.str (Str.ofString "_abc_plain_meta") 487), (Value.str (Str.ofString "_abc_plain_meta") 488), (Value.str (Str.ofString "/claim/cut.py") 489), (Value.int 63 0), (Value.int 1 0), (Value.int 0 0), (Value.int 0 0), (Value.int 3 0), (Value.ref 155), (Value.bool true), (Value.int 318 0), (Value.ref 156), Value.none, (Value.ref 157), (Value.ref 158), (Value.ref 159), (Value.int 491 0), (Value.int 63 0), (Value.str (Str.ofString "/claim/cut.py") 492)])), (List.toArray [])⟩
noncomputable def o120 (P : Params) : Obj := ⟨(Value.type "function"), none, (.func ⟨(Str.ofString "_abc_plain_meta"), (Str.ofString "_abc_plain_meta"), (fA (stA 14)), .stmts (fB (stA 14)), (fS (stA 14)), 3, [], Value.none, Value.none, Value.none, (Value.str (Str.ofString "collections.abc") 444), none, (Value.ref 160), Value.none, 0⟩), (List.toArray [])⟩
noncomputable def o121 (P : Params) : Obj := ⟨(Value.type "tuple"), none, (Data.seq (List.toArray [(Value.str (Str.ofString "path") 499), (Value.str (Str.ofString "kind") 500), (Value.str (Str.ofString "hook") 501), (Value.str (Str.ofString "given") 502)]) 0), (List.toArray [])⟩
noncomputable def o122 (P : Params) : Obj := ⟨Value.none, none, (.func ⟨(Str.ofString "fspath"), (Str.ofString "fspath"), (fA (stA 16)), .stmts (fB (stA 16)), (fS (stA 16)), 0, [], Value.none, Value.none, Value.none, Value.none, none, Value.none, Value.none, 0⟩), (List.toArray [])⟩
noncomputable def o123 (P : Params) : Obj := ⟨(Value.type "code"), none, (Data.fields (List.toArray [(Value.str (Str.ofString "fspath") 496), (Value.str (Str.ofString "fspath") 497), (Value.str (Str.ofString "/claim/cut.py") 498), (Value.int 67 0), (Value.int 1 0), (Value.int 0 0), (Value.int 0 0), (Value.int 3 0), (Value.ref 162), (Value.bool true), (Value.int 318 0), (Value.ref 163), Value.none, (Value.ref 164), (Value.ref 165), (Value.ref 166), (Value.int 503 0), (Value.int 67 0), (Value.str (Str.ofString "/claim/cut.py") 504)])), (List.toArray [])⟩
noncomputable def o124 (P : Params) : Obj := ⟨(Value.type "function"), none, (.func ⟨(Str.ofString "fspath"), (Str.ofString "fspath"), as_168, .stmts bd_168, sc_168, 3, [], Value.none, Value.none, Value.none, (Value.str (Str.ofString "os") 494), none, (Value.ref 167), Value.none, 0⟩), (List.toArray [])⟩
noncomputable def o125 (P : Params) : Obj := ⟨(Value.type "tuple"), none, (Data.seq (List.toArray [(Value.str (Str.ofString "p") 511), (Value.str (Str.ofString "sep") 512), (Value.str (Str.ofString "i") 513)]) 0), (List.toArray [])⟩
noncomputable def o126 (P : Params) : Obj := ⟨Value.none, none, (.func ⟨(Str.ofString "basename"), (Str.ofString "basename"), (fA (stA 18)), .stmts (fB (stA 18)), (fS (stA 18)), 0, [], Value.none, Value.none, Value.none, Value.none, none, Value.none, Value.none, 0⟩), (List.toArray [])⟩
noncomputable def o127 (P : Params) : Obj := ⟨(Value.type "code"), none, (Data.fields (List.toArray [(Value.str (Str.ofString "basename") 508), (Value.str (Str.ofString "basename") 509), (Value.str (Str.ofString "/claim/cut.py") 510), (Value.int 84 0), (Value.int 1 0), (Value.int 0 0), (Value.int 0 0), (Value.int 3 0), (Value.ref 169), (Value.bool true), (Value.int 318 0), (Value.ref 170), Value.none, (Value.ref 171), (Value.ref 172), (Value.ref 173), (Value.int 514 0), (Value.int 84 0), (Value.str (Str.ofString "/claim/cut.py") 515)])), (List.toArray [])⟩
noncomputable def o128 (P : Params) : Obj := ⟨(Value.type "function"), none, (.func ⟨(Str.ofString "basename"), (Str.ofString "basename"), as_175, .stmts bd_175, sc_175, 3, [], Value.none, Value.none, Value.none, (Value.str (Str.ofString "cpy313.posixpath") 506), none, (Value.ref 174), Value.none, 0⟩), (List.toArray [])⟩
noncomputable def o129 (P : Params) : Obj := ⟨(Value.type "tuple"), none, (Data.seq (List.toArray [(Value.str (Str.ofString "p") 520), (Value.str (Str.ofString "sep") 521), (Value.str (Str.ofString "i") 522), (Value.str (Str.ofString "head") 523)]) 0), (List.toArray [])⟩
noncomputable def o130 (P : Params) : Obj := ⟨Value.none, none, (.func ⟨(Str.ofString "dirname"), (Str.ofString "dirname"), (fA (stA 19)), .stmts (fB (stA 19)), (fS (stA 19)), 0, [], Value.none, Value.none, Value.none, Value.none, none, Value.none, Value.none, 0⟩), (List.toArray [])⟩
noncomputable def o131 (P : Params) : Obj := ⟨(Value.type "code"), none, (Data.fields (List.toArray [(Value.str (Str.ofString "dirname") 517), (Value.str (Str.ofString "dirname") 518), (Value.str (Str.ofString "/claim/cut.py") 519), (Value.int 89 0), (Value.int 1 0), (Value.int 0 0), (Value.int 0 0), (Value.int 3 0), (Value.ref 176), (Value.bool true), (Value.int 318 0), (Value.ref 177), Value.none, (Value.ref 178), (Value.ref 179), (Value.ref 180), (Value.int 524 0), (Value.int 89 0), (Value.str (Str.ofString "/claim/cut.py") 525)])), (List.toArray [])⟩
noncomputable def o132 (P : Params) : Obj := ⟨(Value.type "function"), none, (.func ⟨(Str.ofString "dirname"), (Str.ofString "dirname"), as_182, .stmts bd_182, sc_182, 3, [], Value.none, Value.none, Value.none, (Value.str (Str.ofString "cpy313.posixpath") 506), none, (Value.ref 181), Value.none, 0⟩), (List.toArray [])⟩
noncomputable def o133 (P : Params) : Obj := ⟨(Value.type "list"), none, (Data.seq (List.toArray [(Value.int 14 531), (Value.int 17 532), (Value.int 4 533), (Value.int 1 534), (Value.int 1 535), (Value.int 21 536), (Value.int 9 537), (Value.int 0 538), (Value.int 604043296 539), (Value.int 1 540), (Value.int 0 541), (Value.int 0 542), (Value.int 0 543), (Value.int 0 544), (Value.int 0 545), (Value.int 8 546), (Value.int 4 547), (Value.int 0 548), (Value.int 13 549), (Value.int 14 550), (Value.int 21 551), (Value.int 9 552), (Value.int 0 553), (Value.int 604043296 554), (Value.int 1 555), (Value.int 0 556), (Value.int 0 557), (Value.int 0 558), (Value.int 0 559), (Value.int 0 560), (Value.int 8 561), (Value.int 4 562), (Value.int 0 563), (Value.int 1 564)]) 0), (List.toArray [])⟩
noncomputable def o134 (P : Params) : Obj := ⟨(Value.type "tuple"), none, (Data.seq (List.toArray [Value.none]) 0), (List.toArray [])⟩
noncomputable def o135 (P : Params) : Obj := ⟨(Value.type "tuple"), none, (Data.seq (List.toArray [(Value.int 14 0), (Value.int 17 0), (Value.int 4 0), (Value.int 1 0), (Value.int 1 0), (Value.int 21 0), (Value.int 9 0), (Value.int 0 0), (Value.int 604043296 0), (Value.int 1 0), (Value.int 0 0), (Value.int 0 0), (Value.int 0 0), (Value.int 0 0), (Value.int 0 0), (Value.int 8 0), (Value.int 4 0), (Value.int 0 0), (Value.int 13 0), (Value.int 14 0), (Value.int 21 0), (Value.int 9 0), (Value.int 0 0), (Value.int 604043296 0), (Value.int 1 0), (Value.int 0 0), (Value.int 0 0), (Value.int 0 0), (Value.int 0 0), (Value.int 0 0), (Value.int 8 0), (Value.int 4 0), (Value.int 0 0), (Value.int 1 0)]) 0), (List.toArray [])⟩
noncomputable def o136 (P : Params) : Obj := ⟨(Value.type "re.Pattern"), none, (Data.fields (List.toArray [(Value.str (Str.ofString "[^\\w@%+=:,./-]") 529), (Value.int 256 566), (Value.int 0 0), Value.none, Value.none, (Value.ref 186), (Value.int 0 0)])), (List.toArray [])⟩
noncomputable def o137 (P : Params) : Obj := ⟨(Value.type "tuple"), none, (Data.seq (List.toArray [(Value.str (Str.ofString "n") 573), (Value.str (Str.ofString "what") 574)]) 0), (List.toArray [])⟩
noncomputable def o138 (P : Params) : Obj := ⟨Value.none, none, (.func ⟨(Str.ofString "_whence"), (Str.ofString "_whence"), (fA (stA 23)), .stmts (fB (stA 23)), (fS (stA 23)), 0, [], Value.none, Value.none, Value.none, Value.none, none, Value.none, Value.none, 0⟩), (List.toArray [])⟩
noncomputable def o139 (P : Params) : Obj := ⟨(Value.type "code"), none, (Data.fields (List.toArray [(Value.str (Str.ofString "_whence") 570), (Value.str (Str.ofString "_whence") 571), (Value.str (Str.ofString "/claim/cut.py") 572), (Value.int 100 0), (Value.int 2 0), (Value.int 0 0), (Value.int 0 0), (Value.int 3 0), (Value.ref 188), (Value.bool true), (Value.int 318 0), (Value.ref 189), Value.none, (Value.ref 190), (Value.ref 191), (Value.ref 192), (Value.int 575 0), (Value.int 100 0), (Value.str (Str.ofString "/claim/cut.py") 576)])), (List.toArray [])⟩
noncomputable def o140 (P : Params) : Obj := ⟨(Value.type "function"), none, (.func ⟨(Str.ofString "_whence"), (Str.ofString "_whence"), (fA (stA 23)), .stmts (fB (stA 23)), (fS (stA 23)), 3, [], Value.none, Value.none, Value.none, (Value.str (Str.ofString "io") 568), none, (Value.ref 193), Value.none, 0⟩), (List.toArray [])⟩
noncomputable def o141 (P : Params) : Obj := ⟨(Value.type "tuple"), none, (Data.seq (List.toArray [(Value.str (Str.ofString "n") 581), (Value.str (Str.ofString "what") 582)]) 0), (List.toArray [])⟩
noncomputable def o142 (P : Params) : Obj := ⟨Value.none, none, (.func ⟨(Str.ofString "_index"), (Str.ofString "_index"), (fA (stA 24)), .stmts (fB (stA 24)), (fS (stA 24)), 0, [], Value.none, Value.none, Value.none, Value.none, none, Value.none, Value.none, 0⟩), (List.toArray [])⟩
noncomputable def o143 (P : Params) : Obj := ⟨(Value.type "code"), none, (Data.fields (List.toArray [(Value.str (Str.ofString "_index") 578), (Value.str (Str.ofString "_index") 579), (Value.str (Str.ofString "/claim/cut.py") 580), (Value.int 105 0), (Value.int 2 0), (Value.int 0 0), (Value.int 0 0), (Value.int 3 0), (Value.ref 195), (Value.bool true), (Value.int 318 0), (Value.ref 196), Value.none, (Value.ref 197), (Value.ref 198), (Value.ref 199), (Value.int 583 0), (Value.int 105 0), (Value.str (Str.ofString "/claim/cut.py") 584)])), (List.toArray [])⟩
noncomputable def o144 (P : Params) : Obj := ⟨(Value.type "function"), none, (.func ⟨(Str.ofString "_index"), (Str.ofString "_index"), as_201, .stmts bd_201, sc_201, 3, [], Value.none, Value.none, Value.none, (Value.str (Str.ofString "io") 568), none, (Value.ref 200), Value.none, 0⟩), (List.toArray [])⟩
noncomputable def o145 (P : Params) : Obj := ⟨(Value.type "tuple"), none, (Data.seq (List.toArray [(Value.type "OSError"), (Value.type "ValueError")]) 0), (List.toArray [])⟩
noncomputable def o146 (P : Params) : Obj := ⟨(Value.type "dict"), none, (.dict (List.toArray [⟨PyData.keyHash P (Str.ofString "__module__"), (Value.str (Str.ofString "__module__") 593), (Value.str (Str.ofString "io") 598)⟩, ⟨PyData.keyHash P (Str.ofString "__qualname__"), (Value.str (Str.ofString "__qualname__") 595), (Value.str (Str.ofString "UnsupportedOperation") 594)⟩, ⟨PyData.keyHash P (Str.ofString "__firstlineno__"), (Value.str (Str.ofString "__firstlineno__") 597), (Value.int 112 596)⟩, ⟨PyData.keyHash P (Str.ofString "__static_attributes__"), (Value.str (Str.ofString "__static_attributes__") 600), (Value.ref 209)⟩]) 4), (List.toArray [])⟩
noncomputable def o147 (P : Params) : Obj := ⟨(Value.type "code"), none, (Data.fields (List.toArray [(Value.str (Str.ofString "UnsupportedOperation") 588), (Value.str (Str.ofString "UnsupportedOperation") 589), (Value.str (Str.ofString "/claim/cut.py") 590), (Value.int 112 0), (Value.int 0 0), (Value.int 0 0), (Value.int 0 0), (Value.int 0 0), (Value.ref 205), (Value.bool false), (Value.int 318 0), (Value.ref 206), Value.none, Value.none, Value.none, Value.none, (Value.int 591 0), (Value.int 112 0), (Value.str (Str.ofString "/claim/cut.py") 592)])), (List.toArray [])⟩
noncomputable def o148 (P : Params) : Obj := ⟨(Value.type "frame"), none, Data.plain, (List.toArray [(some (Value.ref 207)), (some (Value.ref 3)), (some (Value.ref 204)), none, (some (Value.str (Str.ofString "io") 568)), none, (some (Value.ref 0))])⟩
noncomputable def o149 (P : Params) : Obj := ⟨(Value.type "dict"), none, (.dict (List.toArray [⟨PyData.keyHash P (Str.ofString "__module__"), (Value.str (Str.ofString "__module__") 593), (Value.str (Str.ofString "io") 598)⟩, ⟨PyData.keyHash P (Str.ofString "__firstlineno__"), (Value.str (Str.ofString "__firstlineno__") 597), (Value.int 112 596)⟩, ⟨PyData.keyHash P (Str.ofString "__static_attributes__"), (Value.str (Str.ofString "__static_attributes__") 600), (Value.ref 209)⟩, ⟨PyData.keyHash P (Str.ofString "__weakref__"), (Value.str (Str.ofString "__weakref__") 602), (Value.ref 212)⟩, ⟨PyData.keyHash P (Str.ofString "__doc__"), (Value.str (Str.ofString "__doc__") 603), Value.none⟩]) 3), (List.toArray [])⟩
noncomputable def o150 (P : Params) : Obj := ⟨(Value.type "type"), none, (Data.cls ⟨(Str.ofString "UnsupportedOperation"), [(Value.type "OSError"), (Value.type "ValueError")], [(Value.ref 211), (Value.type "OSError"), (Value.type "ValueError"), (Value.type "Exception"), (Value.type "BaseException"), (Value.type "object")], 210, (Str.ofString "UnsupportedOperation"), true, [], [], false, none, false⟩), (List.toArray [(some (Value.ref 202)), none, (some (Value.str (Str.ofString "UnsupportedOperation") 586)), (some (Value.str (Str.ofString "UnsupportedOperation") 594)), (some (Value.builtin "OSError.__new__")), (some (Value.bool true))])⟩
noncomputable def o151 (P : Params) : Obj := ⟨(Value.type "getset_descriptor"), none, (Data.fields (List.toArray [(Value.str (Str.ofString "__weakref__") 601), (Value.ref 211), (Value.builtin "ExceptionGroup.__weakref__"), Value.none])), (List.toArray [])⟩
noncomputable def o152 (P : Params) : Obj := ⟨(Value.type "super"), none, (Data.fields (List.toArray [(Value.ref 211), (Value.ref 211), (Value.ref 211)])), (List.toArray [])⟩
noncomputable def o153 (P : Params) : Obj := ⟨(Value.type "builtin_function_or_method"), none, (Data.fields (List.toArray [(Value.builtin "object.__init_subclass__"), (Value.ref 211)])), (List.toArray [])⟩
noncomputable def o154 (P : Params) : Obj := ⟨(Value.type "dict"), none, (.dict (List.toArray [⟨PyData.keyHash P (Str.ofString "__module__"), (Value.str (Str.ofString "__module__") 615), (Value.str (Str.ofString "io") 620)⟩, ⟨PyData.keyHash P (Str.ofString "__qualname__"), (Value.str (Str.ofString "__qualname__") 617), (Value.str (Str.ofString "IOBase") 616)⟩, ⟨PyData.keyHash P (Str.ofString "__firstlineno__"), (Value.str (Str.ofString "__firstlineno__") 619), (Value.int 114 618)⟩, ⟨PyData.keyHash P (Str.ofString "__new__"), (Value.str (Str.ofString "__new__") 630), (Value.ref 228)⟩, ⟨PyData.keyHash P (Str.ofString "__static_attributes__"), (Value.str (Str.ofString "__static_attributes__") 631), (Value.ref 229)⟩]) 5), (List.toArray [])⟩
noncomputable def o155 (P : Params) : Obj := ⟨Value.none, none, (Data.fields (List.toArray [(Value.int 117 0), (Value.int 4 0), (Value.ref 227)])), (List.toArray [])⟩
noncomputable def o156 (P : Params) : Obj := ⟨(Value.type "code"), none, (Data.fields (List.toArray [(Value.str (Str.ofString "IOBase") 610), (Value.str (Str.ofString "IOBase") 611), (Value.str (Str.ofString "/claim/cut.py") 612), (Value.int 114 0), (Value.int 0 0), (Value.int 0 0), (Value.int 0 0), (Value.int 0 0), (Value.ref 218), (Value.bool false), (Value.int 318 0), (Value.ref 219), Value.none, Value.none, Value.none, Value.none, (Value.int 613 0), (Value.int 114 0), (Value.str (Str.ofString "/claim/cut.py") 614)])), (List.toArray [])⟩
noncomputable def o157 (P : Params) : Obj := ⟨(Value.type "frame"), none, Data.plain, (List.toArray [(some (Value.ref 220)), (some (Value.ref 3)), (some (Value.ref 217)), none, (some (Value.str (Str.ofString "io") 568)), none, (some (Value.ref 0))])⟩
noncomputable def o158 (P : Params) : Obj := ⟨(Value.type "tuple"), none, (Data.seq (List.toArray [(Value.str (Str.ofString "cls") 625), (Value.str (Str.ofString "args") 626), (Value.str (Str.ofString "kwargs") 627)]) 0), (List.toArray [])⟩
noncomputable def o159 (P : Params) : Obj := ⟨Value.none, none, (.func ⟨(Str.ofString "__new__"), (Str.ofString "IOBase.__new__"), (fA (inC (stA 26) 1)), .stmts (fB (inC (stA 26) 1)), (fS (inC (stA 26) 1)), 0, [], Value.none, Value.none, Value.none, Value.none, none, Value.none, Value.none, 0⟩), (List.toArray [])⟩
noncomputable def o160 (P : Params) : Obj := ⟨(Value.type "code"), none, (Data.fields (List.toArray [(Value.str (Str.ofString "__new__") 622), (Value.str (Str.ofString "IOBase.__new__") 623), (Value.str (Str.ofString "/claim/cut.py") 624), (Value.int 117 0), (Value.int 1 0), (Value.int 1 0), (Value.int 0 0), (Value.int 15 0), (Value.ref 222), (Value.bool true), (Value.int 318 0), (Value.ref 223), Value.none, (Value.ref 224), (Value.ref 225), (Value.ref 226), (Value.int 628 0), (Value.int 117 0), (Value.str (Str.ofString "/claim/cut.py") 629)])), (List.toArray [])⟩
noncomputable def o161 (P : Params) : Obj := ⟨(Value.type "function"), none, (.func ⟨(Str.ofString "__new__"), (Str.ofString "IOBase.__new__"), as_228, .stmts bd_228, sc_228, 3, [], Value.none, Value.none, Value.none, (Value.str (Str.ofString "io") 568), none, (Value.ref 227), Value.none, 0⟩), (List.toArray [])⟩
noncomputable def o162 (P : Params) : Obj := ⟨(Value.type "dict"), none, (.dict (List.toArray [⟨PyData.keyHash P (Str.ofString "__module__"), (Value.str (Str.ofString "__module__") 615), (Value.str (Str.ofString "io") 620)⟩, ⟨PyData.keyHash P (Str.ofString "__firstlineno__"), (Value.str (Str.ofString "__firstlineno__") 619), (Value.int 114 618)⟩, ⟨PyData.keyHash P (Str.ofString "__new__"), (Value.str (Str.ofString "__new__") 630), (Value.ref 232)⟩, ⟨PyData.keyHash P (Str.ofString "__static_attributes__"), (Value.str (Str.ofString "__static_attributes__") 631), (Value.ref 229)⟩, ⟨PyData.keyHash P (Str.ofString "__dict__"), (Value.str (Str.ofString "__dict__") 634), (Value.ref 233)⟩, ⟨PyData.keyHash P (Str.ofString "__weakref__"), (Value.str (Str.ofString "__weakref__") 636), (Value.ref 234)⟩, ⟨PyData.keyHash P (Str.ofString "__doc__"), (Value.str (Str.ofString "__doc__") 637), Value.none⟩]) 4), (List.toArray [])⟩
noncomputable def o163 (P : Params) : Obj := ⟨(Value.type "type"), none, (Data.cls ⟨(Str.ofString "IOBase"), [(Value.type "object")], [(Value.ref 231), (Value.type "object")], 230, (Str.ofString "IOBase"), true, [], [(Value.ref 246), (Value.ref 258)], false, none, false⟩), (List.toArray [none, none, (some (Value.str (Str.ofString "IOBase") 608)), (some (Value.str (Str.ofString "IOBase") 616)), (some Value.none), (some (Value.bool true))])⟩
noncomputable def o164 (P : Params) : Obj := ⟨(Value.type "staticmethod"), none, (Data.fields (List.toArray [(Value.ref 228)])), (List.toArray [])⟩
noncomputable def o165 (P : Params) : Obj := ⟨(Value.type "getset_descriptor"), none, (Data.fields (List.toArray [(Value.str (Str.ofString "__dict__") 633), (Value.ref 231), (Value.builtin "function.__dict__"), (Value.builtin "function.__dict__#set")])), (List.toArray [])⟩
noncomputable def o166 (P : Params) : Obj := ⟨(Value.type "getset_descriptor"), none, (Data.fields (List.toArray [(Value.str (Str.ofString "__weakref__") 635), (Value.ref 231), (Value.builtin "ExceptionGroup.__weakref__"), Value.none])), (List.toArray [])⟩
noncomputable def o167 (P : Params) : Obj := ⟨(Value.type "super"), none, (Data.fields (List.toArray [(Value.ref 231), (Value.ref 231), (Value.ref 231)])), (List.toArray [])⟩
noncomputable def o168 (P : Params) : Obj := ⟨(Value.type "builtin_function_or_method"), none, (Data.fields (List.toArray [(Value.builtin "object.__init_subclass__"), (Value.ref 231)])), (List.toArray [])⟩
noncomputable def o169 (P : Params) : Obj := ⟨(Value.type "tuple"), none, (Data.seq (List.toArray [(Value.ref 231)]) 0), (List.toArray [])⟩
noncomputable def o170 (P : Params) : Obj := ⟨(Value.type "dict"), none, (.dict (List.toArray [⟨PyData.keyHash P (Str.ofString "__module__"), (Value.str (Str.ofString "__module__") 647), (Value.str (Str.ofString "io") 652)⟩, ⟨PyData.keyHash P (Str.ofString "__qualname__"), (Value.str (Str.ofString "__qualname__") 649), (Value.str (Str.ofString "BufferedIOBase") 648)⟩, ⟨PyData.keyHash P (Str.ofString "__firstlineno__"), (Value.str (Str.ofString "__firstlineno__") 651), (Value.int 121 650)⟩, ⟨PyData.keyHash P (Str.ofString "__static_attributes__"), (Value.str (Str.ofString "__static_attributes__") 654), (Value.ref 244)⟩]) 4), (List.toArray [])⟩
noncomputable def o171 (P : Params) : Obj := ⟨(Value.type "code"), none, (Data.fields (List.toArray [(Value.str (Str.ofString "BufferedIOBase") 642), (Value.str (Str.ofString "BufferedIOBase") 643), (Value.str (Str.ofString "/claim/cut.py") 644), (Value.int 121 0), (Value.int 0 0), (Value.int 0 0), (Value.int 0 0), (Value.int 0 0), (Value.ref 240), (Value.bool false), (Value.int 318 0), (Value.ref 241), Value.none, Value.none, Value.none, Value.none, (Value.int 645 0), (Value.int 121 0), (Value.str (Str.ofString "/claim/cut.py") 646)])), (List.toArray [])⟩
noncomputable def o172 (P : Params) : Obj := ⟨(Value.type "frame"), none, Data.plain, (List.toArray [(some (Value.ref 242)), (some (Value.ref 3)), (some (Value.ref 239)), none, (some (Value.str (Str.ofString "io") 568)), none, (some (Value.ref 0))])⟩
noncomputable def o173 (P : Params) : Obj := ⟨(Value.type "dict"), none, (.dict (List.toArray [⟨PyData.keyHash P (Str.ofString "__module__"), (Value.str (Str.ofString "__module__") 647), (Value.str (Str.ofString "io") 652)⟩, ⟨PyData.keyHash P (Str.ofString "__firstlineno__"), (Value.str (Str.ofString "__firstlineno__") 651), (Value.int 121 650)⟩, ⟨PyData.keyHash P (Str.ofString "__static_attributes__"), (Value.str (Str.ofString "__static_attributes__") 654), (Value.ref 244)⟩, ⟨PyData.keyHash P (Str.ofString "__doc__"), (Value.str (Str.ofString "__doc__") 655), Value.none⟩]) 2), (List.toArray [])⟩
noncomputable def o174 (P : Params) : Obj := ⟨(Value.type "type"), none, (Data.cls ⟨(Str.ofString "BufferedIOBase"), [(Value.ref 231)], [(Value.ref 246), (Value.ref 231), (Value.type "object")], 245, (Str.ofString "BufferedIOBase"), true, [], [], false, none, false⟩), (List.toArray [(some (Value.ref 237)), none, (some (Value.str (Str.ofString "BufferedIOBase") 640)), (some (Value.str (Str.ofString "BufferedIOBase") 648)), (some Value.none), (some (Value.bool true))])⟩
noncomputable def o175 (P : Params) : Obj := ⟨(Value.type "super"), none, (Data.fields (List.toArray [(Value.ref 246), (Value.ref 246), (Value.ref 246)])), (List.toArray [])⟩
noncomputable def o176 (P : Params) : Obj := ⟨(Value.type "builtin_function_or_method"), none, (Data.fields (List.toArray [(Value.builtin "object.__init_subclass__"), (Value.ref 246)])), (List.toArray [])⟩
noncomputable def o177 (P : Params) : Obj := ⟨(Value.type "dict"), none, (.dict (List.toArray [⟨PyData.keyHash P (Str.ofString "__module__"), (Value.str (Str.ofString "__module__") 665), (Value.str (Str.ofString "io") 670)⟩, ⟨PyData.keyHash P (Str.ofString "__qualname__"), (Value.str (Str.ofString "__qualname__") 667), (Value.str (Str.ofString "TextIOBase") 666)⟩, ⟨PyData.keyHash P (Str.ofString "__firstlineno__"), (Value.str (Str.ofString "__firstlineno__") 669), (Value.int 123 668)⟩, ⟨PyData.keyHash P (Str.ofString "__static_attributes__"), (Value.str (Str.ofString "__static_attributes__") 672), (Value.ref 256)⟩]) 4), (List.toArray [])⟩
noncomputable def o178 (P : Params) : Obj := ⟨(Value.type "code"), none, (Data.fields (List.toArray [(Value.str (Str.ofString "TextIOBase") 660), (Value.str (Str.ofString "TextIOBase") 661), (Value.str (Str.ofString "/claim/cut.py") 662), (Value.int 123 0), (Value.int 0 0), (Value.int 0 0), (Value.int 0 0), (Value.int 0 0), (Value.ref 252), (Value.bool false), (Value.int 318 0), (Value.ref 253), Value.none, Value.none, Value.none, Value.none, (Value.int 663 0), (Value.int 123 0), (Value.str (Str.ofString "/claim/cut.py") 664)])), (List.toArray [])⟩
noncomputable def o179 (P : Params) : Obj := ⟨(Value.type "frame"), none, Data.plain, (List.toArray [(some (Value.ref 254)), (some (Value.ref 3)), (some (Value.ref 251)), none, (some (Value.str (Str.ofString "io") 568)), none, (some (Value.ref 0))])⟩
noncomputable def o180 (P : Params) : Obj := ⟨(Value.type "dict"), none, (.dict (List.toArray [⟨PyData.keyHash P (Str.ofString "__module__"), (Value.str (Str.ofString "__module__") 665), (Value.str (Str.ofString "io") 670)⟩, ⟨PyData.keyHash P (Str.ofString "__firstlineno__"), (Value.str (Str.ofString "__firstlineno__") 669), (Value.int 123 668)⟩, ⟨PyData.keyHash P (Str.ofString "__static_attributes__"), (Value.str (Str.ofString "__static_attributes__") 672), (Value.ref 256)⟩, ⟨PyData.keyHash P (Str.ofString "__doc__"), (Value.str (Str.ofString "__doc__") 673), Value.none⟩]) 2), (List.toArray [])⟩
noncomputable def o181 (P : Params) : Obj := ⟨(Value.type "type"), none, (Data.cls ⟨(Str.ofString "TextIOBase"), [(Value.ref 231)], [(Value.ref 258), (Value.ref 231), (Value.type "object")], 257, (Str.ofString "TextIOBase"), true, [], [], false, none, false⟩), (List.toArray [(some (Value.ref 249)), none, (some (Value.str (Str.ofString "TextIOBase") 658)), (some (Value.str (Str.ofString "TextIOBase") 666)), (some Value.none), (some (Value.bool true))])⟩
noncomputable def o182 (P : Params) : Obj := ⟨(Value.type "super"), none, (Data.fields (List.toArray [(Value.ref 258), (Value.ref 258), (Value.ref 258)])), (List.toArray [])⟩
noncomputable def o183 (P : Params) : Obj := ⟨(Value.type "builtin_function_or_method"), none, (Data.fields (List.toArray [(Value.builtin "object.__init_subclass__"), (Value.ref 258)])), (List.toArray [])⟩
noncomputable def o184 (P : Params) : Obj := ⟨(Value.type "dict"), none, (.dict (List.toArray [⟨PyData.keyHash P (Str.ofString "__name__"), (Value.str (Str.ofString "__name__") 165), (Value.str (Str.ofString "io") 568)⟩, ⟨PyData.keyHash P (Str.ofString "__doc__"), (Value.str (Str.ofString "__doc__") 166), Value.none⟩, ⟨PyData.keyHash P (Str.ofString "__package__"), (Value.str (Str.ofString "__package__") 167), Value.none⟩, ⟨PyData.keyHash P (Str.ofString "__loader__"), (Value.str (Str.ofString "__loader__") 168), (Value.builtin "__main__.__loader__#\x6fpaque")⟩, ⟨PyData.keyHash P (Str.ofString "__spec__"), (Value.str (Str.ofString "__spec__") 169), Value.none⟩, ⟨PyData.keyHash P (Str.ofString "__annotations__"), (Value.str (Str.ofString "__annotations__") 170), (Value.ref 6)⟩, ⟨PyData.keyHash P (Str.ofString "__builtins__"), (Value.str (Str.ofString "__builtins__") 171), (Value.ref 4)⟩, ⟨PyData.keyHash P (Str.ofString "__file__"), (Value.str (Str.ofString "__file__") 173), (Value.str (Str.ofString "/claim/cut.py") 172)⟩, ⟨PyData.keyHash P (Str.ofString "__cached__"), (Value.str (Str.ofString "__cached__") 174), Value.none⟩, ⟨PyData.keyHash P (Str.ofString "_sre"), (Value.str (Str.ofString "_sre") 275), (Value.ref 12)⟩, ⟨PyData.keyHash P (Str.ofString "deque"), (Value.str (Str.ofString "deque") 317), (Value.type "collections.deque")⟩, ⟨PyData.keyHash P (Str.ofString "_wall"), (Value.str (Str.ofString "_wall") 330), (Value.ref 44)⟩, ⟨PyData.keyHash P (Str.ofString "Error"), (Value.str (Str.ofString "Error") 352), (Value.ref 54)⟩, ⟨PyData.keyHash P (Str.ofString "error_reply"), (Value.str (Str.ofString "error_reply") 368), (Value.ref 67)⟩, ⟨PyData.keyHash P (Str.ofString "error_proto"), (Value.str (Str.ofString "error_proto") 384), (Value.ref 79)⟩, ⟨PyData.keyHash P (Str.ofString "parse229"), (Value.str (Str.ofString "parse229") 397), (Value.ref 88)⟩, ⟨PyData.keyHash P (Str.ofString "_get_sep"), (Value.str (Str.ofString "_get_sep") 406), (Value.ref 95)⟩, ⟨PyData.keyHash P (Str.ofString "_plain_name"), (Value.str (Str.ofString "_plain_name") 417), (Value.ref 102)⟩, ⟨PyData.keyHash P (Str.ofString "ABCMeta"), (Value.str (Str.ofString "ABCMeta") 443), (Value.ref 119)⟩, ⟨PyData.keyHash P (Str.ofString "_ABCLike"), (Value.str (Str.ofString "_ABCLike") 486), (Value.ref 152)⟩, ⟨PyData.keyHash P (Str.ofString "_abc_plain_meta"), (Value.str (Str.ofString "_abc_plain_meta") 493), (Value.ref 161)⟩, ⟨PyData.keyHash P (Str.ofString "fspath"), (Value.str (Str.ofString "fspath") 505), (Value.ref 168)⟩, ⟨PyData.keyHash P (Str.ofString "basename"), (Value.str (Str.ofString "basename") 516), (Value.ref 175)⟩, ⟨PyData.keyHash P (Str.ofString "dirname"), (Value.str (Str.ofString "dirname") 526), (Value.ref 182)⟩, ⟨PyData.keyHash P (Str.ofString "dirname_posixpath"), (Value.str (Str.ofString "dirname_posixpath") 527), (Value.ref 182)⟩, ⟨PyData.keyHash P (Str.ofString "_twin_re_1"), (Value.str (Str.ofString "_twin_re_1") 567), (Value.ref 187)⟩, ⟨PyData.keyHash P (Str.ofString "_whence"), (Value.str (Str.ofString "_whence") 577), (Value.ref 194)⟩, ⟨PyData.keyHash P (Str.ofString "_index"), (Value.str (Str.ofString "_index") 585), (Value.ref 201)⟩, ⟨PyData.keyHash P (Str.ofString "UnsupportedOperation"), (Value.str (Str.ofString "UnsupportedOperation") 607), (Value.ref 211)⟩, ⟨PyData.keyHash P (Str.ofString "IOBase"), (Value.str (Str.ofString "IOBase") 639), (Value.ref 231)⟩, ⟨PyData.keyHash P (Str.ofString "BufferedIOBase"), (Value.str (Str.ofString "BufferedIOBase") 657), (Value.ref 246)⟩, ⟨PyData.keyHash P (Str.ofString "TextIOBase"), (Value.str (Str.ofString "TextIOBase") 675), (Value.ref 258)⟩, ⟨PyData.keyHash P (Str.ofString "BytesIO"), (Value.str (Str.ofString "BytesIO") 937), (Value.ref 488)⟩]) 33), (List.toArray [])⟩
noncomputable def o185 (P : Params) : Obj := ⟨Value.none, none, (Data.fields (List.toArray [(Value.int 3 0), (Value.int 0 0), (Value.ref 43), (Value.int 7 0), (Value.int 0 0), (Value.ref 50), (Value.int 9 0), (Value.int 0 0), (Value.ref 63), (Value.int 11 0), (Value.int 0 0), (Value.ref 75), (Value.int 13 0), (Value.int 0 0), (Value.ref 87), (Value.int 31 0), (Value.int 0 0), (Value.ref 94), (Value.int 37 0), (Value.int 0 0), (Value.ref 101), (Value.int 43 0), (Value.int 0 0), (Value.ref 108), (Value.int 48 0), (Value.int 0 0), (Value.ref 127), (Value.int 63 0), (Value.int 0 0), (Value.ref 160), (Value.int 67 0), (Value.int 0 0), (Value.ref 167), (Value.int 84 0), (Value.int 0 0), (Value.ref 174), (Value.int 89 0), (Value.int 0 0), (Value.ref 181), (Value.int 100 0), (Value.int 0 0), (Value.ref 193), (Value.int 105 0), (Value.int 0 0), (Value.ref 200), (Value.int 112 0), (Value.int 0 0), (Value.ref 207), (Value.int 114 0), (Value.int 0 0), (Value.ref 220), (Value.int 121 0), (Value.int 0 0), (Value.ref 242), (Value.int 123 0), (Value.int 0 0), (Value.ref 254), (Value.int 125 0), (Value.int 0 0), (Value.ref 266)])), (List.toArray [])⟩
noncomputable def o186 (P : Params) : Obj := ⟨(Value.type "type"), none, (Data.cls ⟨(Str.ofString "BufferedIOBase"), [(Value.ref 231)], [(Value.ref 246), (Value.ref 231), (Value.type "object")], 245, (Str.ofString "BufferedIOBase"), true, [], [(Value.ref 488)], false, none, false⟩), (List.toArray [(some (Value.ref 237)), none, (some (Value.str (Str.ofString "BufferedIOBase") 640)), (some (Value.str (Str.ofString "BufferedIOBase") 648)), (some Value.none), (some (Value.bool true))])⟩
noncomputable def o187 (P : Params) : Obj := ⟨(Value.type "tuple"), none, (Data.seq (List.toArray [(Value.ref 246)]) 0), (List.toArray [])⟩
noncomputable def o188 (P : Params) : Obj := ⟨(Value.type "dict"), none, (.dict (List.toArray [⟨PyData.keyHash P (Str.ofString "__module__"), (Value.str (Str.ofString "__module__") 683), (Value.str (Str.ofString "_io") 688)⟩, ⟨PyData.keyHash P (Str.ofString "__qualname__"), (Value.str (Str.ofString "__qualname__") 685), (Value.str (Str.ofString "BytesIO") 684)⟩, ⟨PyData.keyHash P (Str.ofString "__firstlineno__"), (Value.str (Str.ofString "__firstlineno__") 687), (Value.int 125 686)⟩, ⟨PyData.keyHash P (Str.ofString "__init__"), (Value.str (Str.ofString "__init__") 697), (Value.ref 275)⟩, ⟨PyData.keyHash P (Str.ofString "_BytesIO__check"), (Value.str (Str.ofString "_BytesIO__check") 704), (Value.ref 282)⟩, ⟨PyData.keyHash P (Str.ofString "_BytesIO__line"), (Value.str (Str.ofString "_BytesIO__line") 715), (Value.ref 289)⟩, ⟨PyData.keyHash P (Str.ofString "closed"), (Value.str (Str.ofString "closed") 723), (Value.ref 297)⟩, ⟨PyData.keyHash P (Str.ofString "close"), (Value.str (Str.ofString "close") 730), (Value.ref 304)⟩, ⟨PyData.keyHash P (Str.ofString "__enter__"), (Value.str (Str.ofString "__enter__") 737), (Value.ref 311)⟩, ⟨PyData.keyHash P (Str.ofString "__exit__"), (Value.str (Str.ofString "__exit__") 745), (Value.ref 318)⟩, ⟨PyData.keyHash P (Str.ofString "readable"), (Value.str (Str.ofString "readable") 752), (Value.ref 325)⟩, ⟨PyData.keyHash P (Str.ofString "writable"), (Value.str (Str.ofString "writable") 759), (Value.ref 332)⟩, ⟨PyData.keyHash P (Str.ofString "seekable"), (Value.str (Str.ofString "seekable") 766), (Value.ref 339)⟩, ⟨PyData.keyHash P (Str.ofString "isatty"), (Value.str (Str.ofString "isatty") 773), (Value.ref 346)⟩, ⟨PyData.keyHash P (Str.ofString "flush"), (Value.str (Str.ofString "flush") 780), (Value.ref 353)⟩, ⟨PyData.keyHash P (Str.ofString "fileno"), (Value.str (Str.ofString "fileno") 787), (Value.ref 360)⟩, ⟨PyData.keyHash P (Str.ofString "detach"), (Value.str (Str.ofString "detach") 794), (Value.ref 367)⟩, ⟨PyData.keyHash P (Str.ofString "getvalue"), (Value.str (Str.ofString "getvalue") 801), (Value.ref 374)⟩, ⟨PyData.keyHash P (Str.ofString "getbuffer"), (Value.str (Str.ofString "getbuffer") 808), (Value.ref 381)⟩, ⟨PyData.keyHash P (Str.ofString "tell"), (Value.str (Str.ofString "tell") 815), (Value.ref 388)⟩, ⟨PyData.keyHash P (Str.ofString "seek"), (Value.str (Str.ofString "seek") 825), (Value.ref 396)⟩, ⟨PyData.keyHash P (Str.ofString "truncate"), (Value.str (Str.ofString "truncate") 833), (Value.ref 404)⟩, ⟨PyData.keyHash P (Str.ofString "read"), (Value.str (Str.ofString "read") 845), (Value.ref 412)⟩, ⟨PyData.keyHash P (Str.ofString "read1"), (Value.str (Str.ofString "read1") 855), (Value.ref 420)⟩, ⟨PyData.keyHash P (Str.ofString "readinto"), (Value.str (Str.ofString "readinto") 865), (Value.ref 427)⟩, ⟨PyData.keyHash P (Str.ofString "readinto1"), (Value.str (Str.ofString "readinto1") 873), (Value.ref 434)⟩, ⟨PyData.keyHash P (Str.ofString "readline"), (Value.str (Str.ofString "readline") 883), (Value.ref 442)⟩, ⟨PyData.keyHash P (Str.ofString "readlines"), (Value.str (Str.ofString "readlines") 891), (Value.ref 450)⟩, ⟨PyData.keyHash P (Str.ofString "__iter__"), (Value.str (Str.ofString "__iter__") 898), (Value.ref 457)⟩, ⟨PyData.keyHash P (Str.ofString "__next__"), (Value.str (Str.ofString "__next__") 906), (Value.ref 464)⟩, ⟨PyData.keyHash P (Str.ofString "write"), (Value.str (Str.ofString "write") 916), (Value.ref 471)⟩, ⟨PyData.keyHash P (Str.ofString "writelines"), (Value.str (Str.ofString "writelines") 924), (Value.ref 478)⟩, ⟨PyData.keyHash P (Str.ofString "__repr__"), (Value.str (Str.ofString "__repr__") 931), (Value.ref 485)⟩, ⟨PyData.keyHash P (Str.ofString "__static_attributes__"), (Value.str (Str.ofString "__static_attributes__") 934), (Value.ref 486)⟩]) 34), (List.toArray [])⟩
noncomputable def o189 (P : Params) : Obj := ⟨Value.none, none, (Data.fields (List.toArray [(Value.int 128 0), (Value.int 4 0), (Value.ref 274), (Value.int 134 0), (Value.int 4 0), (Value.ref 281), (Value.int 138 0), (Value.int 4 0), (Value.ref 288), (Value.int 152 0), (Value.int 4 0), (Value.ref 295), (Value.int 155 0), (Value.int 4 0), (Value.ref 303), (Value.int 158 0), (Value.int 4 0), (Value.ref 310), (Value.int 162 0), (Value.int 4 0), (Value.ref 317), (Value.int 165 0), (Value.int 4 0), (Value.ref 324), (Value.int 169 0), (Value.int 4 0), (Value.ref 331), (Value.int 173 0), (Value.int 4 0), (Value.ref 338), (Value.int 177 0), (Value.int 4 0), (Value.ref 345), (Value.int 181 0), (Value.int 4 0), (Value.ref 352), (Value.int 184 0), (Value.int 4 0), (Value.ref 359), (Value.int 187 0), (Value.int 4 0), (Value.ref 366), (Value.int 190 0), (Value.int 4 0), (Value.ref 373), (Value.int 193 0), (Value.int 4 0), (Value.ref 380), (Value.int 196 0), (Value.int 4 0), (Value.ref 387), (Value.int 200 0), (Value.int 4 0), (Value.ref 395), (Value.int 217 0), (Value.int 4 0), (Value.ref 403), (Value.int 220 0), (Value.int 4 0), (Value.ref 411), (Value.int 234 0), (Value.int 4 0), (Value.ref 419), (Value.int 237 0), (Value.int 4 0), (Value.ref 426), (Value.int 251 0), (Value.int 4 0), (Value.ref 433), (Value.int 254 0), (Value.int 4 0), (Value.ref 441), (Value.int 261 0), (Value.int 4 0), (Value.ref 449), (Value.int 264 0), (Value.int 4 0), (Value.ref 456), (Value.int 267 0), (Value.int 4 0), (Value.ref 463), (Value.int 274 0), (Value.int 4 0), (Value.ref 470), (Value.int 290 0), (Value.int 4 0), (Value.ref 477), (Value.int 293 0), (Value.int 4 0), (Value.ref 484)])), (List.toArray [])⟩
noncomputable def o190 (P : Params) : Obj := ⟨(Value.type "code"), none, (Data.fields (List.toArray [(Value.str (Str.ofString "BytesIO") 678), (Value.str (Str.ofString "BytesIO") 679), (Value.str (Str.ofString "/claim/cut.py") 680), (Value.int 125 0), (Value.int 0 0), (Value.int 0 0), (Value.int 0 0), (Value.int 0 0), (Value.ref 264), (Value.bool false), (Value.int 318 0), (Value.ref 265), Value.none, Value.none, Value.none, Value.none, (Value.int 681 0), (Value.int 125 0), (Value.str (Str.ofString "/claim/cut.py") 682)])), (List.toArray [])⟩
noncomputable def o191 (P : Params) : Obj := ⟨(Value.type "frame"), none, Data.plain, (List.toArray [(some (Value.ref 266)), (some (Value.ref 3)), (some (Value.ref 263)), none, (some (Value.str (Str.ofString "io") 568)), none, (some (Value.ref 0))])⟩
noncomputable def o192 (P : Params) : Obj := ⟨(Value.type "tuple"), none, (Data.seq (List.toArray [(Value.str (Str.ofString "self") 693), (Value.str (Str.ofString "initial_bytes") 694)]) 0), (List.toArray [])⟩
noncomputable def o193 (P : Params) : Obj := ⟨Value.none, none, (.func ⟨(Str.ofString "__init__"), (Str.ofString "BytesIO.__init__"), (fA (inC (stA 29) 1)), .stmts (fB (inC (stA 29) 1)), (fS (inC (stA 29) 1)), 0, [], Value.none, Value.none, Value.none, Value.none, none, Value.none, Value.none, 0⟩), (List.toArray [])⟩
noncomputable def o194 (P : Params) : Obj := ⟨(Value.type "code"), none, (Data.fields (List.toArray [(Value.str (Str.ofString "__init__") 690), (Value.str (Str.ofString "BytesIO.__init__") 691), (Value.str (Str.ofString "/claim/cut.py") 692), (Value.int 128 0), (Value.int 2 0), (Value.int 0 0), (Value.int 0 0), (Value.int 3 0), (Value.ref 269), (Value.bool true), (Value.int 318 0), (Value.ref 270), Value.none, (Value.ref 271), (Value.ref 272), (Value.ref 273), (Value.int 695 0), (Value.int 128 0), (Value.str (Str.ofString "/claim/cut.py") 696)])), (List.toArray [])⟩
noncomputable def o195 (P : Params) : Obj := ⟨(Value.type "function"), none, (.func ⟨(Str.ofString "__init__"), (Str.ofString "BytesIO.__init__"), (fA (inC (stA 29) 1)), .stmts (fB (inC (stA 29) 1)), (fS (inC (stA 29) 1)), 3, [], (Value.ref 268), Value.none, Value.none, (Value.str (Str.ofString "io") 568), none, (Value.ref 274), Value.none, 0⟩), (List.toArray [])⟩
noncomputable def o196 (P : Params) : Obj := ⟨(Value.type "tuple"), none, (Data.seq (List.toArray [(Value.str (Str.ofString "self") 701)]) 0), (List.toArray [])⟩
noncomputable def o197 (P : Params) : Obj := ⟨Value.none, none, (.func ⟨(Str.ofString "__check"), (Str.ofString "BytesIO.__check"), (fA (inC (stA 29) 2)), .stmts (fB (inC (stA 29) 2)), (fS (inC (stA 29) 2)), 0, [], Value.none, Value.none, Value.none, Value.none, none, Value.none, Value.none, 0⟩), (List.toArray [])⟩
noncomputable def o198 (P : Params) : Obj := ⟨(Value.type "code"), none, (Data.fields (List.toArray [(Value.str (Str.ofString "__check") 698), (Value.str (Str.ofString "BytesIO.__check") 699), (Value.str (Str.ofString "/claim/cut.py") 700), (Value.int 134 0), (Value.int 1 0), (Value.int 0 0), (Value.int 0 0), (Value.int 3 0), (Value.ref 276), (Value.bool true), (Value.int 318 0), (Value.ref 277), Value.none, (Value.ref 278), (Value.ref 279), (Value.ref 280), (Value.int 702 0), (Value.int 134 0), (Value.str (Str.ofString "/claim/cut.py") 703)])), (List.toArray [])⟩
noncomputable def o199 (P : Params) : Obj := ⟨(Value.type "function"), none, (.func ⟨(Str.ofString "__check"), (Str.ofString "BytesIO.__check"), (fA (inC (stA 29) 2)), .stmts (fB (inC (stA 29) 2)), (fS (inC (stA 29) 2)), 3, [], Value.none, Value.none, Value.none, (Value.str (Str.ofString "io") 568), none, (Value.ref 281), Value.none, 0⟩), (List.toArray [])⟩
noncomputable def o200 (P : Params) : Obj := ⟨(Value.type "tuple"), none, (Data.seq (List.toArray [(Value.str (Str.ofString "self") 708), (Value.str (Str.ofString "limit") 709), (Value.str (Str.ofString "start") 710), (Value.str (Str.ofString "stop") 711), (Value.str (Str.ofString "i") 712)]) 0), (List.toArray [])⟩
noncomputable def o201 (P : Params) : Obj := ⟨Value.none, none, (.func ⟨(Str.ofString "__line"), (Str.ofString "BytesIO.__line"), (fA (inC (stA 29) 3)), .stmts (fB (inC (stA 29) 3)), (fS (inC (stA 29) 3)), 0, [], Value.none, Value.none, Value.none, Value.none, none, Value.none, Value.none, 0⟩), (List.toArray [])⟩
noncomputable def o202 (P : Params) : Obj := ⟨(Value.type "code"), none, (Data.fields (List.toArray [(Value.str (Str.ofString "__line") 705), (Value.str (Str.ofString "BytesIO.__line") 706), (Value.str (Str.ofString "/claim/cut.py") 707), (Value.int 138 0), (Value.int 2 0), (Value.int 0 0), (Value.int 0 0), (Value.int 3 0), (Value.ref 283), (Value.bool true), (Value.int 318 0), (Value.ref 284), Value.none, (Value.ref 285), (Value.ref 286), (Value.ref 287), (Value.int 713 0), (Value.int 138 0), (Value.str (Str.ofString "/claim/cut.py") 714)])), (List.toArray [])⟩
noncomputable def o203 (P : Params) : Obj := ⟨(Value.type "function"), none, (.func ⟨(Str.ofString "__line"), (Str.ofString "BytesIO.__line"), (fA (inC (stA 29) 3)), .stmts (fB (inC (stA 29) 3)), (fS (inC (stA 29) 3)), 3, [], Value.none, Value.none, Value.none, (Value.str (Str.ofString "io") 568), none, (Value.ref 288), Value.none, 0⟩), (List.toArray [])⟩
noncomputable def o204 (P : Params) : Obj := ⟨(Value.type "tuple"), none, (Data.seq (List.toArray [(Value.str (Str.ofString "self") 719)]) 0), (List.toArray [])⟩
noncomputable def o205 (P : Params) : Obj := ⟨Value.none, none, (.func ⟨(Str.ofString "closed"), (Str.ofString "BytesIO.closed"), (fA (inC (stA 29) 4)), .stmts (fB (inC (stA 29) 4)), (fS (inC (stA 29) 4)), 0, [], Value.none, Value.none, Value.none, Value.none, none, Value.none, Value.none, 0⟩), (List.toArray [])⟩
noncomputable def o206 (P : Params) : Obj := ⟨(Value.type "code"), none, (Data.fields (List.toArray [(Value.str (Str.ofString "closed") 716), (Value.str (Str.ofString "BytesIO.closed") 717), (Value.str (Str.ofString "/claim/cut.py") 718), (Value.int 151 0), (Value.int 1 0), (Value.int 0 0), (Value.int 0 0), (Value.int 3 0), (Value.ref 290), (Value.bool true), (Value.int 318 0), (Value.ref 291), Value.none, (Value.ref 292), (Value.ref 293), (Value.ref 294), (Value.int 720 0), (Value.int 151 0), (Value.str (Str.ofString "/claim/cut.py") 721)])), (List.toArray [])⟩
noncomputable def o207 (P : Params) : Obj := ⟨(Value.type "function"), none, (.func ⟨(Str.ofString "closed"), (Str.ofString "BytesIO.closed"), (fA (inC (stA 29) 4)), .stmts (fB (inC (stA 29) 4)), (fS (inC (stA 29) 4)), 3, [], Value.none, Value.none, Value.none, (Value.str (Str.ofString "io") 568), none, (Value.ref 295), Value.none, 0⟩), (List.toArray [])⟩
noncomputable def o208 (P : Params) : Obj := ⟨(Value.type "property"), none, (Data.fields (List.toArray [(Value.ref 296), Value.none, Value.none, Value.none, (Value.str (Str.ofString "closed") 723), (Value.bool false)])), (List.toArray [])⟩
noncomputable def o209 (P : Params) : Obj := ⟨(Value.type "tuple"), none, (Data.seq (List.toArray [(Value.str (Str.ofString "self") 727)]) 0), (List.toArray [])⟩
noncomputable def o210 (P : Params) : Obj := ⟨Value.none, none, (.func ⟨(Str.ofString "close"), (Str.ofString "BytesIO.close"), (fA (inC (stA 29) 5)), .stmts (fB (inC (stA 29) 5)), (fS (inC (stA 29) 5)), 0, [], Value.none, Value.none, Value.none, Value.none, none, Value.none, Value.none, 0⟩), (List.toArray [])⟩
noncomputable def o211 (P : Params) : Obj := ⟨(Value.type "code"), none, (Data.fields (List.toArray [(Value.str (Str.ofString "close") 724), (Value.str (Str.ofString "BytesIO.close") 725), (Value.str (Str.ofString "/claim/cut.py") 726), (Value.int 155 0), (Value.int 1 0), (Value.int 0 0), (Value.int 0 0), (Value.int 3 0), (Value.ref 298), (Value.bool true), (Value.int 318 0), (Value.ref 299), Value.none, (Value.ref 300), (Value.ref 301), (Value.ref 302), (Value.int 728 0), (Value.int 155 0), (Value.str (Str.ofString "/claim/cut.py") 729)])), (List.toArray [])⟩
noncomputable def o212 (P : Params) : Obj := ⟨(Value.type "function"), none, (.func ⟨(Str.ofString "close"), (Str.ofString "BytesIO.close"), (fA (inC (stA 29) 5)), .stmts (fB (inC (stA 29) 5)), (fS (inC (stA 29) 5)), 3, [], Value.none, Value.none, Value.none, (Value.str (Str.ofString "io") 568), none, (Value.ref 303), Value.none, 0⟩), (List.toArray [])⟩
noncomputable def o213 (P : Params) : Obj := ⟨(Value.type "tuple"), none, (Data.seq (List.toArray [(Value.str (Str.ofString "self") 734)]) 0), (List.toArray [])⟩
noncomputable def o214 (P : Params) : Obj := ⟨Value.none, none, (.func ⟨(Str.ofString "__enter__"), (Str.ofString "BytesIO.__enter__"), (fA (inC (stA 29) 6)), .stmts (fB (inC (stA 29) 6)), (fS (inC (stA 29) 6)), 0, [], Value.none, Value.none, Value.none, Value.none, none, Value.none, Value.none, 0⟩), (List.toArray [])⟩
noncomputable def o215 (P : Params) : Obj := ⟨(Value.type "code"), none, (Data.fields (List.toArray [(Value.str (Str.ofString "__enter__") 731), (Value.str (Str.ofString "BytesIO.__enter__") 732), (Value.str (Str.ofString "/claim/cut.py") 733), (Value.int 158 0), (Value.int 1 0), (Value.int 0 0), (Value.int 0 0), (Value.int 3 0), (Value.ref 305), (Value.bool true), (Value.int 318 0), (Value.ref 306), Value.none, (Value.ref 307), (Value.ref 308), (Value.ref 309), (Value.int 735 0), (Value.int 158 0), (Value.str (Str.ofString "/claim/cut.py") 736)])), (List.toArray [])⟩
noncomputable def o216 (P : Params) : Obj := ⟨(Value.type "function"), none, (.func ⟨(Str.ofString "__enter__"), (Str.ofString "BytesIO.__enter__"), (fA (inC (stA 29) 6)), .stmts (fB (inC (stA 29) 6)), (fS (inC (stA 29) 6)), 3, [], Value.none, Value.none, Value.none, (Value.str (Str.ofString "io") 568), none, (Value.ref 310), Value.none, 0⟩), (List.toArray [])⟩
noncomputable def o217 (P : Params) : Obj := ⟨(Value.type "tuple"), none, (Data.seq (List.toArray [(Value.str (Str.ofString "self") 741), (Value.str (Str.ofString "args") 742)]) 0), (List.toArray [])⟩
noncomputable def o218 (P : Params) : Obj := ⟨Value.none, none, (.func ⟨(Str.ofString "__exit__"), (Str.ofString "BytesIO.__exit__"), (fA (inC (stA 29) 7)), .stmts (fB (inC (stA 29) 7)), (fS (inC (stA 29) 7)), 0, [], Value.none, Value.none, Value.none, Value.none, none, Value.none, Value.none, 0⟩), (List.toArray [])⟩
noncomputable def o219 (P : Params) : Obj := ⟨(Value.type "code"), none, (Data.fields (List.toArray [(Value.str (Str.ofString "__exit__") 738), (Value.str (Str.ofString "BytesIO.__exit__") 739), (Value.str (Str.ofString "/claim/cut.py") 740), (Value.int 162 0), (Value.int 1 0), (Value.int 0 0), (Value.int 0 0), (Value.int 7 0), (Value.ref 312), (Value.bool true), (Value.int 318 0), (Value.ref 313), Value.none, (Value.ref 314), (Value.ref 315), (Value.ref 316), (Value.int 743 0), (Value.int 162 0), (Value.str (Str.ofString "/claim/cut.py") 744)])), (List.toArray [])⟩
noncomputable def o220 (P : Params) : Obj := ⟨(Value.type "function"), none, (.func ⟨(Str.ofString "__exit__"), (Str.ofString "BytesIO.__exit__"), (fA (inC (stA 29) 7)), .stmts (fB (inC (stA 29) 7)), (fS (inC (stA 29) 7)), 3, [], Value.none, Value.none, Value.none, (Value.str (Str.ofString "io") 568), none, (Value.ref 317), Value.none, 0⟩), (List.toArray [])⟩
noncomputable def o221 (P : Params) : Obj := ⟨(Value.type "tuple"), none, (Data.seq (List.toArray [(Value.str (Str.ofString "self") 749)]) 0), (List.toArray [])⟩
noncomputable def o222 (P : Params) : Obj := ⟨Value.none, none, (.func ⟨(Str.ofString "readable"), (Str.ofString "BytesIO.readable"), (fA (inC (stA 29) 8)), .stmts (fB (inC (stA 29) 8)), (fS (inC (stA 29) 8)), 0, [], Value.none, Value.none, Value.none, Value.none, none, Value.none, Value.none, 0⟩), (List.toArray [])⟩
noncomputable def o223 (P : Params) : Obj := ⟨(Value.type "code"), none, (Data.fields (List.toArray [(Value.str (Str.ofString "readable") 746), (Value.str (Str.ofString "BytesIO.readable") 747), (Value.str (Str.ofString "/claim/cut.py") 748), (Value.int 165 0), (Value.int 1 0), (Value.int 0 0), (Value.int 0 0), (Value.int 3 0), (Value.ref 319), (Value.bool true), (Value.int 318 0), (Value.ref 320), Value.none, (Value.ref 321), (Value.ref 322), (Value.ref 323), (Value.int 750 0), (Value.int 165 0), (Value.str (Str.ofString "/claim/cut.py") 751)])), (List.toArray [])⟩
noncomputable def o224 (P : Params) : Obj := ⟨(Value.type "function"), none, (.func ⟨(Str.ofString "readable"), (Str.ofString "BytesIO.readable"), (fA (inC (stA 29) 8)), .stmts (fB (inC (stA 29) 8)), (fS (inC (stA 29) 8)), 3, [], Value.none, Value.none, Value.none, (Value.str (Str.ofString "io") 568), none, (Value.ref 324), Value.none, 0⟩), (List.toArray [])⟩
noncomputable def o225 (P : Params) : Obj := ⟨(Value.type "tuple"), none, (Data.seq (List.toArray [(Value.str (Str.ofString "self") 756)]) 0), (List.toArray [])⟩
noncomputable def o226 (P : Params) : Obj := ⟨Value.none, none, (.func ⟨(Str.ofString "writable"), (Str.ofString "BytesIO.writable"), (fA (inC (stA 29) 9)), .stmts (fB (inC (stA 29) 9)), (fS (inC (stA 29) 9)), 0, [], Value.none, Value.none, Value.none, Value.none, none, Value.none, Value.none, 0⟩), (List.toArray [])⟩
noncomputable def o227 (P : Params) : Obj := ⟨(Value.type "code"), none, (Data.fields (List.toArray [(Value.str (Str.ofString "writable") 753), (Value.str (Str.ofString "BytesIO.writable") 754), (Value.str (Str.ofString "/claim/cut.py") 755), (Value.int 169 0), (Value.int 1 0), (Value.int 0 0), (Value.int 0 0), (Value.int 3 0), (Value.ref 326), (Value.bool true), (Value.int 318 0), (Value.ref 327), Value.none, (Value.ref 328), (Value.ref 329), (Value.ref 330), (Value.int 757 0), (Value.int 169 0), (Value.str (Str.ofString "/claim/cut.py") 758)])), (List.toArray [])⟩
noncomputable def o228 (P : Params) : Obj := ⟨(Value.type "function"), none, (.func ⟨(Str.ofString "writable"), (Str.ofString "BytesIO.writable"), (fA (inC (stA 29) 9)), .stmts (fB (inC (stA 29) 9)), (fS (inC (stA 29) 9)), 3, [], Value.none, Value.none, Value.none, (Value.str (Str.ofString "io") 568), none, (Value.ref 331), Value.none, 0⟩), (List.toArray [])⟩
noncomputable def o229 (P : Params) : Obj := ⟨(Value.type "tuple"), none, (Data.seq (List.toArray [(Value.str (Str.ofString "self") 763)]) 0), (List.toArray [])⟩
noncomputable def o230 (P : Params) : Obj := ⟨Value.none, none, (.func ⟨(Str.ofString "seekable"), (Str.ofString "BytesIO.seekable"), (fA (inC (stA 29) 10)), .stmts (fB (inC (stA 29) 10)), (fS (inC (stA 29) 10)), 0, [], Value.none, Value.none, Value.none, Value.none, none, Value.none, Value.none, 0⟩), (List.toArray [])⟩
noncomputable def o231 (P : Params) : Obj := ⟨(Value.type "code"), none, (Data.fields (List.toArray [(Value.str (Str.ofString "seekable") 760), (Value.str (Str.ofString "BytesIO.seekable") 761), (Value.str (Str.ofString "/claim/cut.py") 762), (Value.int 173 0), (Value.int 1 0), (Value.int 0 0), (Value.int 0 0), (Value.int 3 0), (Value.ref 333), (Value.bool true), (Value.int 318 0), (Value.ref 334), Value.none, (Value.ref 335), (Value.ref 336), (Value.ref 337), (Value.int 764 0), (Value.int 173 0), (Value.str (Str.ofString "/claim/cut.py") 765)])), (List.toArray [])⟩
noncomputable def o232 (P : Params) : Obj := ⟨(Value.type "function"), none, (.func ⟨(Str.ofString "seekable"), (Str.ofString "BytesIO.seekable"), (fA (inC (stA 29) 10)), .stmts (fB (inC (stA 29) 10)), (fS (inC (stA 29) 10)), 3, [], Value.none, Value.none, Value.none, (Value.str (Str.ofString "io") 568), none, (Value.ref 338), Value.none, 0⟩), (List.toArray [])⟩
noncomputable def o233 (P : Params) : Obj := ⟨(Value.type "tuple"), none, (Data.seq (List.toArray [(Value.str (Str.ofString "self") 770)]) 0), (List.toArray [])⟩
noncomputable def o234 (P : Params) : Obj := ⟨Value.none, none, (.func ⟨(Str.ofString "isatty"), (Str.ofString "BytesIO.isatty"), (fA (inC (stA 29) 11)), .stmts (fB (inC (stA 29) 11)), (fS (inC (stA 29) 11)), 0, [], Value.none, Value.none, Value.none, Value.none, none, Value.none, Value.none, 0⟩), (List.toArray [])⟩
noncomputable def o235 (P : Params) : Obj := ⟨(Value.type "code"), none, (Data.fields (List.toArray [(Value.str (Str.ofString "isatty") 767), (Value.str (Str.ofString "BytesIO.isatty") 768), (Value.str (Str.ofString "/claim/cut.py") 769), (Value.int 177 0), (Value.int 1 0), (Value.int 0 0), (Value.int 0 0), (Value.int 3 0), (Value.ref 340), (Value.bool true), (Value.int 318 0), (Value.ref 341), Value.none, (Value.ref 342), (Value.ref 343), (Value.ref 344), (Value.int 771 0), (Value.int 177 0), (Value.str (Str.ofString "/claim/cut.py") 772)])), (List.toArray [])⟩
noncomputable def o236 (P : Params) : Obj := ⟨(Value.type "function"), none, (.func ⟨(Str.ofString "isatty"), (Str.ofString "BytesIO.isatty"), (fA (inC (stA 29) 11)), .stmts (fB (inC (stA 29) 11)), (fS (inC (stA 29) 11)), 3, [], Value.none, Value.none, Value.none, (Value.str (Str.ofString "io") 568), none, (Value.ref 345), Value.none, 0⟩), (List.toArray [])⟩
noncomputable def o237 (P : Params) : Obj := ⟨(Value.type "tuple"), none, (Data.seq (List.toArray [(Value.str (Str.ofString "self") 777)]) 0), (List.toArray [])⟩
noncomputable def o238 (P : Params) : Obj := ⟨Value.none, none, (.func ⟨(Str.ofString "flush"), (Str.ofString "BytesIO.flush"), (fA (inC (stA 29) 12)), .stmts (fB (inC (stA 29) 12)), (fS (inC (stA 29) 12)), 0, [], Value.none, Value.none, Value.none, Value.none, none, Value.none, Value.none, 0⟩), (List.toArray [])⟩
noncomputable def o239 (P : Params) : Obj := ⟨(Value.type "code"), none, (Data.fields (List.toArray [(Value.str (Str.ofString "flush") 774), (Value.str (Str.ofString "BytesIO.flush") 775), (Value.str (Str.ofString "/claim/cut.py") 776), (Value.int 181 0), (Value.int 1 0), (Value.int 0 0), (Value.int 0 0), (Value.int 3 0), (Value.ref 347), (Value.bool true), (Value.int 318 0), (Value.ref 348), Value.none, (Value.ref 349), (Value.ref 350), (Value.ref 351), (Value.int 778 0), (Value.int 181 0), (Value.str (Str.ofString "/claim/cut.py") 779)])), (List.toArray [])⟩
noncomputable def o240 (P : Params) : Obj := ⟨(Value.type "function"), none, (.func ⟨(Str.ofString "flush"), (Str.ofString "BytesIO.flush"), (fA (inC (stA 29) 12)), .stmts (fB (inC (stA 29) 12)), (fS (inC (stA 29) 12)), 3, [], Value.none, Value.none, Value.none, (Value.str (Str.ofString "io") 568), none, (Value.ref 352), Value.none, 0⟩), (List.toArray [])⟩
noncomputable def o241 (P : Params) : Obj := ⟨(Value.type "tuple"), none, (Data.seq (List.toArray [(Value.str (Str.ofString "self") 784)]) 0), (List.toArray [])⟩
noncomputable def o242 (P : Params) : Obj := ⟨Value.none, none, (.func ⟨(Str.ofString "fileno"), (Str.ofString "BytesIO.fileno"), (fA (inC (stA 29) 13)), .stmts (fB (inC (stA 29) 13)), (fS (inC (stA 29) 13)), 0, [], Value.none, Value.none, Value.none, Value.none, none, Value.none, Value.none, 0⟩), (List.toArray [])⟩
noncomputable def o243 (P : Params) : Obj := ⟨(Value.type "code"), none, (Data.fields (List.toArray [(Value.str (Str.ofString "fileno") 781), (Value.str (Str.ofString "BytesIO.fileno") 782), (Value.str (Str.ofString "/claim/cut.py") 783), (Value.int 184 0), (Value.int 1 0), (Value.int 0 0), (Value.int 0 0), (Value.int 3 0), (Value.ref 354), (Value.bool true), (Value.int 318 0), (Value.ref 355), Value.none, (Value.ref 356), (Value.ref 357), (Value.ref 358), (Value.int 785 0), (Value.int 184 0), (Value.str (Str.ofString "/claim/cut.py") 786)])), (List.toArray [])⟩
noncomputable def o244 (P : Params) : Obj := ⟨(Value.type "function"), none, (.func ⟨(Str.ofString "fileno"), (Str.ofString "BytesIO.fileno"), (fA (inC (stA 29) 13)), .stmts (fB (inC (stA 29) 13)), (fS (inC (stA 29) 13)), 3, [], Value.none, Value.none, Value.none, (Value.str (Str.ofString "io") 568), none, (Value.ref 359), Value.none, 0⟩), (List.toArray [])⟩
noncomputable def o245 (P : Params) : Obj := ⟨(Value.type "tuple"), none, (Data.seq (List.toArray [(Value.str (Str.ofString "self") 791)]) 0), (List.toArray [])⟩
noncomputable def o246 (P : Params) : Obj := ⟨Value.none, none, (.func ⟨(Str.ofString "detach"), (Str.ofString "BytesIO.detach"), (fA (inC (stA 29) 14)), .stmts (fB (inC (stA 29) 14)), (fS (inC (stA 29) 14)), 0, [], Value.none, Value.none, Value.none, Value.none, none, Value.none, Value.none, 0⟩), (List.toArray [])⟩
noncomputable def o247 (P : Params) : Obj := ⟨(Value.type "code"), none, (Data.fields (List.toArray [(Value.str (Str.ofString "detach") 788), (Value.str (Str.ofString "BytesIO.detach") 789), (Value.str (Str.ofString "/claim/cut.py") 790), (Value.int 187 0), (Value.int 1 0), (Value.int 0 0), (Value.int 0 0), (Value.int 3 0), (Value.ref 361), (Value.bool true), (Value.int 318 0), (Value.ref 362), Value.none, (Value.ref 363), (Value.ref 364), (Value.ref 365), (Value.int 792 0), (Value.int 187 0), (Value.str (Str.ofString "/claim/cut.py") 793)])), (List.toArray [])⟩
noncomputable def o248 (P : Params) : Obj := ⟨(Value.type "function"), none, (.func ⟨(Str.ofString "detach"), (Str.ofString "BytesIO.detach"), (fA (inC (stA 29) 14)), .stmts (fB (inC (stA 29) 14)), (fS (inC (stA 29) 14)), 3, [], Value.none, Value.none, Value.none, (Value.str (Str.ofString "io") 568), none, (Value.ref 366), Value.none, 0⟩), (List.toArray [])⟩
noncomputable def o249 (P : Params) : Obj := ⟨(Value.type "tuple"), none, (Data.seq (List.toArray [(Value.str (Str.ofString "self") 798)]) 0), (List.toArray [])⟩
noncomputable def o250 (P : Params) : Obj := ⟨Value.none, none, (.func ⟨(Str.ofString "getvalue"), (Str.ofString "BytesIO.getvalue"), (fA (inC (stA 29) 15)), .stmts (fB (inC (stA 29) 15)), (fS (inC (stA 29) 15)), 0, [], Value.none, Value.none, Value.none, Value.none, none, Value.none, Value.none, 0⟩), (List.toArray [])⟩
noncomputable def o251 (P : Params) : Obj := ⟨(Value.type "code"), none, (Data.fields (List.toArray [(Value.str (Str.ofString "getvalue") 795), (Value.str (Str.ofString "BytesIO.getvalue") 796), (Value.str (Str.ofString "/claim/cut.py") 797), (Value.int 190 0), (Value.int 1 0), (Value.int 0 0), (Value.int 0 0), (Value.int 3 0), (Value.ref 368), (Value.bool true), (Value.int 318 0), (Value.ref 369), Value.none, (Value.ref 370), (Value.ref 371), (Value.ref 372), (Value.int 799 0), (Value.int 190 0), (Value.str (Str.ofString "/claim/cut.py") 800)])), (List.toArray [])⟩
noncomputable def o252 (P : Params) : Obj := ⟨(Value.type "function"), none, (.func ⟨(Str.ofString "getvalue"), (Str.ofString "BytesIO.getvalue"), (fA (inC (stA 29) 15)), .stmts (fB (inC (stA 29) 15)), (fS (inC (stA 29) 15)), 3, [], Value.none, Value.none, Value.none, (Value.str (Str.ofString "io") 568), none, (Value.ref 373), Value.none, 0⟩), (List.toArray [])⟩
noncomputable def o253 (P : Params) : Obj := ⟨(Value.type "tuple"), none, (Data.seq (List.toArray [(Value.str (Str.ofString "self") 805)]) 0), (List.toArray [])⟩
noncomputable def o254 (P : Params) : Obj := ⟨Value.none, none, (.func ⟨(Str.ofString "getbuffer"), (Str.ofString "BytesIO.getbuffer"), (fA (inC (stA 29) 16)), .stmts (fB (inC (stA 29) 16)), (fS (inC (stA 29) 16)), 0, [], Value.none, Value.none, Value.none, Value.none, none, Value.none, Value.none, 0⟩), (List.toArray [])⟩
noncomputable def o255 (P : Params) : Obj := ⟨(Value.type "code"), none, (Data.fields (List.toArray [(Value.str (Str.ofString "getbuffer") 802), (Value.str (Str.ofString "BytesIO.getbuffer") 803), (Value.str (Str.ofString "/claim/cut.py") 804), (Value.int 193 0), (Value.int 1 0), (Value.int 0 0), (Value.int 0 0), (Value.int 3 0), (Value.ref 375), (Value.bool true), (Value.int 318 0), (Value.ref 376), Value.none, (Value.ref 377), (Value.ref 378), (Value.ref 379), (Value.int 806 0), (Value.int 193 0), (Value.str (Str.ofString "/claim/cut.py") 807)])), (List.toArray [])⟩
noncomputable def o256 (P : Params) : Obj := ⟨(Value.type "function"), none, (.func ⟨(Str.ofString "getbuffer"), (Str.ofString "BytesIO.getbuffer"), (fA (inC (stA 29) 16)), .stmts (fB (inC (stA 29) 16)), (fS (inC (stA 29) 16)), 3, [], Value.none, Value.none, Value.none, (Value.str (Str.ofString "io") 568), none, (Value.ref 380), Value.none, 0⟩), (List.toArray [])⟩
noncomputable def o257 (P : Params) : Obj := ⟨(Value.type "tuple"), none, (Data.seq (List.toArray [(Value.str (Str.ofString "self") 812)]) 0), (List.toArray [])⟩
noncomputable def o258 (P : Params) : Obj := ⟨Value.none, none, (.func ⟨(Str.ofString "tell"), (Str.ofString "BytesIO.tell"), (fA (inC (stA 29) 17)), .stmts (fB (inC (stA 29) 17)), (fS (inC (stA 29) 17)), 0, [], Value.none, Value.none, Value.none, Value.none, none, Value.none, Value.none, 0⟩), (List.toArray [])⟩
noncomputable def o259 (P : Params) : Obj := ⟨(Value.type "code"), none, (Data.fields (List.toArray [(Value.str (Str.ofString "tell") 809), (Value.str (Str.ofString "BytesIO.tell") 810), (Value.str (Str.ofString "/claim/cut.py") 811), (Value.int 196 0), (Value.int 1 0), (Value.int 0 0), (Value.int 0 0), (Value.int 3 0), (Value.ref 382), (Value.bool true), (Value.int 318 0), (Value.ref 383), Value.none, (Value.ref 384), (Value.ref 385), (Value.ref 386), (Value.int 813 0), (Value.int 196 0), (Value.str (Str.ofString "/claim/cut.py") 814)])), (List.toArray [])⟩
noncomputable def o260 (P : Params) : Obj := ⟨(Value.type "function"), none, (.func ⟨(Str.ofString "tell"), (Str.ofString "BytesIO.tell"), (fA (inC (stA 29) 17)), .stmts (fB (inC (stA 29) 17)), (fS (inC (stA 29) 17)), 3, [], Value.none, Value.none, Value.none, (Value.str (Str.ofString "io") 568), none, (Value.ref 387), Value.none, 0⟩), (List.toArray [])⟩
noncomputable def o261 (P : Params) : Obj := ⟨(Value.type "tuple"), none, (Data.seq (List.toArray [(Value.int 0 816)]) 0), (List.toArray [])⟩
noncomputable def o262 (P : Params) : Obj := ⟨(Value.type "tuple"), none, (Data.seq (List.toArray [(Value.str (Str.ofString "self") 820), (Value.str (Str.ofString "pos") 821), (Value.str (Str.ofString "whence") 822)]) 0), (List.toArray [])⟩
noncomputable def o263 (P : Params) : Obj := ⟨Value.none, none, (.func ⟨(Str.ofString "seek"), (Str.ofString "BytesIO.seek"), (fA (inC (stA 29) 18)), .stmts (fB (inC (stA 29) 18)), (fS (inC (stA 29) 18)), 0, [], Value.none, Value.none, Value.none, Value.none, none, Value.none, Value.none, 0⟩), (List.toArray [])⟩
noncomputable def o264 (P : Params) : Obj := ⟨(Value.type "code"), none, (Data.fields (List.toArray [(Value.str (Str.ofString "seek") 817), (Value.str (Str.ofString "BytesIO.seek") 818), (Value.str (Str.ofString "/claim/cut.py") 819), (Value.int 200 0), (Value.int 3 0), (Value.int 3 0), (Value.int 0 0), (Value.int 3 0), (Value.ref 390), (Value.bool true), (Value.int 318 0), (Value.ref 391), Value.none, (Value.ref 392), (Value.ref 393), (Value.ref 394), (Value.int 823 0), (Value.int 200 0), (Value.str (Str.ofString "/claim/cut.py") 824)])), (List.toArray [])⟩
noncomputable def o265 (P : Params) : Obj := ⟨(Value.type "function"), none, (.func ⟨(Str.ofString "seek"), (Str.ofString "BytesIO.seek"), (fA (inC (stA 29) 18)), .stmts (fB (inC (stA 29) 18)), (fS (inC (stA 29) 18)), 3, [], (Value.ref 389), Value.none, Value.none, (Value.str (Str.ofString "io") 568), none, (Value.ref 395), Value.none, 0⟩), (List.toArray [])⟩
noncomputable def o266 (P : Params) : Obj := ⟨(Value.type "tuple"), none, (Data.seq (List.toArray [(Value.str (Str.ofString "self") 829), (Value.str (Str.ofString "size") 830)]) 0), (List.toArray [])⟩
noncomputable def o267 (P : Params) : Obj := ⟨Value.none, none, (.func ⟨(Str.ofString "truncate"), (Str.ofString "BytesIO.truncate"), (fA (inC (stA 29) 19)), .stmts (fB (inC (stA 29) 19)), (fS (inC (stA 29) 19)), 0, [], Value.none, Value.none, Value.none, Value.none, none, Value.none, Value.none, 0⟩), (List.toArray [])⟩
noncomputable def o268 (P : Params) : Obj := ⟨(Value.type "code"), none, (Data.fields (List.toArray [(Value.str (Str.ofString "truncate") 826), (Value.str (Str.ofString "BytesIO.truncate") 827), (Value.str (Str.ofString "/claim/cut.py") 828), (Value.int 217 0), (Value.int 2 0), (Value.int 2 0), (Value.int 0 0), (Value.int 3 0), (Value.ref 398), (Value.bool true), (Value.int 318 0), (Value.ref 399), Value.none, (Value.ref 400), (Value.ref 401), (Value.ref 402), (Value.int 831 0), (Value.int 217 0), (Value.str (Str.ofString "/claim/cut.py") 832)])), (List.toArray [])⟩
noncomputable def o269 (P : Params) : Obj := ⟨(Value.type "function"), none, (.func ⟨(Str.ofString "truncate"), (Str.ofString "BytesIO.truncate"), (fA (inC (stA 29) 19)), .stmts (fB (inC (stA 29) 19)), (fS (inC (stA 29) 19)), 3, [], (Value.ref 397), Value.none, Value.none, (Value.str (Str.ofString "io") 568), none, (Value.ref 403), Value.none, 0⟩), (List.toArray [])⟩
noncomputable def o270 (P : Params) : Obj := ⟨(Value.type "tuple"), none, (Data.seq (List.toArray [(Value.int (-1) 835)]) 0), (List.toArray [])⟩
noncomputable def o271 (P : Params) : Obj := ⟨(Value.type "tuple"), none, (Data.seq (List.toArray [(Value.str (Str.ofString "self") 839), (Value.str (Str.ofString "size") 840), (Value.str (Str.ofString "start") 841), (Value.str (Str.ofString "stop") 842)]) 0), (List.toArray [])⟩
noncomputable def o272 (P : Params) : Obj := ⟨Value.none, none, (.func ⟨(Str.ofString "read"), (Str.ofString "BytesIO.read"), (fA (inC (stA 29) 20)), .stmts (fB (inC (stA 29) 20)), (fS (inC (stA 29) 20)), 0, [], Value.none, Value.none, Value.none, Value.none, none, Value.none, Value.none, 0⟩), (List.toArray [])⟩
noncomputable def o273 (P : Params) : Obj := ⟨(Value.type "code"), none, (Data.fields (List.toArray [(Value.str (Str.ofString "read") 836), (Value.str (Str.ofString "BytesIO.read") 837), (Value.str (Str.ofString "/claim/cut.py") 838), (Value.int 220 0), (Value.int 2 0), (Value.int 2 0), (Value.int 0 0), (Value.int 3 0), (Value.ref 406), (Value.bool true), (Value.int 318 0), (Value.ref 407), Value.none, (Value.ref 408), (Value.ref 409), (Value.ref 410), (Value.int 843 0), (Value.int 220 0), (Value.str (Str.ofString "/claim/cut.py") 844)])), (List.toArray [])⟩
noncomputable def o274 (P : Params) : Obj := ⟨(Value.type "function"), none, (.func ⟨(Str.ofString "read"), (Str.ofString "BytesIO.read"), (fA (inC (stA 29) 20)), .stmts (fB (inC (stA 29) 20)), (fS (inC (stA 29) 20)), 3, [], (Value.ref 405), Value.none, Value.none, (Value.str (Str.ofString "io") 568), none, (Value.ref 411), Value.none, 0⟩), (List.toArray [])⟩
noncomputable def o275 (P : Params) : Obj := ⟨(Value.type "tuple"), none, (Data.seq (List.toArray [(Value.int (-1) 847)]) 0), (List.toArray [])⟩
noncomputable def o276 (P : Params) : Obj := ⟨(Value.type "tuple"), none, (Data.seq (List.toArray [(Value.str (Str.ofString "self") 851), (Value.str (Str.ofString "size") 852)]) 0), (List.toArray [])⟩
noncomputable def o277 (P : Params) : Obj := ⟨Value.none, none, (.func ⟨(Str.ofString "read1"), (Str.ofString "BytesIO.read1"), (fA (inC (stA 29) 21)), .stmts (fB (inC (stA 29) 21)), (fS (inC (stA 29) 21)), 0, [], Value.none, Value.none, Value.none, Value.none, none, Value.none, Value.none, 0⟩), (List.toArray [])⟩
noncomputable def o278 (P : Params) : Obj := ⟨(Value.type "code"), none, (Data.fields (List.toArray [(Value.str (Str.ofString "read1") 848), (Value.str (Str.ofString "BytesIO.read1") 849), (Value.str (Str.ofString "/claim/cut.py") 850), (Value.int 234 0), (Value.int 2 0), (Value.int 2 0), (Value.int 0 0), (Value.int 3 0), (Value.ref 414), (Value.bool true), (Value.int 318 0), (Value.ref 415), Value.none, (Value.ref 416), (Value.ref 417), (Value.ref 418), (Value.int 853 0), (Value.int 234 0), (Value.str (Str.ofString "/claim/cut.py") 854)])), (List.toArray [])⟩
noncomputable def o279 (P : Params) : Obj := ⟨(Value.type "function"), none, (.func ⟨(Str.ofString "read1"), (Str.ofString "BytesIO.read1"), (fA (inC (stA 29) 21)), .stmts (fB (inC (stA 29) 21)), (fS (inC (stA 29) 21)), 3, [], (Value.ref 413), Value.none, Value.none, (Value.str (Str.ofString "io") 568), none, (Value.ref 419), Value.none, 0⟩), (List.toArray [])⟩
noncomputable def o280 (P : Params) : Obj := ⟨(Value.type "tuple"), none, (Data.seq (List.toArray [(Value.str (Str.ofString "self") 859), (Value.str (Str.ofString "buffer") 860), (Value.str (Str.ofString "start") 861), (Value.str (Str.ofString "n") 862)]) 0), (List.toArray [])⟩
noncomputable def o281 (P : Params) : Obj := ⟨Value.none, none, (.func ⟨(Str.ofString "readinto"), (Str.ofString "BytesIO.readinto"), (fA (inC (stA 29) 22)), .stmts (fB (inC (stA 29) 22)), (fS (inC (stA 29) 22)), 0, [], Value.none, Value.none, Value.none, Value.none, none, Value.none, Value.none, 0⟩), (List.toArray [])⟩
noncomputable def o282 (P : Params) : Obj := ⟨(Value.type "code"), none, (Data.fields (List.toArray [(Value.str (Str.ofString "readinto") 856), (Value.str (Str.ofString "BytesIO.readinto") 857), (Value.str (Str.ofString "/claim/cut.py") 858), (Value.int 237 0), (Value.int 2 0), (Value.int 2 0), (Value.int 0 0), (Value.int 3 0), (Value.ref 421), (Value.bool true), (Value.int 318 0), (Value.ref 422), Value.none, (Value.ref 423), (Value.ref 424), (Value.ref 425), (Value.int 863 0), (Value.int 237 0), (Value.str (Str.ofString "/claim/cut.py") 864)])), (List.toArray [])⟩
noncomputable def o283 (P : Params) : Obj := ⟨(Value.type "function"), none, (.func ⟨(Str.ofString "readinto"), (Str.ofString "BytesIO.readinto"), (fA (inC (stA 29) 22)), .stmts (fB (inC (stA 29) 22)), (fS (inC (stA 29) 22)), 3, [], Value.none, Value.none, Value.none, (Value.str (Str.ofString "io") 568), none, (Value.ref 426), Value.none, 0⟩), (List.toArray [])⟩
noncomputable def o284 (P : Params) : Obj := ⟨(Value.type "tuple"), none, (Data.seq (List.toArray [(Value.str (Str.ofString "self") 869), (Value.str (Str.ofString "buffer") 870)]) 0), (List.toArray [])⟩
noncomputable def o285 (P : Params) : Obj := ⟨Value.none, none, (.func ⟨(Str.ofString "readinto1"), (Str.ofString "BytesIO.readinto1"), (fA (inC (stA 29) 23)), .stmts (fB (inC (stA 29) 23)), (fS (inC (stA 29) 23)), 0, [], Value.none, Value.none, Value.none, Value.none, none, Value.none, Value.none, 0⟩), (List.toArray [])⟩
noncomputable def o286 (P : Params) : Obj := ⟨(Value.type "code"), none, (Data.fields (List.toArray [(Value.str (Str.ofString "readinto1") 866), (Value.str (Str.ofString "BytesIO.readinto1") 867), (Value.str (Str.ofString "/claim/cut.py") 868), (Value.int 251 0), (Value.int 2 0), (Value.int 2 0), (Value.int 0 0), (Value.int 3 0), (Value.ref 428), (Value.bool true), (Value.int 318 0), (Value.ref 429), Value.none, (Value.ref 430), (Value.ref 431), (Value.ref 432), (Value.int 871 0), (Value.int 251 0), (Value.str (Str.ofString "/claim/cut.py") 872)])), (List.toArray [])⟩
noncomputable def o287 (P : Params) : Obj := ⟨(Value.type "function"), none, (.func ⟨(Str.ofString "readinto1"), (Str.ofString "BytesIO.readinto1"), (fA (inC (stA 29) 23)), .stmts (fB (inC (stA 29) 23)), (fS (inC (stA 29) 23)), 3, [], Value.none, Value.none, Value.none, (Value.str (Str.ofString "io") 568), none, (Value.ref 433), Value.none, 0⟩), (List.toArray [])⟩
noncomputable def o288 (P : Params) : Obj := ⟨(Value.type "tuple"), none, (Data.seq (List.toArray [(Value.int (-1) 875)]) 0), (List.toArray [])⟩
noncomputable def o289 (P : Params) : Obj := ⟨(Value.type "tuple"), none, (Data.seq (List.toArray [(Value.str (Str.ofString "self") 879), (Value.str (Str.ofString "size") 880)]) 0), (List.toArray [])⟩
noncomputable def o290 (P : Params) : Obj := ⟨Value.none, none, (.func ⟨(Str.ofString "readline"), (Str.ofString "BytesIO.readline"), (fA (inC (stA 29) 24)), .stmts (fB (inC (stA 29) 24)), (fS (inC (stA 29) 24)), 0, [], Value.none, Value.none, Value.none, Value.none, none, Value.none, Value.none, 0⟩), (List.toArray [])⟩
noncomputable def o291 (P : Params) : Obj := ⟨(Value.type "code"), none, (Data.fields (List.toArray [(Value.str (Str.ofString "readline") 876), (Value.str (Str.ofString "BytesIO.readline") 877), (Value.str (Str.ofString "/claim/cut.py") 878), (Value.int 254 0), (Value.int 2 0), (Value.int 2 0), (Value.int 0 0), (Value.int 3 0), (Value.ref 436), (Value.bool true), (Value.int 318 0), (Value.ref 437), Value.none, (Value.ref 438), (Value.ref 439), (Value.ref 440), (Value.int 881 0), (Value.int 254 0), (Value.str (Str.ofString "/claim/cut.py") 882)])), (List.toArray [])⟩
noncomputable def o292 (P : Params) : Obj := ⟨(Value.type "function"), none, (.func ⟨(Str.ofString "readline"), (Str.ofString "BytesIO.readline"), (fA (inC (stA 29) 24)), .stmts (fB (inC (stA 29) 24)), (fS (inC (stA 29) 24)), 3, [], (Value.ref 435), Value.none, Value.none, (Value.str (Str.ofString "io") 568), none, (Value.ref 441), Value.none, 0⟩), (List.toArray [])⟩
noncomputable def o293 (P : Params) : Obj := ⟨(Value.type "tuple"), none, (Data.seq (List.toArray [(Value.str (Str.ofString "self") 887), (Value.str (Str.ofString "size") 888)]) 0), (List.toArray [])⟩
noncomputable def o294 (P : Params) : Obj := ⟨Value.none, none, (.func ⟨(Str.ofString "readlines"), (Str.ofString "BytesIO.readlines"), (fA (inC (stA 29) 25)), .stmts (fB (inC (stA 29) 25)), (fS (inC (stA 29) 25)), 0, [], Value.none, Value.none, Value.none, Value.none, none, Value.none, Value.none, 0⟩), (List.toArray [])⟩
noncomputable def o295 (P : Params) : Obj := ⟨(Value.type "code"), none, (Data.fields (List.toArray [(Value.str (Str.ofString "readlines") 884), (Value.str (Str.ofString "BytesIO.readlines") 885), (Value.str (Str.ofString "/claim/cut.py") 886), (Value.int 261 0), (Value.int 2 0), (Value.int 2 0), (Value.int 0 0), (Value.int 3 0), (Value.ref 444), (Value.bool true), (Value.int 318 0), (Value.ref 445), Value.none, (Value.ref 446), (Value.ref 447), (Value.ref 448), (Value.int 889 0), (Value.int 261 0), (Value.str (Str.ofString "/claim/cut.py") 890)])), (List.toArray [])⟩
noncomputable def o296 (P : Params) : Obj := ⟨(Value.type "function"), none, (.func ⟨(Str.ofString "readlines"), (Str.ofString "BytesIO.readlines"), (fA (inC (stA 29) 25)), .stmts (fB (inC (stA 29) 25)), (fS (inC (stA 29) 25)), 3, [], (Value.ref 443), Value.none, Value.none, (Value.str (Str.ofString "io") 568), none, (Value.ref 449), Value.none, 0⟩), (List.toArray [])⟩
noncomputable def o297 (P : Params) : Obj := ⟨(Value.type "tuple"), none, (Data.seq (List.toArray [(Value.str (Str.ofString "self") 895)]) 0), (List.toArray [])⟩
noncomputable def o298 (P : Params) : Obj := ⟨Value.none, none, (.func ⟨(Str.ofString "__iter__"), (Str.ofString "BytesIO.__iter__"), (fA (inC (stA 29) 26)), .stmts (fB (inC (stA 29) 26)), (fS (inC (stA 29) 26)), 0, [], Value.none, Value.none, Value.none, Value.none, none, Value.none, Value.none, 0⟩), (List.toArray [])⟩
noncomputable def o299 (P : Params) : Obj := ⟨(Value.type "code"), none, (Data.fields (List.toArray [(Value.str (Str.ofString "__iter__") 892), (Value.str (Str.ofString "BytesIO.__iter__") 893), (Value.str (Str.ofString "/claim/cut.py") 894), (Value.int 264 0), (Value.int 1 0), (Value.int 0 0), (Value.int 0 0), (Value.int 3 0), (Value.ref 451), (Value.bool true), (Value.int 318 0), (Value.ref 452), Value.none, (Value.ref 453), (Value.ref 454), (Value.ref 455), (Value.int 896 0), (Value.int 264 0), (Value.str (Str.ofString "/claim/cut.py") 897)])), (List.toArray [])⟩
noncomputable def o300 (P : Params) : Obj := ⟨(Value.type "function"), none, (.func ⟨(Str.ofString "__iter__"), (Str.ofString "BytesIO.__iter__"), (fA (inC (stA 29) 26)), .stmts (fB (inC (stA 29) 26)), (fS (inC (stA 29) 26)), 3, [], Value.none, Value.none, Value.none, (Value.str (Str.ofString "io") 568), none, (Value.ref 456), Value.none, 0⟩), (List.toArray [])⟩
noncomputable def o301 (P : Params) : Obj := ⟨(Value.type "tuple"), none, (Data.seq (List.toArray [(Value.str (Str.ofString "self") 902), (Value.str (Str.ofString "line") 903)]) 0), (List.toArray [])⟩
noncomputable def o302 (P : Params) : Obj := ⟨Value.none, none, (.func ⟨(Str.ofString "__next__"), (Str.ofString "BytesIO.__next__"), (fA (inC (stA 29) 27)), .stmts (fB (inC (stA 29) 27)), (fS (inC (stA 29) 27)), 0, [], Value.none, Value.none, Value.none, Value.none, none, Value.none, Value.none, 0⟩), (List.toArray [])⟩
noncomputable def o303 (P : Params) : Obj := ⟨(Value.type "code"), none, (Data.fields (List.toArray [(Value.str (Str.ofString "__next__") 899), (Value.str (Str.ofString "BytesIO.__next__") 900), (Value.str (Str.ofString "/claim/cut.py") 901), (Value.int 267 0), (Value.int 1 0), (Value.int 0 0), (Value.int 0 0), (Value.int 3 0), (Value.ref 458), (Value.bool true), (Value.int 318 0), (Value.ref 459), Value.none, (Value.ref 460), (Value.ref 461), (Value.ref 462), (Value.int 904 0), (Value.int 267 0), (Value.str (Str.ofString "/claim/cut.py") 905)])), (List.toArray [])⟩
noncomputable def o304 (P : Params) : Obj := ⟨(Value.type "function"), none, (.func ⟨(Str.ofString "__next__"), (Str.ofString "BytesIO.__next__"), (fA (inC (stA 29) 27)), .stmts (fB (inC (stA 29) 27)), (fS (inC (stA 29) 27)), 3, [], Value.none, Value.none, Value.none, (Value.str (Str.ofString "io") 568), none, (Value.ref 463), Value.none, 0⟩), (List.toArray [])⟩
noncomputable def o305 (P : Params) : Obj := ⟨(Value.type "tuple"), none, (Data.seq (List.toArray [(Value.str (Str.ofString "self") 910), (Value.str (Str.ofString "b") 911), (Value.str (Str.ofString "n") 912), (Value.str (Str.ofString "start") 913)]) 0), (List.toArray [])⟩
noncomputable def o306 (P : Params) : Obj := ⟨Value.none, none, (.func ⟨(Str.ofString "write"), (Str.ofString "BytesIO.write"), (fA (inC (stA 29) 28)), .stmts (fB (inC (stA 29) 28)), (fS (inC (stA 29) 28)), 0, [], Value.none, Value.none, Value.none, Value.none, none, Value.none, Value.none, 0⟩), (List.toArray [])⟩
noncomputable def o307 (P : Params) : Obj := ⟨(Value.type "code"), none, (Data.fields (List.toArray [(Value.str (Str.ofString "write") 907), (Value.str (Str.ofString "BytesIO.write") 908), (Value.str (Str.ofString "/claim/cut.py") 909), (Value.int 274 0), (Value.int 2 0), (Value.int 2 0), (Value.int 0 0), (Value.int 3 0), (Value.ref 465), (Value.bool true), (Value.int 318 0), (Value.ref 466), Value.none, (Value.ref 467), (Value.ref 468), (Value.ref 469), (Value.int 914 0), (Value.int 274 0), (Value.str (Str.ofString "/claim/cut.py") 915)])), (List.toArray [])⟩
noncomputable def o308 (P : Params) : Obj := ⟨(Value.type "function"), none, (.func ⟨(Str.ofString "write"), (Str.ofString "BytesIO.write"), (fA (inC (stA 29) 28)), .stmts (fB (inC (stA 29) 28)), (fS (inC (stA 29) 28)), 3, [], Value.none, Value.none, Value.none, (Value.str (Str.ofString "io") 568), none, (Value.ref 470), Value.none, 0⟩), (List.toArray [])⟩
noncomputable def o309 (P : Params) : Obj := ⟨(Value.type "tuple"), none, (Data.seq (List.toArray [(Value.str (Str.ofString "self") 920), (Value.str (Str.ofString "lines") 921)]) 0), (List.toArray [])⟩
noncomputable def o310 (P : Params) : Obj := ⟨Value.none, none, (.func ⟨(Str.ofString "writelines"), (Str.ofString "BytesIO.writelines"), (fA (inC (stA 29) 29)), .stmts (fB (inC (stA 29) 29)), (fS (inC (stA 29) 29)), 0, [], Value.none, Value.none, Value.none, Value.none, none, Value.none, Value.none, 0⟩), (List.toArray [])⟩
noncomputable def o311 (P : Params) : Obj := ⟨(Value.type "code"), none, (Data.fields (List.toArray [(Value.str (Str.ofString "writelines") 917), (Value.str (Str.ofString "BytesIO.writelines") 918), (Value.str (Str.ofString "/claim/cut.py") 919), (Value.int 290 0), (Value.int 2 0), (Value.int 2 0), (Value.int 0 0), (Value.int 3 0), (Value.ref 472), (Value.bool true), (Value.int 318 0), (Value.ref 473), Value.none, (Value.ref 474), (Value.ref 475), (Value.ref 476), (Value.int 922 0), (Value.int 290 0), (Value.str (Str.ofString "/claim/cut.py") 923)])), (List.toArray [])⟩
noncomputable def o312 (P : Params) : Obj := ⟨(Value.type "function"), none, (.func ⟨(Str.ofString "writelines"), (Str.ofString "BytesIO.writelines"), (fA (inC (stA 29) 29)), .stmts (fB (inC (stA 29) 29)), (fS (inC (stA 29) 29)), 3, [], Value.none, Value.none, Value.none, (Value.str (Str.ofString "io") 568), none, (Value.ref 477), Value.none, 0⟩), (List.toArray [])⟩
noncomputable def o313 (P : Params) : Obj := ⟨(Value.type "tuple"), none, (Data.seq (List.toArray [(Value.str (Str.ofString "self") 928)]) 0), (List.toArray [])⟩
noncomputable def o314 (P : Params) : Obj := ⟨Value.none, none, (.func ⟨(Str.ofString "__repr__"), (Str.ofString "BytesIO.__repr__"), (fA (inC (stA 29) 30)), .stmts (fB (inC (stA 29) 30)), (fS (inC (stA 29) 30)), 0, [], Value.none, Value.none, Value.none, Value.none, none, Value.none, Value.none, 0⟩), (List.toArray [])⟩
noncomputable def o315 (P : Params) : Obj := ⟨(Value.type "code"), none, (Data.fields (List.toArray [(Value.str (Str.ofString "__repr__") 925), (Value.str (Str.ofString "BytesIO.__repr__") 926), (Value.str (Str.ofString "/claim/cut.py") 927), (Value.int 293 0), (Value.int 1 0), (Value.int 0 0), (Value.int 0 0), (Value.int 3 0), (Value.ref 479), (Value.bool true), (Value.int 318 0), (Value.ref 480), Value.none, (Value.ref 481), (Value.ref 482), (Value.ref 483), (Value.int 929 0), (Value.int 293 0), (Value.str (Str.ofString "/claim/cut.py") 930)])), (List.toArray [])⟩
noncomputable def o316 (P : Params) : Obj := ⟨(Value.type "function"), none, (.func ⟨(Str.ofString "__repr__"), (Str.ofString "BytesIO.__repr__"), (fA (inC (stA 29) 30)), .stmts (fB (inC (stA 29) 30)), (fS (inC (stA 29) 30)), 3, [], Value.none, Value.none, Value.none, (Value.str (Str.ofString "io") 568), none, (Value.ref 484), Value.none, 0⟩), (List.toArray [])⟩
noncomputable def o317 (P : Params) : Obj := ⟨(Value.type "tuple"), none, (Data.seq (List.toArray [(Value.str (Str.ofString "__buf") 932), (Value.str (Str.ofString "__pos") 933)]) 0), (List.toArray [])⟩
noncomputable def o318 (P : Params) : Obj := ⟨(Value.type "dict"), none, (.dict (List.toArray [⟨PyData.keyHash P (Str.ofString "__module__"), (Value.str (Str.ofString "__module__") 683), (Value.str (Str.ofString "_io") 688)⟩, ⟨PyData.keyHash P (Str.ofString "__firstlineno__"), (Value.str (Str.ofString "__firstlineno__") 687), (Value.int 125 686)⟩, ⟨PyData.keyHash P (Str.ofString "__init__"), (Value.str (Str.ofString "__init__") 697), (Value.ref 275)⟩, ⟨PyData.keyHash P (Str.ofString "_BytesIO__check"), (Value.str (Str.ofString "_BytesIO__check") 704), (Value.ref 282)⟩, ⟨PyData.keyHash P (Str.ofString "_BytesIO__line"), (Value.str (Str.ofString "_BytesIO__line") 715), (Value.ref 289)⟩, ⟨PyData.keyHash P (Str.ofString "closed"), (Value.str (Str.ofString "closed") 723), (Value.ref 297)⟩, ⟨PyData.keyHash P (Str.ofString "close"), (Value.str (Str.ofString "close") 730), (Value.ref 304)⟩, ⟨PyData.keyHash P (Str.ofString "__enter__"), (Value.str (Str.ofString "__enter__") 737), (Value.ref 311)⟩, ⟨PyData.keyHash P (Str.ofString "__exit__"), (Value.str (Str.ofString "__exit__") 745), (Value.ref 318)⟩, ⟨PyData.keyHash P (Str.ofString "readable"), (Value.str (Str.ofString "readable") 752), (Value.ref 325)⟩, ⟨PyData.keyHash P (Str.ofString "writable"), (Value.str (Str.ofString "writable") 759), (Value.ref 332)⟩, ⟨PyData.keyHash P (Str.ofString "seekable"), (Value.str (Str.ofString "seekable") 766), (Value.ref 339)⟩, ⟨PyData.keyHash P (Str.ofString "isatty"), (Value.str (Str.ofString "isatty") 773), (Value.ref 346)⟩, ⟨PyData.keyHash P (Str.ofString "flush"), (Value.str (Str.ofString "flush") 780), (Value.ref 353)⟩, ⟨PyData.keyHash P (Str.ofString "fileno"), (Value.str (Str.ofString "fileno") 787), (Value.ref 360)⟩, ⟨PyData.keyHash P (Str.ofString "detach"), (Value.str (Str.ofString "detach") 794), (Value.ref 367)⟩, ⟨PyData.keyHash P (Str.ofString "getvalue"), (Value.str (Str.ofString "getvalue") 801), (Value.ref 374)⟩, ⟨PyData.keyHash P (Str.ofString "getbuffer"), (Value.str (Str.ofString "getbuffer") 808), (Value.ref 381)⟩, ⟨PyData.keyHash P (Str.ofString "tell"), (Value.str (Str.ofString "tell") 815), (Value.ref 388)⟩, ⟨PyData.keyHash P (Str.ofString "seek"), (Value.str (Str.ofString "seek") 825), (Value.ref 396)⟩, ⟨PyData.keyHash P (Str.ofString "truncate"), (Value.str (Str.ofString "truncate") 833), (Value.ref 404)⟩, ⟨PyData.keyHash P (Str.ofString "read"), (Value.str (Str.ofString "read") 845), (Value.ref 412)⟩, ⟨PyData.keyHash P (Str.ofString "read1"), (Value.str (Str.ofString "read1") 855), (Value.ref 420)⟩, ⟨PyData.keyHash P (Str.ofString "readinto"), (Value.str (Str.ofString "readinto") 865), (Value.ref 427)⟩, ⟨PyData.keyHash P (Str.ofString "readinto1"), (Value.str (Str.ofString "readinto1") 873), (Value.ref 434)⟩, ⟨PyData.keyHash P (Str.ofString "readline"), (Value.str (Str.ofString "readline") 883), (Value.ref 442)⟩, ⟨PyData.keyHash P (Str.ofString "readlines"), (Value.str (Str.ofString "readlines") 891), (Value.ref 450)⟩, ⟨PyData.keyHash P (Str.ofString "__iter__"), (Value.str (Str.ofString "__iter__") 898), (Value.ref 457)⟩, ⟨PyData.keyHash P (Str.ofString "__next__"), (Value.str (Str.ofString "__next__") 906), (Value.ref 464)⟩, ⟨PyData.keyHash P (Str.ofString "write"), (Value.str (Str.ofString "write") 916), (Value.ref 471)⟩, ⟨PyData.keyHash P (Str.ofString "writelines"), (Value.str (Str.ofString "writelines") 924), (Value.ref 478)⟩, ⟨PyData.keyHash P (Str.ofString "__repr__"), (Value.str (Str.ofString "__repr__") 931), (Value.ref 485)⟩, ⟨PyData.keyHash P (Str.ofString "__static_attributes__"), (Value.str (Str.ofString "__static_attributes__") 934), (Value.ref 486)⟩, ⟨PyData.keyHash P (Str.ofString "__doc__"), (Value.str (Str.ofString "__doc__") 935), Value.none⟩]) 2), (List.toArray [])⟩
noncomputable def o319 (P : Params) : Obj := ⟨(Value.type "type"), none, (Data.cls ⟨(Str.ofString "BytesIO"), [(Value.ref 246)], [(Value.ref 488), (Value.ref 246), (Value.ref 231), (Value.type "object")], 487, (Str.ofString "BytesIO"), true, [], [], false, none, false⟩), (List.toArray [(some (Value.ref 261)), none, (some (Value.str (Str.ofString "BytesIO") 676)), (some (Value.str (Str.ofString "BytesIO") 684)), (some Value.none), (some (Value.bool true))])⟩
noncomputable def o320 (P : Params) : Obj := ⟨(Value.type "super"), none, (Data.fields (List.toArray [(Value.ref 488), (Value.ref 488), (Value.ref 488)])), (List.toArray [])⟩
noncomputable def o321 (P : Params) : Obj := ⟨(Value.type "builtin_function_or_method"), none, (Data.fields (List.toArray [(Value.builtin "object.__init_subclass__"), (Value.ref 488)])), (List.toArray [])⟩
noncomputable def o322 (P : Params) : Obj := ⟨(Value.type "dict"), none, (.dict (List.toArray [⟨PyData.keyHash P (Str.ofString "__name__"), (Value.str (Str.ofString "__name__") 165), (Value.str (Str.ofString "io") 568)⟩, ⟨PyData.keyHash P (Str.ofString "__doc__"), (Value.str (Str.ofString "__doc__") 166), Value.none⟩, ⟨PyData.keyHash P (Str.ofString "__package__"), (Value.str (Str.ofString "__package__") 167), Value.none⟩, ⟨PyData.keyHash P (Str.ofString "__loader__"), (Value.str (Str.ofString "__loader__") 168), (Value.builtin "__main__.__loader__#\x6fpaque")⟩, ⟨PyData.keyHash P (Str.ofString "__spec__"), (Value.str (Str.ofString "__spec__") 169), Value.none⟩, ⟨PyData.keyHash P (Str.ofString "__annotations__"), (Value.str (Str.ofString "__annotations__") 170), (Value.ref 6)⟩, ⟨PyData.keyHash P (Str.ofString "__builtins__"), (Value.str (Str.ofString "__builtins__") 171), (Value.ref 4)⟩, ⟨PyData.keyHash P (Str.ofString "__file__"), (Value.str (Str.ofString "__file__") 173), (Value.str (Str.ofString "/claim/cut.py") 172)⟩, ⟨PyData.keyHash P (Str.ofString "__cached__"), (Value.str (Str.ofString "__cached__") 174), Value.none⟩, ⟨PyData.keyHash P (Str.ofString "_sre"), (Value.str (Str.ofString "_sre") 275), (Value.ref 12)⟩, ⟨PyData.keyHash P (Str.ofString "deque"), (Value.str (Str.ofString "deque") 317), (Value.type "collections.deque")⟩, ⟨PyData.keyHash P (Str.ofString "_wall"), (Value.str (Str.ofString "_wall") 330), (Value.ref 44)⟩, ⟨PyData.keyHash P (Str.ofString "Error"), (Value.str (Str.ofString "Error") 352), (Value.ref 54)⟩, ⟨PyData.keyHash P (Str.ofString "error_reply"), (Value.str (Str.ofString "error_reply") 368), (Value.ref 67)⟩, ⟨PyData.keyHash P (Str.ofString "error_proto"), (Value.str (Str.ofString "error_proto") 384), (Value.ref 79)⟩, ⟨PyData.keyHash P (Str.ofString "parse229"), (Value.str (Str.ofString "parse229") 397), (Value.ref 88)⟩, ⟨PyData.keyHash P (Str.ofString "_get_sep"), (Value.str (Str.ofString "_get_sep") 406), (Value.ref 95)⟩, ⟨PyData.keyHash P (Str.ofString "_plain_name"), (Value.str (Str.ofString "_plain_name") 417), (Value.ref 102)⟩, ⟨PyData.keyHash P (Str.ofString "ABCMeta"), (Value.str (Str.ofString "ABCMeta") 443), (Value.ref 119)⟩, ⟨PyData.keyHash P (Str.ofString "_ABCLike"), (Value.str (Str.ofString "_ABCLike") 486), (Value.ref 152)⟩, ⟨PyData.keyHash P (Str.ofString "_abc_plain_meta"), (Value.str (Str.ofString "_abc_plain_meta") 493), (Value.ref 161)⟩, ⟨PyData.keyHash P (Str.ofString "fspath"), (Value.str (Str.ofString "fspath") 505), (Value.ref 168)⟩, ⟨PyData.keyHash P (Str.ofString "basename"), (Value.str (Str.ofString "basename") 516), (Value.ref 175)⟩, ⟨PyData.keyHash P (Str.ofString "dirname"), (Value.str (Str.ofString "dirname") 526), (Value.ref 182)⟩, ⟨PyData.keyHash P (Str.ofString "dirname_posixpath"), (Value.str (Str.ofString "dirname_posixpath") 527), (Value.ref 182)⟩, ⟨PyData.keyHash P (Str.ofString "_twin_re_1"), (Value.str (Str.ofString "_twin_re_1") 567), (Value.ref 187)⟩, ⟨PyData.keyHash P (Str.ofString "_whence"), (Value.str (Str.ofString "_whence") 577), (Value.ref 194)⟩, ⟨PyData.keyHash P (Str.ofString "_index"), (Value.str (Str.ofString "_index") 585), (Value.ref 201)⟩, ⟨PyData.keyHash P (Str.ofString "UnsupportedOperation"), (Value.str (Str.ofString "UnsupportedOperation") 607), (Value.ref 211)⟩, ⟨PyData.keyHash P (Str.ofString "IOBase"), (Value.str (Str.ofString "IOBase") 639), (Value.ref 231)⟩, ⟨PyData.keyHash P (Str.ofString "BufferedIOBase"), (Value.str (Str.ofString "BufferedIOBase") 657), (Value.ref 246)⟩, ⟨PyData.keyHash P (Str.ofString "TextIOBase"), (Value.str (Str.ofString "TextIOBase") 675), (Value.ref 258)⟩, ⟨PyData.keyHash P (Str.ofString "BytesIO"), (Value.str (Str.ofString "BytesIO") 937), (Value.ref 488)⟩, ⟨PyData.keyHash P (Str.ofString "StringIO"), (Value.str (Str.ofString "StringIO") 1224), (Value.ref 735)⟩]) 34), (List.toArray [])⟩
noncomputable def o323 (P : Params) : Obj := ⟨Value.none, none, (Data.fields (List.toArray [(Value.int 3 0), (Value.int 0 0), (Value.ref 43), (Value.int 7 0), (Value.int 0 0), (Value.ref 50), (Value.int 9 0), (Value.int 0 0), (Value.ref 63), (Value.int 11 0), (Value.int 0 0), (Value.ref 75), (Value.int 13 0), (Value.int 0 0), (Value.ref 87), (Value.int 31 0), (Value.int 0 0), (Value.ref 94), (Value.int 37 0), (Value.int 0 0), (Value.ref 101), (Value.int 43 0), (Value.int 0 0), (Value.ref 108), (Value.int 48 0), (Value.int 0 0), (Value.ref 127), (Value.int 63 0), (Value.int 0 0), (Value.ref 160), (Value.int 67 0), (Value.int 0 0), (Value.ref 167), (Value.int 84 0), (Value.int 0 0), (Value.ref 174), (Value.int 89 0), (Value.int 0 0), (Value.ref 181), (Value.int 100 0), (Value.int 0 0), (Value.ref 193), (Value.int 105 0), (Value.int 0 0), (Value.ref 200), (Value.int 112 0), (Value.int 0 0), (Value.ref 207), (Value.int 114 0), (Value.int 0 0), (Value.ref 220), (Value.int 121 0), (Value.int 0 0), (Value.ref 242), (Value.int 123 0), (Value.int 0 0), (Value.ref 254), (Value.int 125 0), (Value.int 0 0), (Value.ref 266), (Value.int 295 0), (Value.int 0 0), (Value.ref 496)])), (List.toArray [])⟩
noncomputable def o324 (P : Params) : Obj := ⟨(Value.type "type"), none, (Data.cls ⟨(Str.ofString "TextIOBase"), [(Value.ref 231)], [(Value.ref 258), (Value.ref 231), (Value.type "object")], 257, (Str.ofString "TextIOBase"), true, [], [(Value.ref 735)], false, none, false⟩), (List.toArray [(some (Value.ref 249)), none, (some (Value.str (Str.ofString "TextIOBase") 658)), (some (Value.str (Str.ofString "TextIOBase") 666)), (some Value.none), (some (Value.bool true))])⟩
noncomputable def o325 (P : Params) : Obj := ⟨(Value.type "tuple"), none, (Data.seq (List.toArray [(Value.ref 258)]) 0), (List.toArray [])⟩
noncomputable def o326 (P : Params) : Obj := ⟨(Value.type "dict"), none, (.dict (List.toArray [⟨PyData.keyHash P (Str.ofString "__module__"), (Value.str (Str.ofString "__module__") 945), (Value.str (Str.ofString "_io") 950)⟩, ⟨PyData.keyHash P (Str.ofString "__qualname__"), (Value.str (Str.ofString "__qualname__") 947), (Value.str (Str.ofString "StringIO") 946)⟩, ⟨PyData.keyHash P (Str.ofString "__firstlineno__"), (Value.str (Str.ofString "__firstlineno__") 949), (Value.int 295 948)⟩, ⟨PyData.keyHash P (Str.ofString "__init__"), (Value.str (Str.ofString "__init__") 962), (Value.ref 505)⟩, ⟨PyData.keyHash P (Str.ofString "_StringIO__translated"), (Value.str (Str.ofString "_StringIO__translated") 971), (Value.ref 512)⟩, ⟨PyData.keyHash P (Str.ofString "_StringIO__check"), (Value.str (Str.ofString "_StringIO__check") 978), (Value.ref 519)⟩, ⟨PyData.keyHash P (Str.ofString "_StringIO__check_dot"), (Value.str (Str.ofString "_StringIO__check_dot") 985), (Value.ref 526)⟩, ⟨PyData.keyHash P (Str.ofString "_StringIO__line"), (Value.str (Str.ofString "_StringIO__line") 1000), (Value.ref 533)⟩, ⟨PyData.keyHash P (Str.ofString "closed"), (Value.str (Str.ofString "closed") 1008), (Value.ref 541)⟩, ⟨PyData.keyHash P (Str.ofString "line_buffering"), (Value.str (Str.ofString "line_buffering") 1016), (Value.ref 549)⟩, ⟨PyData.keyHash P (Str.ofString "newlines"), (Value.str (Str.ofString "newlines") 1024), (Value.ref 557)⟩, ⟨PyData.keyHash P (Str.ofString "encoding"), (Value.str (Str.ofString "encoding") 1032), (Value.ref 565)⟩, ⟨PyData.keyHash P (Str.ofString "errors"), (Value.str (Str.ofString "errors") 1040), (Value.ref 573)⟩, ⟨PyData.keyHash P (Str.ofString "close"), (Value.str (Str.ofString "close") 1047), (Value.ref 580)⟩, ⟨PyData.keyHash P (Str.ofString "__enter__"), (Value.str (Str.ofString "__enter__") 1054), (Value.ref 587)⟩, ⟨PyData.keyHash P (Str.ofString "__exit__"), (Value.str (Str.ofString "__exit__") 1062), (Value.ref 594)⟩, ⟨PyData.keyHash P (Str.ofString "readable"), (Value.str (Str.ofString "readable") 1069), (Value.ref 601)⟩, ⟨PyData.keyHash P (Str.ofString "writable"), (Value.str (Str.ofString "writable") 1076), (Value.ref 608)⟩, ⟨PyData.keyHash P (Str.ofString "seekable"), (Value.str (Str.ofString "seekable") 1083), (Value.ref 615)⟩, ⟨PyData.keyHash P (Str.ofString "isatty"), (Value.str (Str.ofString "isatty") 1090), (Value.ref 622)⟩, ⟨PyData.keyHash P (Str.ofString "flush"), (Value.str (Str.ofString "flush") 1097), (Value.ref 629)⟩, ⟨PyData.keyHash P (Str.ofString "fileno"), (Value.str (Str.ofString "fileno") 1104), (Value.ref 636)⟩, ⟨PyData.keyHash P (Str.ofString "detach"), (Value.str (Str.ofString "detach") 1111), (Value.ref 643)⟩, ⟨PyData.keyHash P (Str.ofString "getvalue"), (Value.str (Str.ofString "getvalue") 1118), (Value.ref 650)⟩, ⟨PyData.keyHash P (Str.ofString "tell"), (Value.str (Str.ofString "tell") 1125), (Value.ref 657)⟩, ⟨PyData.keyHash P (Str.ofString "seek"), (Value.str (Str.ofString "seek") 1135), (Value.ref 665)⟩, ⟨PyData.keyHash P (Str.ofString "truncate"), (Value.str (Str.ofString "truncate") 1143), (Value.ref 673)⟩, ⟨PyData.keyHash P (Str.ofString "read"), (Value.str (Str.ofString "read") 1155), (Value.ref 681)⟩, ⟨PyData.keyHash P (Str.ofString "readline"), (Value.str (Str.ofString "readline") 1165), (Value.ref 689)⟩, ⟨PyData.keyHash P (Str.ofString "readlines"), (Value.str (Str.ofString "readlines") 1175), (Value.ref 697)⟩, ⟨PyData.keyHash P (Str.ofString "__iter__"), (Value.str (Str.ofString "__iter__") 1182), (Value.ref 704)⟩, ⟨PyData.keyHash P (Str.ofString "__next__"), (Value.str (Str.ofString "__next__") 1190), (Value.ref 711)⟩, ⟨PyData.keyHash P (Str.ofString "write"), (Value.str (Str.ofString "write") 1202), (Value.ref 718)⟩, ⟨PyData.keyHash P (Str.ofString "writelines"), (Value.str (Str.ofString "writelines") 1210), (Value.ref 725)⟩, ⟨PyData.keyHash P (Str.ofString "__repr__"), (Value.str (Str.ofString "__repr__") 1217), (Value.ref 732)⟩, ⟨PyData.keyHash P (Str.ofString "__static_attributes__"), (Value.str (Str.ofString "__static_attributes__") 1221), (Value.ref 733)⟩]) 36), (List.toArray [])⟩
noncomputable def o327 (P : Params) : Obj := ⟨Value.none, none, (Data.fields (List.toArray [(Value.int 298 0), (Value.int 4 0), (Value.ref 504), (Value.int 311 0), (Value.int 4 0), (Value.ref 511), (Value.int 319 0), (Value.int 4 0), (Value.ref 518), (Value.int 323 0), (Value.int 4 0), (Value.ref 525), (Value.int 327 0), (Value.int 4 0), (Value.ref 532), (Value.int 360 0), (Value.int 4 0), (Value.ref 539), (Value.int 364 0), (Value.int 4 0), (Value.ref 547), (Value.int 368 0), (Value.int 4 0), (Value.ref 555), (Value.int 372 0), (Value.int 4 0), (Value.ref 563), (Value.int 376 0), (Value.int 4 0), (Value.ref 571), (Value.int 379 0), (Value.int 4 0), (Value.ref 579), (Value.int 382 0), (Value.int 4 0), (Value.ref 586), (Value.int 386 0), (Value.int 4 0), (Value.ref 593), (Value.int 389 0), (Value.int 4 0), (Value.ref 600), (Value.int 393 0), (Value.int 4 0), (Value.ref 607), (Value.int 397 0), (Value.int 4 0), (Value.ref 614), (Value.int 401 0), (Value.int 4 0), (Value.ref 621), (Value.int 405 0), (Value.int 4 0), (Value.ref 628), (Value.int 408 0), (Value.int 4 0), (Value.ref 635), (Value.int 411 0), (Value.int 4 0), (Value.ref 642), (Value.int 414 0), (Value.int 4 0), (Value.ref 649), (Value.int 417 0), (Value.int 4 0), (Value.ref 656), (Value.int 421 0), (Value.int 4 0), (Value.ref 664), (Value.int 438 0), (Value.int 4 0), (Value.ref 672), (Value.int 441 0), (Value.int 4 0), (Value.ref 680), (Value.int 455 0), (Value.int 4 0), (Value.ref 688), (Value.int 462 0), (Value.int 4 0), (Value.ref 696), (Value.int 465 0), (Value.int 4 0), (Value.ref 703), (Value.int 469 0), (Value.int 4 0), (Value.ref 710), (Value.int 476 0), (Value.int 4 0), (Value.ref 717), (Value.int 495 0), (Value.int 4 0), (Value.ref 724), (Value.int 498 0), (Value.int 4 0), (Value.ref 731)])), (List.toArray [])⟩
noncomputable def o328 (P : Params) : Obj := ⟨(Value.type "code"), none, (Data.fields (List.toArray [(Value.str (Str.ofString "StringIO") 940), (Value.str (Str.ofString "StringIO") 941), (Value.str (Str.ofString "/claim/cut.py") 942), (Value.int 295 0), (Value.int 0 0), (Value.int 0 0), (Value.int 0 0), (Value.int 0 0), (Value.ref 494), (Value.bool false), (Value.int 318 0), (Value.ref 495), Value.none, Value.none, Value.none, Value.none, (Value.int 943 0), (Value.int 295 0), (Value.str (Str.ofString "/claim/cut.py") 944)])), (List.toArray [])⟩
noncomputable def o329 (P : Params) : Obj := ⟨(Value.type "frame"), none, Data.plain, (List.toArray [(some (Value.ref 496)), (some (Value.ref 3)), (some (Value.ref 493)), none, (some (Value.str (Str.ofString "io") 568)), none, (some (Value.ref 0))])⟩
noncomputable def o330 (P : Params) : Obj := ⟨(Value.type "tuple"), none, (Data.seq (List.toArray [(Value.str (Str.ofString "") 952), (Value.str (Str.ofString "\n") 953)]) 0), (List.toArray [])⟩
noncomputable def o331 (P : Params) : Obj := ⟨(Value.type "tuple"), none, (Data.seq (List.toArray [(Value.str (Str.ofString "self") 957), (Value.str (Str.ofString "initial_value") 958), (Value.str (Str.ofString "newline") 959)]) 0), (List.toArray [])⟩
noncomputable def o332 (P : Params) : Obj := ⟨Value.none, none, (.func ⟨(Str.ofString "__init__"), (Str.ofString "StringIO.__init__"), (fA (inC (stA 30) 1)), .stmts (fB (inC (stA 30) 1)), (fS (inC (stA 30) 1)), 0, [], Value.none, Value.none, Value.none, Value.none, none, Value.none, Value.none, 0⟩), (List.toArray [])⟩
noncomputable def o333 (P : Params) : Obj := ⟨(Value.type "code"), none, (Data.fields (List.toArray [(Value.str (Str.ofString "__init__") 954), (Value.str (Str.ofString "StringIO.__init__") 955), (Value.str (Str.ofString "/claim/cut.py") 956), (Value.int 298 0), (Value.int 3 0), (Value.int 0 0), (Value.int 0 0), (Value.int 3 0), (Value.ref 499), (Value.bool true), (Value.int 318 0), (Value.ref 500), Value.none, (Value.ref 501), (Value.ref 502), (Value.ref 503), (Value.int 960 0), (Value.int 298 0), (Value.str (Str.ofString "/claim/cut.py") 961)])), (List.toArray [])⟩
noncomputable def o334 (P : Params) : Obj := ⟨(Value.type "function"), none, (.func ⟨(Str.ofString "__init__"), (Str.ofString "StringIO.__init__"), as_505, .stmts bd_505, sc_505, 3, [], (Value.ref 498), Value.none, Value.none, (Value.str (Str.ofString "io") 568), none, (Value.ref 504), Value.none, 0⟩), (List.toArray [])⟩
noncomputable def o335 (P : Params) : Obj := ⟨(Value.type "tuple"), none, (Data.seq (List.toArray [(Value.str (Str.ofString "self") 966), (Value.str (Str.ofString "s") 967), (Value.str (Str.ofString "newline") 968)]) 0), (List.toArray [])⟩
noncomputable def o336 (P : Params) : Obj := ⟨Value.none, none, (.func ⟨(Str.ofString "__translated"), (Str.ofString "StringIO.__translated"), (fA (inC (stA 30) 2)), .stmts (fB (inC (stA 30) 2)), (fS (inC (stA 30) 2)), 0, [], Value.none, Value.none, Value.none, Value.none, none, Value.none, Value.none, 0⟩), (List.toArray [])⟩
noncomputable def o337 (P : Params) : Obj := ⟨(Value.type "code"), none, (Data.fields (List.toArray [(Value.str (Str.ofString "__translated") 963), (Value.str (Str.ofString "StringIO.__translated") 964), (Value.str (Str.ofString "/claim/cut.py") 965), (Value.int 311 0), (Value.int 2 0), (Value.int 0 0), (Value.int 0 0), (Value.int 3 0), (Value.ref 506), (Value.bool true), (Value.int 318 0), (Value.ref 507), Value.none, (Value.ref 508), (Value.ref 509), (Value.ref 510), (Value.int 969 0), (Value.int 311 0), (Value.str (Str.ofString "/claim/cut.py") 970)])), (List.toArray [])⟩
noncomputable def o338 (P : Params) : Obj := ⟨(Value.type "function"), none, (.func ⟨(Str.ofString "__translated"), (Str.ofString "StringIO.__translated"), as_512, .stmts bd_512, sc_512, 3, [], Value.none, Value.none, Value.none, (Value.str (Str.ofString "io") 568), none, (Value.ref 511), Value.none, 0⟩), (List.toArray [])⟩
noncomputable def o339 (P : Params) : Obj := ⟨(Value.type "tuple"), none, (Data.seq (List.toArray [(Value.str (Str.ofString "self") 975)]) 0), (List.toArray [])⟩
noncomputable def o340 (P : Params) : Obj := ⟨Value.none, none, (.func ⟨(Str.ofString "__check"), (Str.ofString "StringIO.__check"), (fA (inC (stA 30) 3)), .stmts (fB (inC (stA 30) 3)), (fS (inC (stA 30) 3)), 0, [], Value.none, Value.none, Value.none, Value.none, none, Value.none, Value.none, 0⟩), (List.toArray [])⟩
noncomputable def o341 (P : Params) : Obj := ⟨(Value.type "code"), none, (Data.fields (List.toArray [(Value.str (Str.ofString "__check") 972), (Value.str (Str.ofString "StringIO.__check") 973), (Value.str (Str.ofString "/claim/cut.py") 974), (Value.int 319 0), (Value.int 1 0), (Value.int 0 0), (Value.int 0 0), (Value.int 3 0), (Value.ref 513), (Value.bool true), (Value.int 318 0), (Value.ref 514), Value.none, (Value.ref 515), (Value.ref 516), (Value.ref 517), (Value.int 976 0), (Value.int 319 0), (Value.str (Str.ofString "/claim/cut.py") 977)])), (List.toArray [])⟩
noncomputable def o342 (P : Params) : Obj := ⟨(Value.type "function"), none, (.func ⟨(Str.ofString "__check"), (Str.ofString "StringIO.__check"), as_519, .stmts bd_519, sc_519, 3, [], Value.none, Value.none, Value.none, (Value.str (Str.ofString "io") 568), none, (Value.ref 518), Value.none, 0⟩), (List.toArray [])⟩
noncomputable def o343 (P : Params) : Obj := ⟨(Value.type "tuple"), none, (Data.seq (List.toArray [(Value.str (Str.ofString "self") 982)]) 0), (List.toArray [])⟩
noncomputable def o344 (P : Params) : Obj := ⟨Value.none, none, (.func ⟨(Str.ofString "__check_dot"), (Str.ofString "StringIO.__check_dot"), (fA (inC (stA 30) 4)), .stmts (fB (inC (stA 30) 4)), (fS (inC (stA 30) 4)), 0, [], Value.none, Value.none, Value.none, Value.none, none, Value.none, Value.none, 0⟩), (List.toArray [])⟩
noncomputable def o345 (P : Params) : Obj := ⟨(Value.type "code"), none, (Data.fields (List.toArray [(Value.str (Str.ofString "__check_dot") 979), (Value.str (Str.ofString "StringIO.__check_dot") 980), (Value.str (Str.ofString "/claim/cut.py") 981), (Value.int 323 0), (Value.int 1 0), (Value.int 0 0), (Value.int 0 0), (Value.int 3 0), (Value.ref 520), (Value.bool true), (Value.int 318 0), (Value.ref 521), Value.none, (Value.ref 522), (Value.ref 523), (Value.ref 524), (Value.int 983 0), (Value.int 323 0), (Value.str (Str.ofString "/claim/cut.py") 984)])), (List.toArray [])⟩
noncomputable def o346 (P : Params) : Obj := ⟨(Value.type "function"), none, (.func ⟨(Str.ofString "__check_dot"), (Str.ofString "StringIO.__check_dot"), (fA (inC (stA 30) 4)), .stmts (fB (inC (stA 30) 4)), (fS (inC (stA 30) 4)), 3, [], Value.none, Value.none, Value.none, (Value.str (Str.ofString "io") 568), none, (Value.ref 525), Value.none, 0⟩), (List.toArray [])⟩
noncomputable def o347 (P : Params) : Obj := ⟨(Value.type "tuple"), none, (Data.seq (List.toArray [(Value.str (Str.ofString "self") 989), (Value.str (Str.ofString "limit") 990), (Value.str (Str.ofString "start") 991), (Value.str (Str.ofString "stop") 992), (Value.str (Str.ofString "cut") 993), (Value.str (Str.ofString "newline") 994), (Value.str (Str.ofString "i") 995), (Value.str (Str.ofString "j") 996), (Value.str (Str.ofString "end") 997)]) 0), (List.toArray [])⟩
noncomputable def o348 (P : Params) : Obj := ⟨Value.none, none, (.func ⟨(Str.ofString "__line"), (Str.ofString "StringIO.__line"), (fA (inC (stA 30) 5)), .stmts (fB (inC (stA 30) 5)), (fS (inC (stA 30) 5)), 0, [], Value.none, Value.none, Value.none, Value.none, none, Value.none, Value.none, 0⟩), (List.toArray [])⟩
noncomputable def o349 (P : Params) : Obj := ⟨(Value.type "code"), none, (Data.fields (List.toArray [(Value.str (Str.ofString "__line") 986), (Value.str (Str.ofString "StringIO.__line") 987), (Value.str (Str.ofString "/claim/cut.py") 988), (Value.int 327 0), (Value.int 2 0), (Value.int 0 0), (Value.int 0 0), (Value.int 3 0), (Value.ref 527), (Value.bool true), (Value.int 318 0), (Value.ref 528), Value.none, (Value.ref 529), (Value.ref 530), (Value.ref 531), (Value.int 998 0), (Value.int 327 0), (Value.str (Str.ofString "/claim/cut.py") 999)])), (List.toArray [])⟩
noncomputable def o350 (P : Params) : Obj := ⟨(Value.type "function"), none, (.func ⟨(Str.ofString "__line"), (Str.ofString "StringIO.__line"), (fA (inC (stA 30) 5)), .stmts (fB (inC (stA 30) 5)), (fS (inC (stA 30) 5)), 3, [], Value.none, Value.none, Value.none, (Value.str (Str.ofString "io") 568), none, (Value.ref 532), Value.none, 0⟩), (List.toArray [])⟩
noncomputable def o351 (P : Params) : Obj := ⟨(Value.type "tuple"), none, (Data.seq (List.toArray [(Value.str (Str.ofString "self") 1004)]) 0), (List.toArray [])⟩
noncomputable def o352 (P : Params) : Obj := ⟨Value.none, none, (.func ⟨(Str.ofString "closed"), (Str.ofString "StringIO.closed"), (fA (inC (stA 30) 6)), .stmts (fB (inC (stA 30) 6)), (fS (inC (stA 30) 6)), 0, [], Value.none, Value.none, Value.none, Value.none, none, Value.none, Value.none, 0⟩), (List.toArray [])⟩
noncomputable def o353 (P : Params) : Obj := ⟨(Value.type "code"), none, (Data.fields (List.toArray [(Value.str (Str.ofString "closed") 1001), (Value.str (Str.ofString "StringIO.closed") 1002), (Value.str (Str.ofString "/claim/cut.py") 1003), (Value.int 359 0), (Value.int 1 0), (Value.int 0 0), (Value.int 0 0), (Value.int 3 0), (Value.ref 534), (Value.bool true), (Value.int 318 0), (Value.ref 535), Value.none, (Value.ref 536), (Value.ref 537), (Value.ref 538), (Value.int 1005 0), (Value.int 359 0), (Value.str (Str.ofString "/claim/cut.py") 1006)])), (List.toArray [])⟩
noncomputable def o354 (P : Params) : Obj := ⟨(Value.type "function"), none, (.func ⟨(Str.ofString "closed"), (Str.ofString "StringIO.closed"), (fA (inC (stA 30) 6)), .stmts (fB (inC (stA 30) 6)), (fS (inC (stA 30) 6)), 3, [], Value.none, Value.none, Value.none, (Value.str (Str.ofString "io") 568), none, (Value.ref 539), Value.none, 0⟩), (List.toArray [])⟩
noncomputable def o355 (P : Params) : Obj := ⟨(Value.type "property"), none, (Data.fields (List.toArray [(Value.ref 540), Value.none, Value.none, Value.none, (Value.str (Str.ofString "closed") 1008), (Value.bool false)])), (List.toArray [])⟩
noncomputable def o356 (P : Params) : Obj := ⟨(Value.type "tuple"), none, (Data.seq (List.toArray [(Value.str (Str.ofString "self") 1012)]) 0), (List.toArray [])⟩
noncomputable def o357 (P : Params) : Obj := ⟨Value.none, none, (.func ⟨(Str.ofString "line_buffering"), (Str.ofString "StringIO.line_buffering"), (fA (inC (stA 30) 7)), .stmts (fB (inC (stA 30) 7)), (fS (inC (stA 30) 7)), 0, [], Value.none, Value.none, Value.none, Value.none, none, Value.none, Value.none, 0⟩), (List.toArray [])⟩
noncomputable def o358 (P : Params) : Obj := ⟨(Value.type "code"), none, (Data.fields (List.toArray [(Value.str (Str.ofString "line_buffering") 1009), (Value.str (Str.ofString "StringIO.line_buffering") 1010), (Value.str (Str.ofString "/claim/cut.py") 1011), (Value.int 363 0), (Value.int 1 0), (Value.int 0 0), (Value.int 0 0), (Value.int 3 0), (Value.ref 542), (Value.bool true), (Value.int 318 0), (Value.ref 543), Value.none, (Value.ref 544), (Value.ref 545), (Value.ref 546), (Value.int 1013 0), (Value.int 363 0), (Value.str (Str.ofString "/claim/cut.py") 1014)])), (List.toArray [])⟩
noncomputable def o359 (P : Params) : Obj := ⟨(Value.type "function"), none, (.func ⟨(Str.ofString "line_buffering"), (Str.ofString "StringIO.line_buffering"), (fA (inC (stA 30) 7)), .stmts (fB (inC (stA 30) 7)), (fS (inC (stA 30) 7)), 3, [], Value.none, Value.none, Value.none, (Value.str (Str.ofString "io") 568), none, (Value.ref 547), Value.none, 0⟩), (List.toArray [])⟩
noncomputable def o360 (P : Params) : Obj := ⟨(Value.type "property"), none, (Data.fields (List.toArray [(Value.ref 548), Value.none, Value.none, Value.none, (Value.str (Str.ofString "line_buffering") 1016), (Value.bool false)])), (List.toArray [])⟩
noncomputable def o361 (P : Params) : Obj := ⟨(Value.type "tuple"), none, (Data.seq (List.toArray [(Value.str (Str.ofString "self") 1020)]) 0), (List.toArray [])⟩
noncomputable def o362 (P : Params) : Obj := ⟨Value.none, none, (.func ⟨(Str.ofString "newlines"), (Str.ofString "StringIO.newlines"), (fA (inC (stA 30) 8)), .stmts (fB (inC (stA 30) 8)), (fS (inC (stA 30) 8)), 0, [], Value.none, Value.none, Value.none, Value.none, none, Value.none, Value.none, 0⟩), (List.toArray [])⟩
noncomputable def o363 (P : Params) : Obj := ⟨(Value.type "code"), none, (Data.fields (List.toArray [(Value.str (Str.ofString "newlines") 1017), (Value.str (Str.ofString "StringIO.newlines") 1018), (Value.str (Str.ofString "/claim/cut.py") 1019), (Value.int 367 0), (Value.int 1 0), (Value.int 0 0), (Value.int 0 0), (Value.int 3 0), (Value.ref 550), (Value.bool true), (Value.int 318 0), (Value.ref 551), Value.none, (Value.ref 552), (Value.ref 553), (Value.ref 554), (Value.int 1021 0), (Value.int 367 0), (Value.str (Str.ofString "/claim/cut.py") 1022)])), (List.toArray [])⟩
noncomputable def o364 (P : Params) : Obj := ⟨(Value.type "function"), none, (.func ⟨(Str.ofString "newlines"), (Str.ofString "StringIO.newlines"), (fA (inC (stA 30) 8)), .stmts (fB (inC (stA 30) 8)), (fS (inC (stA 30) 8)), 3, [], Value.none, Value.none, Value.none, (Value.str (Str.ofString "io") 568), none, (Value.ref 555), Value.none, 0⟩), (List.toArray [])⟩
noncomputable def o365 (P : Params) : Obj := ⟨(Value.type "property"), none, (Data.fields (List.toArray [(Value.ref 556), Value.none, Value.none, Value.none, (Value.str (Str.ofString "newlines") 1024), (Value.bool false)])), (List.toArray [])⟩
noncomputable def o366 (P : Params) : Obj := ⟨(Value.type "tuple"), none, (Data.seq (List.toArray [(Value.str (Str.ofString "self") 1028)]) 0), (List.toArray [])⟩
noncomputable def o367 (P : Params) : Obj := ⟨Value.none, none, (.func ⟨(Str.ofString "encoding"), (Str.ofString "StringIO.encoding"), (fA (inC (stA 30) 9)), .stmts (fB (inC (stA 30) 9)), (fS (inC (stA 30) 9)), 0, [], Value.none, Value.none, Value.none, Value.none, none, Value.none, Value.none, 0⟩), (List.toArray [])⟩
noncomputable def o368 (P : Params) : Obj := ⟨(Value.type "code"), none, (Data.fields (List.toArray [(Value.str (Str.ofString "encoding") 1025), (Value.str (Str.ofString "StringIO.encoding") 1026), (Value.str (Str.ofString "/claim/cut.py") 1027), (Value.int 371 0), (Value.int 1 0), (Value.int 0 0), (Value.int 0 0), (Value.int 3 0), (Value.ref 558), (Value.bool true), (Value.int 318 0), (Value.ref 559), Value.none, (Value.ref 560), (Value.ref 561), (Value.ref 562), (Value.int 1029 0), (Value.int 371 0), (Value.str (Str.ofString "/claim/cut.py") 1030)])), (List.toArray [])⟩
noncomputable def o369 (P : Params) : Obj := ⟨(Value.type "function"), none, (.func ⟨(Str.ofString "encoding"), (Str.ofString "StringIO.encoding"), (fA (inC (stA 30) 9)), .stmts (fB (inC (stA 30) 9)), (fS (inC (stA 30) 9)), 3, [], Value.none, Value.none, Value.none, (Value.str (Str.ofString "io") 568), none, (Value.ref 563), Value.none, 0⟩), (List.toArray [])⟩
noncomputable def o370 (P : Params) : Obj := ⟨(Value.type "property"), none, (Data.fields (List.toArray [(Value.ref 564), Value.none, Value.none, Value.none, (Value.str (Str.ofString "encoding") 1032), (Value.bool false)])), (List.toArray [])⟩
noncomputable def o371 (P : Params) : Obj := ⟨(Value.type "tuple"), none, (Data.seq (List.toArray [(Value.str (Str.ofString "self") 1036)]) 0), (List.toArray [])⟩
noncomputable def o372 (P : Params) : Obj := ⟨Value.none, none, (.func ⟨(Str.ofString "errors"), (Str.ofString "StringIO.errors"), (fA (inC (stA 30) 10)), .stmts (fB (inC (stA 30) 10)), (fS (inC (stA 30) 10)), 0, [], Value.none, Value.none, Value.none, Value.none, none, Value.none, Value.none, 0⟩), (List.toArray [])⟩
noncomputable def o373 (P : Params) : Obj := ⟨(Value.type "code"), none, (Data.fields (List.toArray [(Value.str (Str.ofString "errors") 1033), (Value.str (Str.ofString "StringIO.errors") 1034), (Value.str (Str.ofString "/claim/cut.py") 1035), (Value.int 375 0), (Value.int 1 0), (Value.int 0 0), (Value.int 0 0), (Value.int 3 0), (Value.ref 566), (Value.bool true), (Value.int 318 0), (Value.ref 567), Value.none, (Value.ref 568), (Value.ref 569), (Value.ref 570), (Value.int 1037 0), (Value.int 375 0), (Value.str (Str.ofString "/claim/cut.py") 1038)])), (List.toArray [])⟩
noncomputable def o374 (P : Params) : Obj := ⟨(Value.type "function"), none, (.func ⟨(Str.ofString "errors"), (Str.ofString "StringIO.errors"), (fA (inC (stA 30) 10)), .stmts (fB (inC (stA 30) 10)), (fS (inC (stA 30) 10)), 3, [], Value.none, Value.none, Value.none, (Value.str (Str.ofString "io") 568), none, (Value.ref 571), Value.none, 0⟩), (List.toArray [])⟩
noncomputable def o375 (P : Params) : Obj := ⟨(Value.type "property"), none, (Data.fields (List.toArray [(Value.ref 572), Value.none, Value.none, Value.none, (Value.str (Str.ofString "errors") 1040), (Value.bool false)])), (List.toArray [])⟩
noncomputable def o376 (P : Params) : Obj := ⟨(Value.type "tuple"), none, (Data.seq (List.toArray [(Value.str (Str.ofString "self") 1044)]) 0), (List.toArray [])⟩
noncomputable def o377 (P : Params) : Obj := ⟨Value.none, none, (.func ⟨(Str.ofString "close"), (Str.ofString "StringIO.close"), (fA (inC (stA 30) 11)), .stmts (fB (inC (stA 30) 11)), (fS (inC (stA 30) 11)), 0, [], Value.none, Value.none, Value.none, Value.none, none, Value.none, Value.none, 0⟩), (List.toArray [])⟩
noncomputable def o378 (P : Params) : Obj := ⟨(Value.type "code"), none, (Data.fields (List.toArray [(Value.str (Str.ofString "close") 1041), (Value.str (Str.ofString "StringIO.close") 1042), (Value.str (Str.ofString "/claim/cut.py") 1043), (Value.int 379 0), (Value.int 1 0), (Value.int 0 0), (Value.int 0 0), (Value.int 3 0), (Value.ref 574), (Value.bool true), (Value.int 318 0), (Value.ref 575), Value.none, (Value.ref 576), (Value.ref 577), (Value.ref 578), (Value.int 1045 0), (Value.int 379 0), (Value.str (Str.ofString "/claim/cut.py") 1046)])), (List.toArray [])⟩
noncomputable def o379 (P : Params) : Obj := ⟨(Value.type "function"), none, (.func ⟨(Str.ofString "close"), (Str.ofString "StringIO.close"), (fA (inC (stA 30) 11)), .stmts (fB (inC (stA 30) 11)), (fS (inC (stA 30) 11)), 3, [], Value.none, Value.none, Value.none, (Value.str (Str.ofString "io") 568), none, (Value.ref 579), Value.none, 0⟩), (List.toArray [])⟩
noncomputable def o380 (P : Params) : Obj := ⟨(Value.type "tuple"), none, (Data.seq (List.toArray [(Value.str (Str.ofString "self") 1051)]) 0), (List.toArray [])⟩
noncomputable def o381 (P : Params) : Obj := ⟨Value.none, none, (.func ⟨(Str.ofString "__enter__"), (Str.ofString "StringIO.__enter__"), (fA (inC (stA 30) 12)), .stmts (fB (inC (stA 30) 12)), (fS (inC (stA 30) 12)), 0, [], Value.none, Value.none, Value.none, Value.none, none, Value.none, Value.none, 0⟩), (List.toArray [])⟩
noncomputable def o382 (P : Params) : Obj := ⟨(Value.type "code"), none, (Data.fields (List.toArray [(Value.str (Str.ofString "__enter__") 1048), (Value.str (Str.ofString "StringIO.__enter__") 1049), (Value.str (Str.ofString "/claim/cut.py") 1050), (Value.int 382 0), (Value.int 1 0), (Value.int 0 0), (Value.int 0 0), (Value.int 3 0), (Value.ref 581), (Value.bool true), (Value.int 318 0), (Value.ref 582), Value.none, (Value.ref 583), (Value.ref 584), (Value.ref 585), (Value.int 1052 0), (Value.int 382 0), (Value.str (Str.ofString "/claim/cut.py") 1053)])), (List.toArray [])⟩
noncomputable def o383 (P : Params) : Obj := ⟨(Value.type "function"), none, (.func ⟨(Str.ofString "__enter__"), (Str.ofString "StringIO.__enter__"), (fA (inC (stA 30) 12)), .stmts (fB (inC (stA 30) 12)), (fS (inC (stA 30) 12)), 3, [], Value.none, Value.none, Value.none, (Value.str (Str.ofString "io") 568), none, (Value.ref 586), Value.none, 0⟩), (List.toArray [])⟩
noncomputable def o384 (P : Params) : Obj := ⟨(Value.type "tuple"), none, (Data.seq (List.toArray [(Value.str (Str.ofString "self") 1058), (Value.str (Str.ofString "args") 1059)]) 0), (List.toArray [])⟩
noncomputable def o385 (P : Params) : Obj := ⟨Value.none, none, (.func ⟨(Str.ofString "__exit__"), (Str.ofString "StringIO.__exit__"), (fA (inC (stA 30) 13)), .stmts (fB (inC (stA 30) 13)), (fS (inC (stA 30) 13)), 0, [], Value.none, Value.none, Value.none, Value.none, none, Value.none, Value.none, 0⟩), (List.toArray [])⟩
noncomputable def o386 (P : Params) : Obj := ⟨(Value.type "code"), none, (Data.fields (List.toArray [(Value.str (Str.ofString "__exit__") 1055), (Value.str (Str.ofString "StringIO.__exit__") 1056), (Value.str (Str.ofString "/claim/cut.py") 1057), (Value.int 386 0), (Value.int 1 0), (Value.int 0 0), (Value.int 0 0), (Value.int 7 0), (Value.ref 588), (Value.bool true), (Value.int 318 0), (Value.ref 589), Value.none, (Value.ref 590), (Value.ref 591), (Value.ref 592), (Value.int 1060 0), (Value.int 386 0), (Value.str (Str.ofString "/claim/cut.py") 1061)])), (List.toArray [])⟩
noncomputable def o387 (P : Params) : Obj := ⟨(Value.type "function"), none, (.func ⟨(Str.ofString "__exit__"), (Str.ofString "StringIO.__exit__"), (fA (inC (stA 30) 13)), .stmts (fB (inC (stA 30) 13)), (fS (inC (stA 30) 13)), 3, [], Value.none, Value.none, Value.none, (Value.str (Str.ofString "io") 568), none, (Value.ref 593), Value.none, 0⟩), (List.toArray [])⟩
noncomputable def o388 (P : Params) : Obj := ⟨(Value.type "tuple"), none, (Data.seq (List.toArray [(Value.str (Str.ofString "self") 1066)]) 0), (List.toArray [])⟩
noncomputable def o389 (P : Params) : Obj := ⟨Value.none, none, (.func ⟨(Str.ofString "readable"), (Str.ofString "StringIO.readable"), (fA (inC (stA 30) 14)), .stmts (fB (inC (stA 30) 14)), (fS (inC (stA 30) 14)), 0, [], Value.none, Value.none, Value.none, Value.none, none, Value.none, Value.none, 0⟩), (List.toArray [])⟩
noncomputable def o390 (P : Params) : Obj := ⟨(Value.type "code"), none, (Data.fields (List.toArray [(Value.str (Str.ofString "readable") 1063), (Value.str (Str.ofString "StringIO.readable") 1064), (Value.str (Str.ofString "/claim/cut.py") 1065), (Value.int 389 0), (Value.int 1 0), (Value.int 0 0), (Value.int 0 0), (Value.int 3 0), (Value.ref 595), (Value.bool true), (Value.int 318 0), (Value.ref 596), Value.none, (Value.ref 597), (Value.ref 598), (Value.ref 599), (Value.int 1067 0), (Value.int 389 0), (Value.str (Str.ofString "/claim/cut.py") 1068)])), (List.toArray [])⟩
noncomputable def o391 (P : Params) : Obj := ⟨(Value.type "function"), none, (.func ⟨(Str.ofString "readable"), (Str.ofString "StringIO.readable"), (fA (inC (stA 30) 14)), .stmts (fB (inC (stA 30) 14)), (fS (inC (stA 30) 14)), 3, [], Value.none, Value.none, Value.none, (Value.str (Str.ofString "io") 568), none, (Value.ref 600), Value.none, 0⟩), (List.toArray [])⟩
noncomputable def o392 (P : Params) : Obj := ⟨(Value.type "tuple"), none, (Data.seq (List.toArray [(Value.str (Str.ofString "self") 1073)]) 0), (List.toArray [])⟩
noncomputable def o393 (P : Params) : Obj := ⟨Value.none, none, (.func ⟨(Str.ofString "writable"), (Str.ofString "StringIO.writable"), (fA (inC (stA 30) 15)), .stmts (fB (inC (stA 30) 15)), (fS (inC (stA 30) 15)), 0, [], Value.none, Value.none, Value.none, Value.none, none, Value.none, Value.none, 0⟩), (List.toArray [])⟩
noncomputable def o394 (P : Params) : Obj := ⟨(Value.type "code"), none, (Data.fields (List.toArray [(Value.str (Str.ofString "writable") 1070), (Value.str (Str.ofString "StringIO.writable") 1071), (Value.str (Str.ofString "/claim/cut.py") 1072), (Value.int 393 0), (Value.int 1 0), (Value.int 0 0), (Value.int 0 0), (Value.int 3 0), (Value.ref 602), (Value.bool true), (Value.int 318 0), (Value.ref 603), Value.none, (Value.ref 604), (Value.ref 605), (Value.ref 606), (Value.int 1074 0), (Value.int 393 0), (Value.str (Str.ofString "/claim/cut.py") 1075)])), (List.toArray [])⟩
noncomputable def o395 (P : Params) : Obj := ⟨(Value.type "function"), none, (.func ⟨(Str.ofString "writable"), (Str.ofString "StringIO.writable"), (fA (inC (stA 30) 15)), .stmts (fB (inC (stA 30) 15)), (fS (inC (stA 30) 15)), 3, [], Value.none, Value.none, Value.none, (Value.str (Str.ofString "io") 568), none, (Value.ref 607), Value.none, 0⟩), (List.toArray [])⟩
noncomputable def o396 (P : Params) : Obj := ⟨(Value.type "tuple"), none, (Data.seq (List.toArray [(Value.str (Str.ofString "self") 1080)]) 0), (List.toArray [])⟩
noncomputable def o397 (P : Params) : Obj := ⟨Value.none, none, (.func ⟨(Str.ofString "seekable"), (Str.ofString "StringIO.seekable"), (fA (inC (stA 30) 16)), .stmts (fB (inC (stA 30) 16)), (fS (inC (stA 30) 16)), 0, [], Value.none, Value.none, Value.none, Value.none, none, Value.none, Value.none, 0⟩), (List.toArray [])⟩
noncomputable def o398 (P : Params) : Obj := ⟨(Value.type "code"), none, (Data.fields (List.toArray [(Value.str (Str.ofString "seekable") 1077), (Value.str (Str.ofString "StringIO.seekable") 1078), (Value.str (Str.ofString "/claim/cut.py") 1079), (Value.int 397 0), (Value.int 1 0), (Value.int 0 0), (Value.int 0 0), (Value.int 3 0), (Value.ref 609), (Value.bool true), (Value.int 318 0), (Value.ref 610), Value.none, (Value.ref 611), (Value.ref 612), (Value.ref 613), (Value.int 1081 0), (Value.int 397 0), (Value.str (Str.ofString "/claim/cut.py") 1082)])), (List.toArray [])⟩
noncomputable def o399 (P : Params) : Obj := ⟨(Value.type "function"), none, (.func ⟨(Str.ofString "seekable"), (Str.ofString "StringIO.seekable"), (fA (inC (stA 30) 16)), .stmts (fB (inC (stA 30) 16)), (fS (inC (stA 30) 16)), 3, [], Value.none, Value.none, Value.none, (Value.str (Str.ofString "io") 568), none, (Value.ref 614), Value.none, 0⟩), (List.toArray [])⟩
noncomputable def o400 (P : Params) : Obj := ⟨(Value.type "tuple"), none, (Data.seq (List.toArray [(Value.str (Str.ofString "self") 1087)]) 0), (List.toArray [])⟩
noncomputable def o401 (P : Params) : Obj := ⟨Value.none, none, (.func ⟨(Str.ofString "isatty"), (Str.ofString "StringIO.isatty"), (fA (inC (stA 30) 17)), .stmts (fB (inC (stA 30) 17)), (fS (inC (stA 30) 17)), 0, [], Value.none, Value.none, Value.none, Value.none, none, Value.none, Value.none, 0⟩), (List.toArray [])⟩
noncomputable def o402 (P : Params) : Obj := ⟨(Value.type "code"), none, (Data.fields (List.toArray [(Value.str (Str.ofString "isatty") 1084), (Value.str (Str.ofString "StringIO.isatty") 1085), (Value.str (Str.ofString "/claim/cut.py") 1086), (Value.int 401 0), (Value.int 1 0), (Value.int 0 0), (Value.int 0 0), (Value.int 3 0), (Value.ref 616), (Value.bool true), (Value.int 318 0), (Value.ref 617), Value.none, (Value.ref 618), (Value.ref 619), (Value.ref 620), (Value.int 1088 0), (Value.int 401 0), (Value.str (Str.ofString "/claim/cut.py") 1089)])), (List.toArray [])⟩
noncomputable def o403 (P : Params) : Obj := ⟨(Value.type "function"), none, (.func ⟨(Str.ofString "isatty"), (Str.ofString "StringIO.isatty"), (fA (inC (stA 30) 17)), .stmts (fB (inC (stA 30) 17)), (fS (inC (stA 30) 17)), 3, [], Value.none, Value.none, Value.none, (Value.str (Str.ofString "io") 568), none, (Value.ref 621), Value.none, 0⟩), (List.toArray [])⟩
noncomputable def o404 (P : Params) : Obj := ⟨(Value.type "tuple"), none, (Data.seq (List.toArray [(Value.str (Str.ofString "self") 1094)]) 0), (List.toArray [])⟩
noncomputable def o405 (P : Params) : Obj := ⟨Value.none, none, (.func ⟨(Str.ofString "flush"), (Str.ofString "StringIO.flush"), (fA (inC (stA 30) 18)), .stmts (fB (inC (stA 30) 18)), (fS (inC (stA 30) 18)), 0, [], Value.none, Value.none, Value.none, Value.none, none, Value.none, Value.none, 0⟩), (List.toArray [])⟩
noncomputable def o406 (P : Params) : Obj := ⟨(Value.type "code"), none, (Data.fields (List.toArray [(Value.str (Str.ofString "flush") 1091), (Value.str (Str.ofString "StringIO.flush") 1092), (Value.str (Str.ofString "/claim/cut.py") 1093), (Value.int 405 0), (Value.int 1 0), (Value.int 0 0), (Value.int 0 0), (Value.int 3 0), (Value.ref 623), (Value.bool true), (Value.int 318 0), (Value.ref 624), Value.none, (Value.ref 625), (Value.ref 626), (Value.ref 627), (Value.int 1095 0), (Value.int 405 0), (Value.str (Str.ofString "/claim/cut.py") 1096)])), (List.toArray [])⟩
noncomputable def o407 (P : Params) : Obj := ⟨(Value.type "function"), none, (.func ⟨(Str.ofString "flush"), (Str.ofString "StringIO.flush"), (fA (inC (stA 30) 18)), .stmts (fB (inC (stA 30) 18)), (fS (inC (stA 30) 18)), 3, [], Value.none, Value.none, Value.none, (Value.str (Str.ofString "io") 568), none, (Value.ref 628), Value.none, 0⟩), (List.toArray [])⟩
noncomputable def o408 (P : Params) : Obj := ⟨(Value.type "tuple"), none, (Data.seq (List.toArray [(Value.str (Str.ofString "self") 1101)]) 0), (List.toArray [])⟩
noncomputable def o409 (P : Params) : Obj := ⟨Value.none, none, (.func ⟨(Str.ofString "fileno"), (Str.ofString "StringIO.fileno"), (fA (inC (stA 30) 19)), .stmts (fB (inC (stA 30) 19)), (fS (inC (stA 30) 19)), 0, [], Value.none, Value.none, Value.none, Value.none, none, Value.none, Value.none, 0⟩), (List.toArray [])⟩
noncomputable def o410 (P : Params) : Obj := ⟨(Value.type "code"), none, (Data.fields (List.toArray [(Value.str (Str.ofString "fileno") 1098), (Value.str (Str.ofString "StringIO.fileno") 1099), (Value.str (Str.ofString "/claim/cut.py") 1100), (Value.int 408 0), (Value.int 1 0), (Value.int 0 0), (Value.int 0 0), (Value.int 3 0), (Value.ref 630), (Value.bool true), (Value.int 318 0), (Value.ref 631), Value.none, (Value.ref 632), (Value.ref 633), (Value.ref 634), (Value.int 1102 0), (Value.int 408 0), (Value.str (Str.ofString "/claim/cut.py") 1103)])), (List.toArray [])⟩
noncomputable def o411 (P : Params) : Obj := ⟨(Value.type "function"), none, (.func ⟨(Str.ofString "fileno"), (Str.ofString "StringIO.fileno"), (fA (inC (stA 30) 19)), .stmts (fB (inC (stA 30) 19)), (fS (inC (stA 30) 19)), 3, [], Value.none, Value.none, Value.none, (Value.str (Str.ofString "io") 568), none, (Value.ref 635), Value.none, 0⟩), (List.toArray [])⟩
noncomputable def o412 (P : Params) : Obj := ⟨(Value.type "tuple"), none, (Data.seq (List.toArray [(Value.str (Str.ofString "self") 1108)]) 0), (List.toArray [])⟩
noncomputable def o413 (P : Params) : Obj := ⟨Value.none, none, (.func ⟨(Str.ofString "detach"), (Str.ofString "StringIO.detach"), (fA (inC (stA 30) 20)), .stmts (fB (inC (stA 30) 20)), (fS (inC (stA 30) 20)), 0, [], Value.none, Value.none, Value.none, Value.none, none, Value.none, Value.none, 0⟩), (List.toArray [])⟩
noncomputable def o414 (P : Params) : Obj := ⟨(Value.type "code"), none, (Data.fields (List.toArray [(Value.str (Str.ofString "detach") 1105), (Value.str (Str.ofString "StringIO.detach") 1106), (Value.str (Str.ofString "/claim/cut.py") 1107), (Value.int 411 0), (Value.int 1 0), (Value.int 0 0), (Value.int 0 0), (Value.int 3 0), (Value.ref 637), (Value.bool true), (Value.int 318 0), (Value.ref 638), Value.none, (Value.ref 639), (Value.ref 640), (Value.ref 641), (Value.int 1109 0), (Value.int 411 0), (Value.str (Str.ofString "/claim/cut.py") 1110)])), (List.toArray [])⟩
noncomputable def o415 (P : Params) : Obj := ⟨(Value.type "function"), none, (.func ⟨(Str.ofString "detach"), (Str.ofString "StringIO.detach"), (fA (inC (stA 30) 20)), .stmts (fB (inC (stA 30) 20)), (fS (inC (stA 30) 20)), 3, [], Value.none, Value.none, Value.none, (Value.str (Str.ofString "io") 568), none, (Value.ref 642), Value.none, 0⟩), (List.toArray [])⟩
noncomputable def o416 (P : Params) : Obj := ⟨(Value.type "tuple"), none, (Data.seq (List.toArray [(Value.str (Str.ofString "self") 1115)]) 0), (List.toArray [])⟩
noncomputable def o417 (P : Params) : Obj := ⟨Value.none, none, (.func ⟨(Str.ofString "getvalue"), (Str.ofString "StringIO.getvalue"), (fA (inC (stA 30) 21)), .stmts (fB (inC (stA 30) 21)), (fS (inC (stA 30) 21)), 0, [], Value.none, Value.none, Value.none, Value.none, none, Value.none, Value.none, 0⟩), (List.toArray [])⟩
noncomputable def o418 (P : Params) : Obj := ⟨(Value.type "code"), none, (Data.fields (List.toArray [(Value.str (Str.ofString "getvalue") 1112), (Value.str (Str.ofString "StringIO.getvalue") 1113), (Value.str (Str.ofString "/claim/cut.py") 1114), (Value.int 414 0), (Value.int 1 0), (Value.int 0 0), (Value.int 0 0), (Value.int 3 0), (Value.ref 644), (Value.bool true), (Value.int 318 0), (Value.ref 645), Value.none, (Value.ref 646), (Value.ref 647), (Value.ref 648), (Value.int 1116 0), (Value.int 414 0), (Value.str (Str.ofString "/claim/cut.py") 1117)])), (List.toArray [])⟩
noncomputable def o419 (P : Params) : Obj := ⟨(Value.type "function"), none, (.func ⟨(Str.ofString "getvalue"), (Str.ofString "StringIO.getvalue"), (fA (inC (stA 30) 21)), .stmts (fB (inC (stA 30) 21)), (fS (inC (stA 30) 21)), 3, [], Value.none, Value.none, Value.none, (Value.str (Str.ofString "io") 568), none, (Value.ref 649), Value.none, 0⟩), (List.toArray [])⟩
noncomputable def o420 (P : Params) : Obj := ⟨(Value.type "tuple"), none, (Data.seq (List.toArray [(Value.str (Str.ofString "self") 1122)]) 0), (List.toArray [])⟩
noncomputable def o421 (P : Params) : Obj := ⟨Value.none, none, (.func ⟨(Str.ofString "tell"), (Str.ofString "StringIO.tell"), (fA (inC (stA 30) 22)), .stmts (fB (inC (stA 30) 22)), (fS (inC (stA 30) 22)), 0, [], Value.none, Value.none, Value.none, Value.none, none, Value.none, Value.none, 0⟩), (List.toArray [])⟩
noncomputable def o422 (P : Params) : Obj := ⟨(Value.type "code"), none, (Data.fields (List.toArray [(Value.str (Str.ofString "tell") 1119), (Value.str (Str.ofString "StringIO.tell") 1120), (Value.str (Str.ofString "/claim/cut.py") 1121), (Value.int 417 0), (Value.int 1 0), (Value.int 0 0), (Value.int 0 0), (Value.int 3 0), (Value.ref 651), (Value.bool true), (Value.int 318 0), (Value.ref 652), Value.none, (Value.ref 653), (Value.ref 654), (Value.ref 655), (Value.int 1123 0), (Value.int 417 0), (Value.str (Str.ofString "/claim/cut.py") 1124)])), (List.toArray [])⟩
noncomputable def o423 (P : Params) : Obj := ⟨(Value.type "function"), none, (.func ⟨(Str.ofString "tell"), (Str.ofString "StringIO.tell"), (fA (inC (stA 30) 22)), .stmts (fB (inC (stA 30) 22)), (fS (inC (stA 30) 22)), 3, [], Value.none, Value.none, Value.none, (Value.str (Str.ofString "io") 568), none, (Value.ref 656), Value.none, 0⟩), (List.toArray [])⟩
noncomputable def o424 (P : Params) : Obj := ⟨(Value.type "tuple"), none, (Data.seq (List.toArray [(Value.int 0 1126)]) 0), (List.toArray [])⟩
noncomputable def o425 (P : Params) : Obj := ⟨(Value.type "tuple"), none, (Data.seq (List.toArray [(Value.str (Str.ofString "self") 1130), (Value.str (Str.ofString "pos") 1131), (Value.str (Str.ofString "whence") 1132)]) 0), (List.toArray [])⟩
noncomputable def o426 (P : Params) : Obj := ⟨Value.none, none, (.func ⟨(Str.ofString "seek"), (Str.ofString "StringIO.seek"), (fA (inC (stA 30) 23)), .stmts (fB (inC (stA 30) 23)), (fS (inC (stA 30) 23)), 0, [], Value.none, Value.none, Value.none, Value.none, none, Value.none, Value.none, 0⟩), (List.toArray [])⟩
noncomputable def o427 (P : Params) : Obj := ⟨(Value.type "code"), none, (Data.fields (List.toArray [(Value.str (Str.ofString "seek") 1127), (Value.str (Str.ofString "StringIO.seek") 1128), (Value.str (Str.ofString "/claim/cut.py") 1129), (Value.int 421 0), (Value.int 3 0), (Value.int 3 0), (Value.int 0 0), (Value.int 3 0), (Value.ref 659), (Value.bool true), (Value.int 318 0), (Value.ref 660), Value.none, (Value.ref 661), (Value.ref 662), (Value.ref 663), (Value.int 1133 0), (Value.int 421 0), (Value.str (Str.ofString "/claim/cut.py") 1134)])), (List.toArray [])⟩
noncomputable def o428 (P : Params) : Obj := ⟨(Value.type "function"), none, (.func ⟨(Str.ofString "seek"), (Str.ofString "StringIO.seek"), (fA (inC (stA 30) 23)), .stmts (fB (inC (stA 30) 23)), (fS (inC (stA 30) 23)), 3, [], (Value.ref 658), Value.none, Value.none, (Value.str (Str.ofString "io") 568), none, (Value.ref 664), Value.none, 0⟩), (List.toArray [])⟩
noncomputable def o429 (P : Params) : Obj := ⟨(Value.type "tuple"), none, (Data.seq (List.toArray [(Value.str (Str.ofString "self") 1139), (Value.str (Str.ofString "pos") 1140)]) 0), (List.toArray [])⟩
noncomputable def o430 (P : Params) : Obj := ⟨Value.none, none, (.func ⟨(Str.ofString "truncate"), (Str.ofString "StringIO.truncate"), (fA (inC (stA 30) 24)), .stmts (fB (inC (stA 30) 24)), (fS (inC (stA 30) 24)), 0, [], Value.none, Value.none, Value.none, Value.none, none, Value.none, Value.none, 0⟩), (List.toArray [])⟩
noncomputable def o431 (P : Params) : Obj := ⟨(Value.type "code"), none, (Data.fields (List.toArray [(Value.str (Str.ofString "truncate") 1136), (Value.str (Str.ofString "StringIO.truncate") 1137), (Value.str (Str.ofString "/claim/cut.py") 1138), (Value.int 438 0), (Value.int 2 0), (Value.int 2 0), (Value.int 0 0), (Value.int 3 0), (Value.ref 667), (Value.bool true), (Value.int 318 0), (Value.ref 668), Value.none, (Value.ref 669), (Value.ref 670), (Value.ref 671), (Value.int 1141 0), (Value.int 438 0), (Value.str (Str.ofString "/claim/cut.py") 1142)])), (List.toArray [])⟩
noncomputable def o432 (P : Params) : Obj := ⟨(Value.type "function"), none, (.func ⟨(Str.ofString "truncate"), (Str.ofString "StringIO.truncate"), (fA (inC (stA 30) 24)), .stmts (fB (inC (stA 30) 24)), (fS (inC (stA 30) 24)), 3, [], (Value.ref 666), Value.none, Value.none, (Value.str (Str.ofString "io") 568), none, (Value.ref 672), Value.none, 0⟩), (List.toArray [])⟩
noncomputable def o433 (P : Params) : Obj := ⟨(Value.type "tuple"), none, (Data.seq (List.toArray [(Value.int (-1) 1145)]) 0), (List.toArray [])⟩
noncomputable def o434 (P : Params) : Obj := ⟨(Value.type "tuple"), none, (Data.seq (List.toArray [(Value.str (Str.ofString "self") 1149), (Value.str (Str.ofString "size") 1150), (Value.str (Str.ofString "start") 1151), (Value.str (Str.ofString "stop") 1152)]) 0), (List.toArray [])⟩
noncomputable def o435 (P : Params) : Obj := ⟨Value.none, none, (.func ⟨(Str.ofString "read"), (Str.ofString "StringIO.read"), (fA (inC (stA 30) 25)), .stmts (fB (inC (stA 30) 25)), (fS (inC (stA 30) 25)), 0, [], Value.none, Value.none, Value.none, Value.none, none, Value.none, Value.none, 0⟩), (List.toArray [])⟩
noncomputable def o436 (P : Params) : Obj := ⟨(Value.type "code"), none, (Data.fields (List.toArray [(Value.str (Str.ofString "read") 1146), (Value.str (Str.ofString "StringIO.read") 1147), (Value.str (Str.ofString "/claim/cut.py") 1148), (Value.int 441 0), (Value.int 2 0), (Value.int 2 0), (Value.int 0 0), (Value.int 3 0), (Value.ref 675), (Value.bool true), (Value.int 318 0), (Value.ref 676), Value.none, (Value.ref 677), (Value.ref 678), (Value.ref 679), (Value.int 1153 0), (Value.int 441 0), (Value.str (Str.ofString "/claim/cut.py") 1154)])), (List.toArray [])⟩
noncomputable def o437 (P : Params) : Obj := ⟨(Value.type "function"), none, (.func ⟨(Str.ofString "read"), (Str.ofString "StringIO.read"), as_681, .stmts bd_681, sc_681, 3, [], (Value.ref 674), Value.none, Value.none, (Value.str (Str.ofString "io") 568), none, (Value.ref 680), Value.none, 0⟩), (List.toArray [])⟩
noncomputable def o438 (P : Params) : Obj := ⟨(Value.type "tuple"), none, (Data.seq (List.toArray [(Value.int (-1) 1157)]) 0), (List.toArray [])⟩
noncomputable def o439 (P : Params) : Obj := ⟨(Value.type "tuple"), none, (Data.seq (List.toArray [(Value.str (Str.ofString "self") 1161), (Value.str (Str.ofString "size") 1162)]) 0), (List.toArray [])⟩
noncomputable def o440 (P : Params) : Obj := ⟨Value.none, none, (.func ⟨(Str.ofString "readline"), (Str.ofString "StringIO.readline"), (fA (inC (stA 30) 26)), .stmts (fB (inC (stA 30) 26)), (fS (inC (stA 30) 26)), 0, [], Value.none, Value.none, Value.none, Value.none, none, Value.none, Value.none, 0⟩), (List.toArray [])⟩
noncomputable def o441 (P : Params) : Obj := ⟨(Value.type "code"), none, (Data.fields (List.toArray [(Value.str (Str.ofString "readline") 1158), (Value.str (Str.ofString "StringIO.readline") 1159), (Value.str (Str.ofString "/claim/cut.py") 1160), (Value.int 455 0), (Value.int 2 0), (Value.int 2 0), (Value.int 0 0), (Value.int 3 0), (Value.ref 683), (Value.bool true), (Value.int 318 0), (Value.ref 684), Value.none, (Value.ref 685), (Value.ref 686), (Value.ref 687), (Value.int 1163 0), (Value.int 455 0), (Value.str (Str.ofString "/claim/cut.py") 1164)])), (List.toArray [])⟩
noncomputable def o442 (P : Params) : Obj := ⟨(Value.type "function"), none, (.func ⟨(Str.ofString "readline"), (Str.ofString "StringIO.readline"), (fA (inC (stA 30) 26)), .stmts (fB (inC (stA 30) 26)), (fS (inC (stA 30) 26)), 3, [], (Value.ref 682), Value.none, Value.none, (Value.str (Str.ofString "io") 568), none, (Value.ref 688), Value.none, 0⟩), (List.toArray [])⟩
noncomputable def o443 (P : Params) : Obj := ⟨(Value.type "tuple"), none, (Data.seq (List.toArray [(Value.int (-1) 1167)]) 0), (List.toArray [])⟩
noncomputable def o444 (P : Params) : Obj := ⟨(Value.type "tuple"), none, (Data.seq (List.toArray [(Value.str (Str.ofString "self") 1171), (Value.str (Str.ofString "hint") 1172)]) 0), (List.toArray [])⟩
noncomputable def o445 (P : Params) : Obj := ⟨Value.none, none, (.func ⟨(Str.ofString "readlines"), (Str.ofString "StringIO.readlines"), (fA (inC (stA 30) 27)), .stmts (fB (inC (stA 30) 27)), (fS (inC (stA 30) 27)), 0, [], Value.none, Value.none, Value.none, Value.none, none, Value.none, Value.none, 0⟩), (List.toArray [])⟩
noncomputable def o446 (P : Params) : Obj := ⟨(Value.type "code"), none, (Data.fields (List.toArray [(Value.str (Str.ofString "readlines") 1168), (Value.str (Str.ofString "StringIO.readlines") 1169), (Value.str (Str.ofString "/claim/cut.py") 1170), (Value.int 462 0), (Value.int 2 0), (Value.int 2 0), (Value.int 0 0), (Value.int 3 0), (Value.ref 691), (Value.bool true), (Value.int 318 0), (Value.ref 692), Value.none, (Value.ref 693), (Value.ref 694), (Value.ref 695), (Value.int 1173 0), (Value.int 462 0), (Value.str (Str.ofString "/claim/cut.py") 1174)])), (List.toArray [])⟩
noncomputable def o447 (P : Params) : Obj := ⟨(Value.type "function"), none, (.func ⟨(Str.ofString "readlines"), (Str.ofString "StringIO.readlines"), (fA (inC (stA 30) 27)), .stmts (fB (inC (stA 30) 27)), (fS (inC (stA 30) 27)), 3, [], (Value.ref 690), Value.none, Value.none, (Value.str (Str.ofString "io") 568), none, (Value.ref 696), Value.none, 0⟩), (List.toArray [])⟩
noncomputable def o448 (P : Params) : Obj := ⟨(Value.type "tuple"), none, (Data.seq (List.toArray [(Value.str (Str.ofString "self") 1179)]) 0), (List.toArray [])⟩
noncomputable def o449 (P : Params) : Obj := ⟨Value.none, none, (.func ⟨(Str.ofString "__iter__"), (Str.ofString "StringIO.__iter__"), (fA (inC (stA 30) 28)), .stmts (fB (inC (stA 30) 28)), (fS (inC (stA 30) 28)), 0, [], Value.none, Value.none, Value.none, Value.none, none, Value.none, Value.none, 0⟩), (List.toArray [])⟩
noncomputable def o450 (P : Params) : Obj := ⟨(Value.type "code"), none, (Data.fields (List.toArray [(Value.str (Str.ofString "__iter__") 1176), (Value.str (Str.ofString "StringIO.__iter__") 1177), (Value.str (Str.ofString "/claim/cut.py") 1178), (Value.int 465 0), (Value.int 1 0), (Value.int 0 0), (Value.int 0 0), (Value.int 3 0), (Value.ref 698), (Value.bool true), (Value.int 318 0), (Value.ref 699), Value.none, (Value.ref 700), (Value.ref 701), (Value.ref 702), (Value.int 1180 0), (Value.int 465 0), (Value.str (Str.ofString "/claim/cut.py") 1181)])), (List.toArray [])⟩
noncomputable def o451 (P : Params) : Obj := ⟨(Value.type "function"), none, (.func ⟨(Str.ofString "__iter__"), (Str.ofString "StringIO.__iter__"), (fA (inC (stA 30) 28)), .stmts (fB (inC (stA 30) 28)), (fS (inC (stA 30) 28)), 3, [], Value.none, Value.none, Value.none, (Value.str (Str.ofString "io") 568), none, (Value.ref 703), Value.none, 0⟩), (List.toArray [])⟩
noncomputable def o452 (P : Params) : Obj := ⟨(Value.type "tuple"), none, (Data.seq (List.toArray [(Value.str (Str.ofString "self") 1186), (Value.str (Str.ofString "line") 1187)]) 0), (List.toArray [])⟩
noncomputable def o453 (P : Params) : Obj := ⟨Value.none, none, (.func ⟨(Str.ofString "__next__"), (Str.ofString "StringIO.__next__"), (fA (inC (stA 30) 29)), .stmts (fB (inC (stA 30) 29)), (fS (inC (stA 30) 29)), 0, [], Value.none, Value.none, Value.none, Value.none, none, Value.none, Value.none, 0⟩), (List.toArray [])⟩
noncomputable def o454 (P : Params) : Obj := ⟨(Value.type "code"), none, (Data.fields (List.toArray [(Value.str (Str.ofString "__next__") 1183), (Value.str (Str.ofString "StringIO.__next__") 1184), (Value.str (Str.ofString "/claim/cut.py") 1185), (Value.int 469 0), (Value.int 1 0), (Value.int 0 0), (Value.int 0 0), (Value.int 3 0), (Value.ref 705), (Value.bool true), (Value.int 318 0), (Value.ref 706), Value.none, (Value.ref 707), (Value.ref 708), (Value.ref 709), (Value.int 1188 0), (Value.int 469 0), (Value.str (Str.ofString "/claim/cut.py") 1189)])), (List.toArray [])⟩
noncomputable def o455 (P : Params) : Obj := ⟨(Value.type "function"), none, (.func ⟨(Str.ofString "__next__"), (Str.ofString "StringIO.__next__"), (fA (inC (stA 30) 29)), .stmts (fB (inC (stA 30) 29)), (fS (inC (stA 30) 29)), 3, [], Value.none, Value.none, Value.none, (Value.str (Str.ofString "io") 568), none, (Value.ref 710), Value.none, 0⟩), (List.toArray [])⟩
noncomputable def o456 (P : Params) : Obj := ⟨(Value.type "tuple"), none, (Data.seq (List.toArray [(Value.str (Str.ofString "self") 1194), (Value.str (Str.ofString "s") 1195), (Value.str (Str.ofString "n") 1196), (Value.str (Str.ofString "m") 1197), (Value.str (Str.ofString "start") 1198), (Value.str (Str.ofString "buf") 1199)]) 0), (List.toArray [])⟩
noncomputable def o457 (P : Params) : Obj := ⟨Value.none, none, (.func ⟨(Str.ofString "write"), (Str.ofString "StringIO.write"), (fA (inC (stA 30) 30)), .stmts (fB (inC (stA 30) 30)), (fS (inC (stA 30) 30)), 0, [], Value.none, Value.none, Value.none, Value.none, none, Value.none, Value.none, 0⟩), (List.toArray [])⟩
noncomputable def o458 (P : Params) : Obj := ⟨(Value.type "code"), none, (Data.fields (List.toArray [(Value.str (Str.ofString "write") 1191), (Value.str (Str.ofString "StringIO.write") 1192), (Value.str (Str.ofString "/claim/cut.py") 1193), (Value.int 476 0), (Value.int 2 0), (Value.int 2 0), (Value.int 0 0), (Value.int 3 0), (Value.ref 712), (Value.bool true), (Value.int 318 0), (Value.ref 713), Value.none, (Value.ref 714), (Value.ref 715), (Value.ref 716), (Value.int 1200 0), (Value.int 476 0), (Value.str (Str.ofString "/claim/cut.py") 1201)])), (List.toArray [])⟩
noncomputable def o459 (P : Params) : Obj := ⟨(Value.type "function"), none, (.func ⟨(Str.ofString "write"), (Str.ofString "StringIO.write"), (fA (inC (stA 30) 30)), .stmts (fB (inC (stA 30) 30)), (fS (inC (stA 30) 30)), 3, [], Value.none, Value.none, Value.none, (Value.str (Str.ofString "io") 568), none, (Value.ref 717), Value.none, 0⟩), (List.toArray [])⟩
noncomputable def o460 (P : Params) : Obj := ⟨(Value.type "tuple"), none, (Data.seq (List.toArray [(Value.str (Str.ofString "self") 1206), (Value.str (Str.ofString "lines") 1207)]) 0), (List.toArray [])⟩
noncomputable def o461 (P : Params) : Obj := ⟨Value.none, none, (.func ⟨(Str.ofString "writelines"), (Str.ofString "StringIO.writelines"), (fA (inC (stA 30) 31)), .stmts (fB (inC (stA 30) 31)), (fS (inC (stA 30) 31)), 0, [], Value.none, Value.none, Value.none, Value.none, none, Value.none, Value.none, 0⟩), (List.toArray [])⟩
noncomputable def o462 (P : Params) : Obj := ⟨(Value.type "code"), none, (Data.fields (List.toArray [(Value.str (Str.ofString "writelines") 1203), (Value.str (Str.ofString "StringIO.writelines") 1204), (Value.str (Str.ofString "/claim/cut.py") 1205), (Value.int 495 0), (Value.int 2 0), (Value.int 2 0), (Value.int 0 0), (Value.int 3 0), (Value.ref 719), (Value.bool true), (Value.int 318 0), (Value.ref 720), Value.none, (Value.ref 721), (Value.ref 722), (Value.ref 723), (Value.int 1208 0), (Value.int 495 0), (Value.str (Str.ofString "/claim/cut.py") 1209)])), (List.toArray [])⟩
noncomputable def o463 (P : Params) : Obj := ⟨(Value.type "function"), none, (.func ⟨(Str.ofString "writelines"), (Str.ofString "StringIO.writelines"), (fA (inC (stA 30) 31)), .stmts (fB (inC (stA 30) 31)), (fS (inC (stA 30) 31)), 3, [], Value.none, Value.none, Value.none, (Value.str (Str.ofString "io") 568), none, (Value.ref 724), Value.none, 0⟩), (List.toArray [])⟩
noncomputable def o464 (P : Params) : Obj := ⟨(Value.type "tuple"), none, (Data.seq (List.toArray [(Value.str (Str.ofString "self") 1214)]) 0), (List.toArray [])⟩
noncomputable def o465 (P : Params) : Obj := ⟨Value.none, none, (.func ⟨(Str.ofString "__repr__"), (Str.ofString "StringIO.__repr__"), (fA (inC (stA 30) 32)), .stmts (fB (inC (stA 30) 32)), (fS (inC (stA 30) 32)), 0, [], Value.none, Value.none, Value.none, Value.none, none, Value.none, Value.none, 0⟩), (List.toArray [])⟩
noncomputable def o466 (P : Params) : Obj := ⟨(Value.type "code"), none, (Data.fields (List.toArray [(Value.str (Str.ofString "__repr__") 1211), (Value.str (Str.ofString "StringIO.__repr__") 1212), (Value.str (Str.ofString "/claim/cut.py") 1213), (Value.int 498 0), (Value.int 1 0), (Value.int 0 0), (Value.int 0 0), (Value.int 3 0), (Value.ref 726), (Value.bool true), (Value.int 318 0), (Value.ref 727), Value.none, (Value.ref 728), (Value.ref 729), (Value.ref 730), (Value.int 1215 0), (Value.int 498 0), (Value.str (Str.ofString "/claim/cut.py") 1216)])), (List.toArray [])⟩
noncomputable def o467 (P : Params) : Obj := ⟨(Value.type "function"), none, (.func ⟨(Str.ofString "__repr__"), (Str.ofString "StringIO.__repr__"), (fA (inC (stA 30) 32)), .stmts (fB (inC (stA 30) 32)), (fS (inC (stA 30) 32)), 3, [], Value.none, Value.none, Value.none, (Value.str (Str.ofString "io") 568), none, (Value.ref 731), Value.none, 0⟩), (List.toArray [])⟩
noncomputable def o468 (P : Params) : Obj := ⟨(Value.type "tuple"), none, (Data.seq (List.toArray [(Value.str (Str.ofString "__buf") 1218), (Value.str (Str.ofString "__newline") 1219), (Value.str (Str.ofString "__pos") 1220)]) 0), (List.toArray [])⟩
noncomputable def o469 (P : Params) : Obj := ⟨(Value.type "dict"), none, (.dict (List.toArray [⟨PyData.keyHash P (Str.ofString "__module__"), (Value.str (Str.ofString "__module__") 945), (Value.str (Str.ofString "_io") 950)⟩, ⟨PyData.keyHash P (Str.ofString "__firstlineno__"), (Value.str (Str.ofString "__firstlineno__") 949), (Value.int 295 948)⟩, ⟨PyData.keyHash P (Str.ofString "__init__"), (Value.str (Str.ofString "__init__") 962), (Value.ref 505)⟩, ⟨PyData.keyHash P (Str.ofString "_StringIO__translated"), (Value.str (Str.ofString "_StringIO__translated") 971), (Value.ref 512)⟩, ⟨PyData.keyHash P (Str.ofString "_StringIO__check"), (Value.str (Str.ofString "_StringIO__check") 978), (Value.ref 519)⟩, ⟨PyData.keyHash P (Str.ofString "_StringIO__check_dot"), (Value.str (Str.ofString "_StringIO__check_dot") 985), (Value.ref 526)⟩, ⟨PyData.keyHash P (Str.ofString "_StringIO__line"), (Value.str (Str.ofString "_StringIO__line") 1000), (Value.ref 533)⟩, ⟨PyData.keyHash P (Str.ofString "closed"), (Value.str (Str.ofString "closed") 1008), (Value.ref 541)⟩, ⟨PyData.keyHash P (Str.ofString "line_buffering"), (Value.str (Str.ofString "line_buffering") 1016), (Value.ref 549)⟩, ⟨PyData.keyHash P (Str.ofString "newlines"), (Value.str (Str.ofString "newlines") 1024), (Value.ref 557)⟩, ⟨PyData.keyHash P (Str.ofString "encoding"), (Value.str (Str.ofString "encoding") 1032), (Value.ref 565)⟩, ⟨PyData.keyHash P (Str.ofString "errors"), (Value.str (Str.ofString "errors") 1040), (Value.ref 573)⟩, ⟨PyData.keyHash P (Str.ofString "close"), (Value.str (Str.ofString "close") 1047), (Value.ref 580)⟩, ⟨PyData.keyHash P (Str.ofString "__enter__"), (Value.str (Str.ofString "__enter__") 1054), (Value.ref 587)⟩, ⟨PyData.keyHash P (Str.ofString "__exit__"), (Value.str (Str.ofString "__exit__") 1062), (Value.ref 594)⟩, ⟨PyData.keyHash P (Str.ofString "readable"), (Value.str (Str.ofString "readable") 1069), (Value.ref 601)⟩, ⟨PyData.keyHash P (Str.ofString "writable"), (Value.str (Str.ofString "writable") 1076), (Value.ref 608)⟩, ⟨PyData.keyHash P (Str.ofString "seekable"), (Value.str (Str.ofString "seekable") 1083), (Value.ref 615)⟩, ⟨PyData.keyHash P (Str.ofString "isatty"), (Value.str (Str.ofString "isatty") 1090), (Value.ref 622)⟩, ⟨PyData.keyHash P (Str.ofString "flush"), (Value.str (Str.ofString "flush") 1097), (Value.ref 629)⟩, ⟨PyData.keyHash P (Str.ofString "fileno"), (Value.str (Str.ofString "fileno") 1104), (Value.ref 636)⟩, ⟨PyData.keyHash P (Str.ofString "detach"), (Value.str (Str.ofString "detach") 1111), (Value.ref 643)⟩, ⟨PyData.keyHash P (Str.ofString "getvalue"), (Value.str (Str.ofString "getvalue") 1118), (Value.ref 650)⟩, ⟨PyData.keyHash P (Str.ofString "tell"), (Value.str (Str.ofString "tell") 1125), (Value.ref 657)⟩, ⟨PyData.keyHash P (Str.ofString "seek"), (Value.str (Str.ofString "seek") 1135), (Value.ref 665)⟩, ⟨PyData.keyHash P (Str.ofString "truncate"), (Value.str (Str.ofString "truncate") 1143), (Value.ref 673)⟩, ⟨PyData.keyHash P (Str.ofString "read"), (Value.str (Str.ofString "read") 1155), (Value.ref 681)⟩, ⟨PyData.keyHash P (Str.ofString "readline"), (Value.str (Str.ofString "readline") 1165), (Value.ref 689)⟩, ⟨PyData.keyHash P (Str.ofString "readlines"), (Value.str (Str.ofString "readlines") 1175), (Value.ref 697)⟩, ⟨PyData.keyHash P (Str.ofString "__iter__"), (Value.str (Str.ofString "__iter__") 1182), (Value.ref 704)⟩, ⟨PyData.keyHash P (Str.ofString "__next__"), (Value.str (Str.ofString "__next__") 1190), (Value.ref 711)⟩, ⟨PyData.keyHash P (Str.ofString "write"), (Value.str (Str.ofString "write") 1202), (Value.ref 718)⟩, ⟨PyData.keyHash P (Str.ofString "writelines"), (Value.str (Str.ofString "writelines") 1210), (Value.ref 725)⟩, ⟨PyData.keyHash P (Str.ofString "__repr__"), (Value.str (Str.ofString "__repr__") 1217), (Value.ref 732)⟩, ⟨PyData.keyHash P (Str.ofString "__static_attributes__"), (Value.str (Str.ofString "__static_attributes__") 1221), (Value.ref 733)⟩, ⟨PyData.keyHash P (Str.ofString "__doc__"), (Value.str (Str.ofString "__doc__") 1222), Value.none⟩]) 2), (List.toArray [])⟩
noncomputable def o470 (P : Params) : Obj := ⟨(Value.type "type"), none, (Data.cls ⟨(Str.ofString "StringIO"), [(Value.ref 258)], [(Value.ref 735), (Value.ref 258), (Value.ref 231), (Value.type "object")], 734, (Str.ofString "StringIO"), true, [], [], false, none, false⟩), (List.toArray [(some (Value.ref 491)), none, (some (Value.str (Str.ofString "StringIO") 938)), (some (Value.str (Str.ofString "StringIO") 946)), (some Value.none), (some (Value.bool true))])⟩
noncomputable def o471 (P : Params) : Obj := ⟨(Value.type "super"), none, (Data.fields (List.toArray [(Value.ref 735), (Value.ref 735), (Value.ref 735)])), (List.toArray [])⟩
noncomputable def o472 (P : Params) : Obj := ⟨(Value.type "builtin_function_or_method"), none, (Data.fields (List.toArray [(Value.builtin "object.__init_subclass__"), (Value.ref 735)])), (List.toArray [])⟩
noncomputable def o473 (P : Params) : Obj := ⟨(Value.type "dict"), none, (.dict (List.toArray [⟨PyData.keyHash P (Str.ofString "__name__"), (Value.str (Str.ofString "__name__") 165), (Value.str (Str.ofString "cpy313.shlex") 1284)⟩, ⟨PyData.keyHash P (Str.ofString "__doc__"), (Value.str (Str.ofString "__doc__") 166), Value.none⟩, ⟨PyData.keyHash P (Str.ofString "__package__"), (Value.str (Str.ofString "__package__") 167), Value.none⟩, ⟨PyData.keyHash P (Str.ofString "__loader__"), (Value.str (Str.ofString "__loader__") 168), (Value.builtin "__main__.__loader__#\x6fpaque")⟩, ⟨PyData.keyHash P (Str.ofString "__spec__"), (Value.str (Str.ofString "__spec__") 169), Value.none⟩, ⟨PyData.keyHash P (Str.ofString "__annotations__"), (Value.str (Str.ofString "__annotations__") 170), (Value.ref 6)⟩, ⟨PyData.keyHash P (Str.ofString "__builtins__"), (Value.str (Str.ofString "__builtins__") 171), (Value.ref 4)⟩, ⟨PyData.keyHash P (Str.ofString "__file__"), (Value.str (Str.ofString "__file__") 173), (Value.str (Str.ofString "/claim/cut.py") 172)⟩, ⟨PyData.keyHash P (Str.ofString "__cached__"), (Value.str (Str.ofString "__cached__") 174), Value.none⟩, ⟨PyData.keyHash P (Str.ofString "_sre"), (Value.str (Str.ofString "_sre") 275), (Value.ref 12)⟩, ⟨PyData.keyHash P (Str.ofString "deque"), (Value.str (Str.ofString "deque") 317), (Value.type "collections.deque")⟩, ⟨PyData.keyHash P (Str.ofString "_wall"), (Value.str (Str.ofString "_wall") 330), (Value.ref 44)⟩, ⟨PyData.keyHash P (Str.ofString "Error"), (Value.str (Str.ofString "Error") 352), (Value.ref 54)⟩, ⟨PyData.keyHash P (Str.ofString "error_reply"), (Value.str (Str.ofString "error_reply") 368), (Value.ref 67)⟩, ⟨PyData.keyHash P (Str.ofString "error_proto"), (Value.str (Str.ofString "error_proto") 384), (Value.ref 79)⟩, ⟨PyData.keyHash P (Str.ofString "parse229"), (Value.str (Str.ofString "parse229") 397), (Value.ref 88)⟩, ⟨PyData.keyHash P (Str.ofString "_get_sep"), (Value.str (Str.ofString "_get_sep") 406), (Value.ref 95)⟩, ⟨PyData.keyHash P (Str.ofString "_plain_name"), (Value.str (Str.ofString "_plain_name") 417), (Value.ref 102)⟩, ⟨PyData.keyHash P (Str.ofString "ABCMeta"), (Value.str (Str.ofString "ABCMeta") 443), (Value.ref 119)⟩, ⟨PyData.keyHash P (Str.ofString "_ABCLike"), (Value.str (Str.ofString "_ABCLike") 486), (Value.ref 152)⟩, ⟨PyData.keyHash P (Str.ofString "_abc_plain_meta"), (Value.str (Str.ofString "_abc_plain_meta") 493), (Value.ref 161)⟩, ⟨PyData.keyHash P (Str.ofString "fspath"), (Value.str (Str.ofString "fspath") 505), (Value.ref 168)⟩, ⟨PyData.keyHash P (Str.ofString "basename"), (Value.str (Str.ofString "basename") 516), (Value.ref 175)⟩, ⟨PyData.keyHash P (Str.ofString "dirname"), (Value.str (Str.ofString "dirname") 526), (Value.ref 779)⟩, ⟨PyData.keyHash P (Str.ofString "dirname_posixpath"), (Value.str (Str.ofString "dirname_posixpath") 527), (Value.ref 182)⟩, ⟨PyData.keyHash P (Str.ofString "_twin_re_1"), (Value.str (Str.ofString "_twin_re_1") 567), (Value.ref 187)⟩, ⟨PyData.keyHash P (Str.ofString "_whence"), (Value.str (Str.ofString "_whence") 577), (Value.ref 194)⟩, ⟨PyData.keyHash P (Str.ofString "_index"), (Value.str (Str.ofString "_index") 585), (Value.ref 201)⟩, ⟨PyData.keyHash P (Str.ofString "UnsupportedOperation"), (Value.str (Str.ofString "UnsupportedOperation") 607), (Value.ref 211)⟩, ⟨PyData.keyHash P (Str.ofString "IOBase"), (Value.str (Str.ofString "IOBase") 639), (Value.ref 231)⟩, ⟨PyData.keyHash P (Str.ofString "BufferedIOBase"), (Value.str (Str.ofString "BufferedIOBase") 657), (Value.ref 246)⟩, ⟨PyData.keyHash P (Str.ofString "TextIOBase"), (Value.str (Str.ofString "TextIOBase") 675), (Value.ref 258)⟩, ⟨PyData.keyHash P (Str.ofString "BytesIO"), (Value.str (Str.ofString "BytesIO") 937), (Value.ref 488)⟩, ⟨PyData.keyHash P (Str.ofString "StringIO"), (Value.str (Str.ofString "StringIO") 1224), (Value.ref 735)⟩, ⟨PyData.keyHash P (Str.ofString "_kind"), (Value.str (Str.ofString "_kind") 1235), (Value.ref 744)⟩, ⟨PyData.keyHash P (Str.ofString "_fspath"), (Value.str (Str.ofString "_fspath") 1244), (Value.ref 751)⟩, ⟨PyData.keyHash P (Str.ofString "_check_arg_types"), (Value.str (Str.ofString "_check_arg_types") 1254), (Value.ref 758)⟩, ⟨PyData.keyHash P (Str.ofString "isabs"), (Value.str (Str.ofString "isabs") 1261), (Value.ref 765)⟩, ⟨PyData.keyHash P (Str.ofString "join"), (Value.str (Str.ofString "join") 1272), (Value.ref 772)⟩, ⟨PyData.keyHash P (Str.ofString "dirname_path"), (Value.str (Str.ofString "dirname_path") 1283), (Value.ref 779)⟩]) 40), (List.toArray [])⟩
noncomputable def o474 (P : Params) : Obj := ⟨Value.none, none, (Data.fields (List.toArray [(Value.int 3 0), (Value.int 0 0), (Value.ref 43), (Value.int 7 0), (Value.int 0 0), (Value.ref 50), (Value.int 9 0), (Value.int 0 0), (Value.ref 63), (Value.int 11 0), (Value.int 0 0), (Value.ref 75), (Value.int 13 0), (Value.int 0 0), (Value.ref 87), (Value.int 31 0), (Value.int 0 0), (Value.ref 94), (Value.int 37 0), (Value.int 0 0), (Value.ref 101), (Value.int 43 0), (Value.int 0 0), (Value.ref 108), (Value.int 48 0), (Value.int 0 0), (Value.ref 127), (Value.int 63 0), (Value.int 0 0), (Value.ref 160), (Value.int 67 0), (Value.int 0 0), (Value.ref 167), (Value.int 84 0), (Value.int 0 0), (Value.ref 174), (Value.int 89 0), (Value.int 0 0), (Value.ref 181), (Value.int 100 0), (Value.int 0 0), (Value.ref 193), (Value.int 105 0), (Value.int 0 0), (Value.ref 200), (Value.int 112 0), (Value.int 0 0), (Value.ref 207), (Value.int 114 0), (Value.int 0 0), (Value.ref 220), (Value.int 121 0), (Value.int 0 0), (Value.ref 242), (Value.int 123 0), (Value.int 0 0), (Value.ref 254), (Value.int 125 0), (Value.int 0 0), (Value.ref 266), (Value.int 295 0), (Value.int 0 0), (Value.ref 496), (Value.int 501 0), (Value.int 0 0), (Value.ref 743), (Value.int 522 0), (Value.int 0 0), (Value.ref 750), (Value.int 527 0), (Value.int 0 0), (Value.ref 757), (Value.int 532 0), (Value.int 0 0), (Value.ref 764), (Value.int 535 0), (Value.int 0 0), (Value.ref 771), (Value.int 555 0), (Value.int 0 0), (Value.ref 778)])), (List.toArray [])⟩
noncomputable def o475 (P : Params) : Obj := ⟨(Value.type "tuple"), none, (Data.seq (List.toArray [(Value.str (Str.ofString "name") 1230), (Value.str (Str.ofString "x") 1231), (Value.str (Str.ofString "t") 1232)]) 0), (List.toArray [])⟩
noncomputable def o476 (P : Params) : Obj := ⟨Value.none, none, (.func ⟨(Str.ofString "_kind"), (Str.ofString "_kind"), (fA (stA 32)), .stmts (fB (stA 32)), (fS (stA 32)), 0, [], Value.none, Value.none, Value.none, Value.none, none, Value.none, Value.none, 0⟩), (List.toArray [])⟩
noncomputable def o477 (P : Params) : Obj := ⟨(Value.type "code"), none, (Data.fields (List.toArray [(Value.str (Str.ofString "_kind") 1227), (Value.str (Str.ofString "_kind") 1228), (Value.str (Str.ofString "/claim/cut.py") 1229), (Value.int 501 0), (Value.int 2 0), (Value.int 0 0), (Value.int 0 0), (Value.int 3 0), (Value.ref 738), (Value.bool true), (Value.int 318 0), (Value.ref 739), Value.none, (Value.ref 740), (Value.ref 741), (Value.ref 742), (Value.int 1233 0), (Value.int 501 0), (Value.str (Str.ofString "/claim/cut.py") 1234)])), (List.toArray [])⟩
noncomputable def o478 (P : Params) : Obj := ⟨(Value.type "function"), none, (.func ⟨(Str.ofString "_kind"), (Str.ofString "_kind"), (fA (stA 32)), .stmts (fB (stA 32)), (fS (stA 32)), 3, [], Value.none, Value.none, Value.none, (Value.str (Str.ofString "os.path") 1225), none, (Value.ref 743), Value.none, 0⟩), (List.toArray [])⟩
noncomputable def o479 (P : Params) : Obj := ⟨(Value.type "tuple"), none, (Data.seq (List.toArray [(Value.str (Str.ofString "name") 1239), (Value.str (Str.ofString "x") 1240), (Value.str (Str.ofString "k") 1241)]) 0), (List.toArray [])⟩
noncomputable def o480 (P : Params) : Obj := ⟨Value.none, none, (.func ⟨(Str.ofString "_fspath"), (Str.ofString "_fspath"), (fA (stA 33)), .stmts (fB (stA 33)), (fS (stA 33)), 0, [], Value.none, Value.none, Value.none, Value.none, none, Value.none, Value.none, 0⟩), (List.toArray [])⟩
noncomputable def o481 (P : Params) : Obj := ⟨(Value.type "code"), none, (Data.fields (List.toArray [(Value.str (Str.ofString "_fspath") 1236), (Value.str (Str.ofString "_fspath") 1237), (Value.str (Str.ofString "/claim/cut.py") 1238), (Value.int 522 0), (Value.int 2 0), (Value.int 0 0), (Value.int 0 0), (Value.int 3 0), (Value.ref 745), (Value.bool true), (Value.int 318 0), (Value.ref 746), Value.none, (Value.ref 747), (Value.ref 748), (Value.ref 749), (Value.int 1242 0), (Value.int 522 0), (Value.str (Str.ofString "/claim/cut.py") 1243)])), (List.toArray [])⟩
noncomputable def o482 (P : Params) : Obj := ⟨(Value.type "function"), none, (.func ⟨(Str.ofString "_fspath"), (Str.ofString "_fspath"), (fA (stA 33)), .stmts (fB (stA 33)), (fS (stA 33)), 3, [], Value.none, Value.none, Value.none, (Value.str (Str.ofString "os.path") 1225), none, (Value.ref 750), Value.none, 0⟩), (List.toArray [])⟩
noncomputable def o483 (P : Params) : Obj := ⟨(Value.type "tuple"), none, (Data.seq (List.toArray [(Value.str (Str.ofString "funcname") 1248), (Value.str (Str.ofString "args") 1249), (Value.str (Str.ofString "s") 1250), (Value.str (Str.ofString "k") 1251)]) 0), (List.toArray [])⟩
noncomputable def o484 (P : Params) : Obj := ⟨Value.none, none, (.func ⟨(Str.ofString "_check_arg_types"), (Str.ofString "_check_arg_types"), (fA (stA 34)), .stmts (fB (stA 34)), (fS (stA 34)), 0, [], Value.none, Value.none, Value.none, Value.none, none, Value.none, Value.none, 0⟩), (List.toArray [])⟩
noncomputable def o485 (P : Params) : Obj := ⟨(Value.type "code"), none, (Data.fields (List.toArray [(Value.str (Str.ofString "_check_arg_types") 1245), (Value.str (Str.ofString "_check_arg_types") 1246), (Value.str (Str.ofString "/claim/cut.py") 1247), (Value.int 527 0), (Value.int 1 0), (Value.int 0 0), (Value.int 0 0), (Value.int 7 0), (Value.ref 752), (Value.bool true), (Value.int 318 0), (Value.ref 753), Value.none, (Value.ref 754), (Value.ref 755), (Value.ref 756), (Value.int 1252 0), (Value.int 527 0), (Value.str (Str.ofString "/claim/cut.py") 1253)])), (List.toArray [])⟩
noncomputable def o486 (P : Params) : Obj := ⟨(Value.type "function"), none, (.func ⟨(Str.ofString "_check_arg_types"), (Str.ofString "_check_arg_types"), (fA (stA 34)), .stmts (fB (stA 34)), (fS (stA 34)), 3, [], Value.none, Value.none, Value.none, (Value.str (Str.ofString "os.path") 1225), none, (Value.ref 757), Value.none, 0⟩), (List.toArray [])⟩
noncomputable def o487 (P : Params) : Obj := ⟨(Value.type "tuple"), none, (Data.seq (List.toArray [(Value.str (Str.ofString "s") 1258)]) 0), (List.toArray [])⟩
noncomputable def o488 (P : Params) : Obj := ⟨Value.none, none, (.func ⟨(Str.ofString "isabs"), (Str.ofString "isabs"), (fA (stA 35)), .stmts (fB (stA 35)), (fS (stA 35)), 0, [], Value.none, Value.none, Value.none, Value.none, none, Value.none, Value.none, 0⟩), (List.toArray [])⟩
noncomputable def o489 (P : Params) : Obj := ⟨(Value.type "code"), none, (Data.fields (List.toArray [(Value.str (Str.ofString "isabs") 1255), (Value.str (Str.ofString "isabs") 1256), (Value.str (Str.ofString "/claim/cut.py") 1257), (Value.int 532 0), (Value.int 1 0), (Value.int 0 0), (Value.int 0 0), (Value.int 3 0), (Value.ref 759), (Value.bool true), (Value.int 318 0), (Value.ref 760), Value.none, (Value.ref 761), (Value.ref 762), (Value.ref 763), (Value.int 1259 0), (Value.int 532 0), (Value.str (Str.ofString "/claim/cut.py") 1260)])), (List.toArray [])⟩
noncomputable def o490 (P : Params) : Obj := ⟨(Value.type "function"), none, (.func ⟨(Str.ofString "isabs"), (Str.ofString "isabs"), (fA (stA 35)), .stmts (fB (stA 35)), (fS (stA 35)), 3, [], Value.none, Value.none, Value.none, (Value.str (Str.ofString "os.path") 1225), none, (Value.ref 764), Value.none, 0⟩), (List.toArray [])⟩
noncomputable def o491 (P : Params) : Obj := ⟨(Value.type "tuple"), none, (Data.seq (List.toArray [(Value.str (Str.ofString "a") 1265), (Value.str (Str.ofString "p") 1266), (Value.str (Str.ofString "b") 1267), (Value.str (Str.ofString "sep") 1268), (Value.str (Str.ofString "path") 1269)]) 0), (List.toArray [])⟩
noncomputable def o492 (P : Params) : Obj := ⟨Value.none, none, (.func ⟨(Str.ofString "join"), (Str.ofString "join"), (fA (stA 36)), .stmts (fB (stA 36)), (fS (stA 36)), 0, [], Value.none, Value.none, Value.none, Value.none, none, Value.none, Value.none, 0⟩), (List.toArray [])⟩
noncomputable def o493 (P : Params) : Obj := ⟨(Value.type "code"), none, (Data.fields (List.toArray [(Value.str (Str.ofString "join") 1262), (Value.str (Str.ofString "join") 1263), (Value.str (Str.ofString "/claim/cut.py") 1264), (Value.int 535 0), (Value.int 1 0), (Value.int 0 0), (Value.int 0 0), (Value.int 7 0), (Value.ref 766), (Value.bool true), (Value.int 318 0), (Value.ref 767), Value.none, (Value.ref 768), (Value.ref 769), (Value.ref 770), (Value.int 1270 0), (Value.int 535 0), (Value.str (Str.ofString "/claim/cut.py") 1271)])), (List.toArray [])⟩
noncomputable def o494 (P : Params) : Obj := ⟨(Value.type "function"), none, (.func ⟨(Str.ofString "join"), (Str.ofString "join"), (fA (stA 36)), .stmts (fB (stA 36)), (fS (stA 36)), 3, [], Value.none, Value.none, Value.none, (Value.str (Str.ofString "os.path") 1225), none, (Value.ref 771), Value.none, 0⟩), (List.toArray [])⟩
noncomputable def o495 (P : Params) : Obj := ⟨(Value.type "tuple"), none, (Data.seq (List.toArray [(Value.str (Str.ofString "p") 1276), (Value.str (Str.ofString "sep") 1277), (Value.str (Str.ofString "i") 1278), (Value.str (Str.ofString "head") 1279)]) 0), (List.toArray [])⟩
noncomputable def o496 (P : Params) : Obj := ⟨Value.none, none, (.func ⟨(Str.ofString "dirname"), (Str.ofString "dirname"), (fA (stA 37)), .stmts (fB (stA 37)), (fS (stA 37)), 0, [], Value.none, Value.none, Value.none, Value.none, none, Value.none, Value.none, 0⟩), (List.toArray [])⟩
noncomputable def o497 (P : Params) : Obj := ⟨(Value.type "code"), none, (Data.fields (List.toArray [(Value.str (Str.ofString "dirname") 1273), (Value.str (Str.ofString "dirname") 1274), (Value.str (Str.ofString "/claim/cut.py") 1275), (Value.int 555 0), (Value.int 1 0), (Value.int 0 0), (Value.int 0 0), (Value.int 3 0), (Value.ref 773), (Value.bool true), (Value.int 318 0), (Value.ref 774), Value.none, (Value.ref 775), (Value.ref 776), (Value.ref 777), (Value.int 1280 0), (Value.int 555 0), (Value.str (Str.ofString "/claim/cut.py") 1281)])), (List.toArray [])⟩
noncomputable def o498 (P : Params) : Obj := ⟨(Value.type "function"), none, (.func ⟨(Str.ofString "dirname"), (Str.ofString "dirname"), (fA (stA 37)), .stmts (fB (stA 37)), (fS (stA 37)), 3, [], Value.none, Value.none, Value.none, (Value.str (Str.ofString "os.path") 1225), none, (Value.ref 778), Value.none, 0⟩), (List.toArray [])⟩
noncomputable def o499 (P : Params) : Obj := ⟨(Value.type "dict"), none, (.dict (List.toArray [⟨PyData.keyHash P (Str.ofString "__name__"), (Value.str (Str.ofString "__name__") 165), (Value.str (Str.ofString "cpy313.shlex") 1284)⟩, ⟨PyData.keyHash P (Str.ofString "__doc__"), (Value.str (Str.ofString "__doc__") 166), Value.none⟩, ⟨PyData.keyHash P (Str.ofString "__package__"), (Value.str (Str.ofString "__package__") 167), Value.none⟩, ⟨PyData.keyHash P (Str.ofString "__loader__"), (Value.str (Str.ofString "__loader__") 168), (Value.builtin "__main__.__loader__#\x6fpaque")⟩, ⟨PyData.keyHash P (Str.ofString "__spec__"), (Value.str (Str.ofString "__spec__") 169), Value.none⟩, ⟨PyData.keyHash P (Str.ofString "__annotations__"), (Value.str (Str.ofString "__annotations__") 170), (Value.ref 6)⟩, ⟨PyData.keyHash P (Str.ofString "__builtins__"), (Value.str (Str.ofString "__builtins__") 171), (Value.ref 4)⟩, ⟨PyData.keyHash P (Str.ofString "__file__"), (Value.str (Str.ofString "__file__") 173), (Value.str (Str.ofString "/claim/cut.py") 172)⟩, ⟨PyData.keyHash P (Str.ofString "__cached__"), (Value.str (Str.ofString "__cached__") 174), Value.none⟩, ⟨PyData.keyHash P (Str.ofString "_sre"), (Value.str (Str.ofString "_sre") 275), (Value.ref 12)⟩, ⟨PyData.keyHash P (Str.ofString "deque"), (Value.str (Str.ofString "deque") 317), (Value.type "collections.deque")⟩, ⟨PyData.keyHash P (Str.ofString "_wall"), (Value.str (Str.ofString "_wall") 330), (Value.ref 44)⟩, ⟨PyData.keyHash P (Str.ofString "Error"), (Value.str (Str.ofString "Error") 352), (Value.ref 54)⟩, ⟨PyData.keyHash P (Str.ofString "error_reply"), (Value.str (Str.ofString "error_reply") 368), (Value.ref 67)⟩, ⟨PyData.keyHash P (Str.ofString "error_proto"), (Value.str (Str.ofString "error_proto") 384), (Value.ref 79)⟩, ⟨PyData.keyHash P (Str.ofString "parse229"), (Value.str (Str.ofString "parse229") 397), (Value.ref 88)⟩, ⟨PyData.keyHash P (Str.ofString "_get_sep"), (Value.str (Str.ofString "_get_sep") 406), (Value.ref 95)⟩, ⟨PyData.keyHash P (Str.ofString "_plain_name"), (Value.str (Str.ofString "_plain_name") 417), (Value.ref 102)⟩, ⟨PyData.keyHash P (Str.ofString "ABCMeta"), (Value.str (Str.ofString "ABCMeta") 443), (Value.ref 119)⟩, ⟨PyData.keyHash P (Str.ofString "_ABCLike"), (Value.str (Str.ofString "_ABCLike") 486), (Value.ref 152)⟩, ⟨PyData.keyHash P (Str.ofString "_abc_plain_meta"), (Value.str (Str.ofString "_abc_plain_meta") 493), (Value.ref 161)⟩, ⟨PyData.keyHash P (Str.ofString "fspath"), (Value.str (Str.ofString "fspath") 505), (Value.ref 168)⟩, ⟨PyData.keyHash P (Str.ofString "basename"), (Value.str (Str.ofString "basename") 516), (Value.ref 175)⟩, ⟨PyData.keyHash P (Str.ofString "dirname"), (Value.str (Str.ofString "dirname") 526), (Value.ref 779)⟩, ⟨PyData.keyHash P (Str.ofString "dirname_posixpath"), (Value.str (Str.ofString "dirname_posixpath") 527), (Value.ref 182)⟩, ⟨PyData.keyHash P (Str.ofString "_twin_re_1"), (Value.str (Str.ofString "_twin_re_1") 567), (Value.ref 187)⟩, ⟨PyData.keyHash P (Str.ofString "_whence"), (Value.str (Str.ofString "_whence") 577), (Value.ref 194)⟩, ⟨PyData.keyHash P (Str.ofString "_index"), (Value.str (Str.ofString "_index") 585), (Value.ref 201)⟩, ⟨PyData.keyHash P (Str.ofString "UnsupportedOperation"), (Value.str (Str.ofString "UnsupportedOperation") 607), (Value.ref 211)⟩, ⟨PyData.keyHash P (Str.ofString "IOBase"), (Value.str (Str.ofString "IOBase") 639), (Value.ref 231)⟩, ⟨PyData.keyHash P (Str.ofString "BufferedIOBase"), (Value.str (Str.ofString "BufferedIOBase") 657), (Value.ref 246)⟩, ⟨PyData.keyHash P (Str.ofString "TextIOBase"), (Value.str (Str.ofString "TextIOBase") 675), (Value.ref 258)⟩, ⟨PyData.keyHash P (Str.ofString "BytesIO"), (Value.str (Str.ofString "BytesIO") 937), (Value.ref 488)⟩, ⟨PyData.keyHash P (Str.ofString "StringIO"), (Value.str (Str.ofString "StringIO") 1224), (Value.ref 735)⟩, ⟨PyData.keyHash P (Str.ofString "_kind"), (Value.str (Str.ofString "_kind") 1235), (Value.ref 744)⟩, ⟨PyData.keyHash P (Str.ofString "_fspath"), (Value.str (Str.ofString "_fspath") 1244), (Value.ref 751)⟩, ⟨PyData.keyHash P (Str.ofString "_check_arg_types"), (Value.str (Str.ofString "_check_arg_types") 1254), (Value.ref 758)⟩, ⟨PyData.keyHash P (Str.ofString "isabs"), (Value.str (Str.ofString "isabs") 1261), (Value.ref 765)⟩, ⟨PyData.keyHash P (Str.ofString "join"), (Value.str (Str.ofString "join") 1272), (Value.ref 772)⟩, ⟨PyData.keyHash P (Str.ofString "dirname_path"), (Value.str (Str.ofString "dirname_path") 1283), (Value.ref 779)⟩, ⟨PyData.keyHash P (Str.ofString "shlex"), (Value.str (Str.ofString "shlex") 1424), (Value.ref 870)⟩]) 41), (List.toArray [])⟩
noncomputable def o500 (P : Params) : Obj := ⟨Value.none, none, (Data.fields (List.toArray [(Value.int 3 0), (Value.int 0 0), (Value.ref 43), (Value.int 7 0), (Value.int 0 0), (Value.ref 50), (Value.int 9 0), (Value.int 0 0), (Value.ref 63), (Value.int 11 0), (Value.int 0 0), (Value.ref 75), (Value.int 13 0), (Value.int 0 0), (Value.ref 87), (Value.int 31 0), (Value.int 0 0), (Value.ref 94), (Value.int 37 0), (Value.int 0 0), (Value.ref 101), (Value.int 43 0), (Value.int 0 0), (Value.ref 108), (Value.int 48 0), (Value.int 0 0), (Value.ref 127), (Value.int 63 0), (Value.int 0 0), (Value.ref 160), (Value.int 67 0), (Value.int 0 0), (Value.ref 167), (Value.int 84 0), (Value.int 0 0), (Value.ref 174), (Value.int 89 0), (Value.int 0 0), (Value.ref 181), (Value.int 100 0), (Value.int 0 0), (Value.ref 193), (Value.int 105 0), (Value.int 0 0), (Value.ref 200), (Value.int 112 0), (Value.int 0 0), (Value.ref 207), (Value.int 114 0), (Value.int 0 0), (Value.ref 220), (Value.int 121 0), (Value.int 0 0), (Value.ref 242), (Value.int 123 0), (Value.int 0 0), (Value.ref 254), (Value.int 125 0), (Value.int 0 0), (Value.ref 266), (Value.int 295 0), (Value.int 0 0), (Value.ref 496), (Value.int 501 0), (Value.int 0 0), (Value.ref 743), (Value.int 522 0), (Value.int 0 0), (Value.ref 750), (Value.int 527 0), (Value.int 0 0), (Value.ref 757), (Value.int 532 0), (Value.int 0 0), (Value.ref 764), (Value.int 535 0), (Value.int 0 0), (Value.ref 771), (Value.int 555 0), (Value.int 0 0), (Value.ref 778), (Value.int 565 0), (Value.int 0 0), (Value.ref 785)])), (List.toArray [])⟩
noncomputable def o501 (P : Params) : Obj := ⟨(Value.type "dict"), none, (.dict (List.toArray [⟨PyData.keyHash P (Str.ofString "__module__"), (Value.str (Str.ofString "__module__") 1293), (Value.str (Str.ofString "cpy313.shlex") 1284)⟩, ⟨PyData.keyHash P (Str.ofString "__qualname__"), (Value.str (Str.ofString "__qualname__") 1295), (Value.str (Str.ofString "shlex") 1294)⟩, ⟨PyData.keyHash P (Str.ofString "__firstlineno__"), (Value.str (Str.ofString "__firstlineno__") 1297), (Value.int 565 1296)⟩, ⟨PyData.keyHash P (Str.ofString "__init__"), (Value.str (Str.ofString "__init__") 1309), (Value.ref 794)⟩, ⟨PyData.keyHash P (Str.ofString "punctuation_chars"), (Value.str (Str.ofString "punctuation_chars") 1317), (Value.ref 802)⟩, ⟨PyData.keyHash P (Str.ofString "push_token"), (Value.str (Str.ofString "push_token") 1325), (Value.ref 809)⟩, ⟨PyData.keyHash P (Str.ofString "push_source"), (Value.str (Str.ofString "push_source") 1334), (Value.ref 817)⟩, ⟨PyData.keyHash P (Str.ofString "pop_source"), (Value.str (Str.ofString "pop_source") 1341), (Value.ref 824)⟩, ⟨PyData.keyHash P (Str.ofString "get_token"), (Value.str (Str.ofString "get_token") 1353), (Value.ref 831)⟩, ⟨PyData.keyHash P (Str.ofString "read_token"), (Value.str (Str.ofString "read_token") 1364), (Value.ref 838)⟩, ⟨PyData.keyHash P (Str.ofString "sourcehook"), (Value.str (Str.ofString "sourcehook") 1372), (Value.ref 845)⟩, ⟨PyData.keyHash P (Str.ofString "error_leader"), (Value.str (Str.ofString "error_leader") 1381), (Value.ref 853)⟩, ⟨PyData.keyHash P (Str.ofString "__iter__"), (Value.str (Str.ofString "__iter__") 1388), (Value.ref 860)⟩, ⟨PyData.keyHash P (Str.ofString "__next__"), (Value.str (Str.ofString "__next__") 1396), (Value.ref 867)⟩, ⟨PyData.keyHash P (Str.ofString "__static_attributes__"), (Value.str (Str.ofString "__static_attributes__") 1417), (Value.ref 868)⟩]) 15), (List.toArray [])⟩
noncomputable def o502 (P : Params) : Obj := ⟨Value.none, none, (Data.fields (List.toArray [(Value.int 567 0), (Value.int 4 0), (Value.ref 793), (Value.int 609 0), (Value.int 4 0), (Value.ref 800), (Value.int 612 0), (Value.int 4 0), (Value.ref 808), (Value.int 615 0), (Value.int 4 0), (Value.ref 816), (Value.int 628 0), (Value.int 4 0), (Value.ref 823), (Value.int 635 0), (Value.int 4 0), (Value.ref 830), (Value.int 662 0), (Value.int 4 0), (Value.ref 837), (Value.int 799 0), (Value.int 4 0), (Value.ref 844), (Value.int 806 0), (Value.int 4 0), (Value.ref 852), (Value.int 809 0), (Value.int 4 0), (Value.ref 859), (Value.int 812 0), (Value.int 4 0), (Value.ref 866)])), (List.toArray [])⟩
noncomputable def o503 (P : Params) : Obj := ⟨(Value.type "code"), none, (Data.fields (List.toArray [(Value.str (Str.ofString "shlex") 1288), (Value.str (Str.ofString "shlex") 1289), (Value.str (Str.ofString "/claim/cut.py") 1290), (Value.int 565 0), (Value.int 0 0), (Value.int 0 0), (Value.int 0 0), (Value.int 0 0), (Value.ref 783), (Value.bool false), (Value.int 318 0), (Value.ref 784), Value.none, Value.none, Value.none, Value.none, (Value.int 1291 0), (Value.int 565 0), (Value.str (Str.ofString "/claim/cut.py") 1292)])), (List.toArray [])⟩
noncomputable def o504 (P : Params) : Obj := ⟨(Value.type "frame"), none, Data.plain, (List.toArray [(some (Value.ref 785)), (some (Value.ref 3)), (some (Value.ref 782)), none, (some (Value.str (Str.ofString "cpy313.shlex") 1284)), none, (some (Value.ref 0))])⟩
noncomputable def o505 (P : Params) : Obj := ⟨(Value.type "tuple"), none, (Data.seq (List.toArray [Value.none, Value.none, (Value.bool false), (Value.bool false)]) 0), (List.toArray [])⟩
noncomputable def o506 (P : Params) : Obj := ⟨(Value.type "tuple"), none, (Data.seq (List.toArray [(Value.str (Str.ofString "self") 1301), (Value.str (Str.ofString "instream") 1302), (Value.str (Str.ofString "infile") 1303), (Value.str (Str.ofString "posix") 1304), (Value.str (Str.ofString "punctuation_chars") 1305), (Value.str (Str.ofString "t") 1306)]) 0), (List.toArray [])⟩
noncomputable def o507 (P : Params) : Obj := ⟨Value.none, none, (.func ⟨(Str.ofString "__init__"), (Str.ofString "shlex.__init__"), (fA (inC (stA 40) 0)), .stmts (fB (inC (stA 40) 0)), (fS (inC (stA 40) 0)), 0, [], Value.none, Value.none, Value.none, Value.none, none, Value.none, Value.none, 0⟩), (List.toArray [])⟩
noncomputable def o508 (P : Params) : Obj := ⟨(Value.type "code"), none, (Data.fields (List.toArray [(Value.str (Str.ofString "__init__") 1298), (Value.str (Str.ofString "shlex.__init__") 1299), (Value.str (Str.ofString "/claim/cut.py") 1300), (Value.int 567 0), (Value.int 5 0), (Value.int 0 0), (Value.int 0 0), (Value.int 3 0), (Value.ref 788), (Value.bool true), (Value.int 318 0), (Value.ref 789), Value.none, (Value.ref 790), (Value.ref 791), (Value.ref 792), (Value.int 1307 0), (Value.int 567 0), (Value.str (Str.ofString "/claim/cut.py") 1308)])), (List.toArray [])⟩
noncomputable def o509 (P : Params) : Obj := ⟨(Value.type "function"), none, (.func ⟨(Str.ofString "__init__"), (Str.ofString "shlex.__init__"), as_794, .stmts bd_794, sc_794, 3, [], (Value.ref 787), Value.none, Value.none, (Value.str (Str.ofString "cpy313.shlex") 1284), none, (Value.ref 793), Value.none, 0⟩), (List.toArray [])⟩
noncomputable def o510 (P : Params) : Obj := ⟨(Value.type "tuple"), none, (Data.seq (List.toArray [(Value.str (Str.ofString "self") 1313)]) 0), (List.toArray [])⟩
noncomputable def o511 (P : Params) : Obj := ⟨Value.none, none, (.func ⟨(Str.ofString "punctuation_chars"), (Str.ofString "shlex.punctuation_chars"), (fA (inC (stA 40) 1)), .stmts (fB (inC (stA 40) 1)), (fS (inC (stA 40) 1)), 0, [], Value.none, Value.none, Value.none, Value.none, none, Value.none, Value.none, 0⟩), (List.toArray [])⟩
noncomputable def o512 (P : Params) : Obj := ⟨(Value.type "code"), none, (Data.fields (List.toArray [(Value.str (Str.ofString "punctuation_chars") 1310), (Value.str (Str.ofString "shlex.punctuation_chars") 1311), (Value.str (Str.ofString "/claim/cut.py") 1312), (Value.int 608 0), (Value.int 1 0), (Value.int 0 0), (Value.int 0 0), (Value.int 3 0), (Value.ref 795), (Value.bool true), (Value.int 318 0), (Value.ref 796), Value.none, (Value.ref 797), (Value.ref 798), (Value.ref 799), (Value.int 1314 0), (Value.int 608 0), (Value.str (Str.ofString "/claim/cut.py") 1315)])), (List.toArray [])⟩
noncomputable def o513 (P : Params) : Obj := ⟨(Value.type "function"), none, (.func ⟨(Str.ofString "punctuation_chars"), (Str.ofString "shlex.punctuation_chars"), as_801, .stmts bd_801, sc_801, 3, [], Value.none, Value.none, Value.none, (Value.str (Str.ofString "cpy313.shlex") 1284), none, (Value.ref 800), Value.none, 0⟩), (List.toArray [])⟩
noncomputable def o514 (P : Params) : Obj := ⟨(Value.type "property"), none, (Data.fields (List.toArray [(Value.ref 801), Value.none, Value.none, Value.none, (Value.str (Str.ofString "punctuation_chars") 1317), (Value.bool false)])), (List.toArray [])⟩
noncomputable def o515 (P : Params) : Obj := ⟨(Value.type "tuple"), none, (Data.seq (List.toArray [(Value.str (Str.ofString "self") 1321), (Value.str (Str.ofString "tok") 1322)]) 0), (List.toArray [])⟩
noncomputable def o516 (P : Params) : Obj := ⟨Value.none, none, (.func ⟨(Str.ofString "push_token"), (Str.ofString "shlex.push_token"), (fA (inC (stA 40) 2)), .stmts (fB (inC (stA 40) 2)), (fS (inC (stA 40) 2)), 0, [], Value.none, Value.none, Value.none, Value.none, none, Value.none, Value.none, 0⟩), (List.toArray [])⟩
noncomputable def o517 (P : Params) : Obj := ⟨(Value.type "code"), none, (Data.fields (List.toArray [(Value.str (Str.ofString "push_token") 1318), (Value.str (Str.ofString "shlex.push_token") 1319), (Value.str (Str.ofString "/claim/cut.py") 1320), (Value.int 612 0), (Value.int 2 0), (Value.int 0 0), (Value.int 0 0), (Value.int 3 0), (Value.ref 803), (Value.bool true), (Value.int 318 0), (Value.ref 804), Value.none, (Value.ref 805), (Value.ref 806), (Value.ref 807), (Value.int 1323 0), (Value.int 612 0), (Value.str (Str.ofString "/claim/cut.py") 1324)])), (List.toArray [])⟩
noncomputable def o518 (P : Params) : Obj := ⟨(Value.type "function"), none, (.func ⟨(Str.ofString "push_token"), (Str.ofString "shlex.push_token"), (fA (inC (stA 40) 2)), .stmts (fB (inC (stA 40) 2)), (fS (inC (stA 40) 2)), 3, [], Value.none, Value.none, Value.none, (Value.str (Str.ofString "cpy313.shlex") 1284), none, (Value.ref 808), Value.none, 0⟩), (List.toArray [])⟩
noncomputable def o519 (P : Params) : Obj := ⟨(Value.type "tuple"), none, (Data.seq (List.toArray [(Value.str (Str.ofString "self") 1329), (Value.str (Str.ofString "newstream") 1330), (Value.str (Str.ofString "newfile") 1331)]) 0), (List.toArray [])⟩
noncomputable def o520 (P : Params) : Obj := ⟨Value.none, none, (.func ⟨(Str.ofString "push_source"), (Str.ofString "shlex.push_source"), (fA (inC (stA 40) 3)), .stmts (fB (inC (stA 40) 3)), (fS (inC (stA 40) 3)), 0, [], Value.none, Value.none, Value.none, Value.none, none, Value.none, Value.none, 0⟩), (List.toArray [])⟩
noncomputable def o521 (P : Params) : Obj := ⟨(Value.type "code"), none, (Data.fields (List.toArray [(Value.str (Str.ofString "push_source") 1326), (Value.str (Str.ofString "shlex.push_source") 1327), (Value.str (Str.ofString "/claim/cut.py") 1328), (Value.int 615 0), (Value.int 3 0), (Value.int 0 0), (Value.int 0 0), (Value.int 3 0), (Value.ref 811), (Value.bool true), (Value.int 318 0), (Value.ref 812), Value.none, (Value.ref 813), (Value.ref 814), (Value.ref 815), (Value.int 1332 0), (Value.int 615 0), (Value.str (Str.ofString "/claim/cut.py") 1333)])), (List.toArray [])⟩
noncomputable def o522 (P : Params) : Obj := ⟨(Value.type "function"), none, (.func ⟨(Str.ofString "push_source"), (Str.ofString "shlex.push_source"), (fA (inC (stA 40) 3)), .stmts (fB (inC (stA 40) 3)), (fS (inC (stA 40) 3)), 3, [], (Value.ref 810), Value.none, Value.none, (Value.str (Str.ofString "cpy313.shlex") 1284), none, (Value.ref 816), Value.none, 0⟩), (List.toArray [])⟩
noncomputable def o523 (P : Params) : Obj := ⟨(Value.type "tuple"), none, (Data.seq (List.toArray [(Value.str (Str.ofString "self") 1338)]) 0), (List.toArray [])⟩
noncomputable def o524 (P : Params) : Obj := ⟨Value.none, none, (.func ⟨(Str.ofString "pop_source"), (Str.ofString "shlex.pop_source"), (fA (inC (stA 40) 4)), .stmts (fB (inC (stA 40) 4)), (fS (inC (stA 40) 4)), 0, [], Value.none, Value.none, Value.none, Value.none, none, Value.none, Value.none, 0⟩), (List.toArray [])⟩
noncomputable def o525 (P : Params) : Obj := ⟨(Value.type "code"), none, (Data.fields (List.toArray [(Value.str (Str.ofString "pop_source") 1335), (Value.str (Str.ofString "shlex.pop_source") 1336), (Value.str (Str.ofString "/claim/cut.py") 1337), (Value.int 628 0), (Value.int 1 0), (Value.int 0 0), (Value.int 0 0), (Value.int 3 0), (Value.ref 818), (Value.bool true), (Value.int 318 0), (Value.ref 819), Value.none, (Value.ref 820), (Value.ref 821), (Value.ref 822), (Value.int 1339 0), (Value.int 628 0), (Value.str (Str.ofString "/claim/cut.py") 1340)])), (List.toArray [])⟩
noncomputable def o526 (P : Params) : Obj := ⟨(Value.type "function"), none, (.func ⟨(Str.ofString "pop_source"), (Str.ofString "shlex.pop_source"), (fA (inC (stA 40) 4)), .stmts (fB (inC (stA 40) 4)), (fS (inC (stA 40) 4)), 3, [], Value.none, Value.none, Value.none, (Value.str (Str.ofString "cpy313.shlex") 1284), none, (Value.ref 823), Value.none, 0⟩), (List.toArray [])⟩
noncomputable def o527 (P : Params) : Obj := ⟨(Value.type "tuple"), none, (Data.seq (List.toArray [(Value.str (Str.ofString "self") 1345), (Value.str (Str.ofString "tok") 1346), (Value.str (Str.ofString "raw") 1347), (Value.str (Str.ofString "spec") 1348), (Value.str (Str.ofString "newfile") 1349), (Value.str (Str.ofString "newstream") 1350)]) 0), (List.toArray [])⟩
noncomputable def o528 (P : Params) : Obj := ⟨Value.none, none, (.func ⟨(Str.ofString "get_token"), (Str.ofString "shlex.get_token"), (fA (inC (stA 40) 5)), .stmts (fB (inC (stA 40) 5)), (fS (inC (stA 40) 5)), 0, [], Value.none, Value.none, Value.none, Value.none, none, Value.none, Value.none, 0⟩), (List.toArray [])⟩
noncomputable def o529 (P : Params) : Obj := ⟨(Value.type "code"), none, (Data.fields (List.toArray [(Value.str (Str.ofString "get_token") 1342), (Value.str (Str.ofString "shlex.get_token") 1343), (Value.str (Str.ofString "/claim/cut.py") 1344), (Value.int 635 0), (Value.int 1 0), (Value.int 0 0), (Value.int 0 0), (Value.int 3 0), (Value.ref 825), (Value.bool true), (Value.int 318 0), (Value.ref 826), Value.none, (Value.ref 827), (Value.ref 828), (Value.ref 829), (Value.int 1351 0), (Value.int 635 0), (Value.str (Str.ofString "/claim/cut.py") 1352)])), (List.toArray [])⟩
noncomputable def o530 (P : Params) : Obj := ⟨(Value.type "function"), none, (.func ⟨(Str.ofString "get_token"), (Str.ofString "shlex.get_token"), as_831, .stmts bd_831, sc_831, 3, [], Value.none, Value.none, Value.none, (Value.str (Str.ofString "cpy313.shlex") 1284), none, (Value.ref 830), Value.none, 0⟩), (List.toArray [])⟩
noncomputable def o531 (P : Params) : Obj := ⟨(Value.type "tuple"), none, (Data.seq (List.toArray [(Value.str (Str.ofString "self") 1357), (Value.str (Str.ofString "quoted") 1358), (Value.str (Str.ofString "escapedstate") 1359), (Value.str (Str.ofString "nextchar") 1360), (Value.str (Str.ofString "result") 1361)]) 0), (List.toArray [])⟩
noncomputable def o532 (P : Params) : Obj := ⟨Value.none, none, (.func ⟨(Str.ofString "read_token"), (Str.ofString "shlex.read_token"), (fA (inC (stA 40) 6)), .stmts (fB (inC (stA 40) 6)), (fS (inC (stA 40) 6)), 0, [], Value.none, Value.none, Value.none, Value.none, none, Value.none, Value.none, 0⟩), (List.toArray [])⟩
noncomputable def o533 (P : Params) : Obj := ⟨(Value.type "code"), none, (Data.fields (List.toArray [(Value.str (Str.ofString "read_token") 1354), (Value.str (Str.ofString "shlex.read_token") 1355), (Value.str (Str.ofString "/claim/cut.py") 1356), (Value.int 662 0), (Value.int 1 0), (Value.int 0 0), (Value.int 0 0), (Value.int 3 0), (Value.ref 832), (Value.bool true), (Value.int 318 0), (Value.ref 833), Value.none, (Value.ref 834), (Value.ref 835), (Value.ref 836), (Value.int 1362 0), (Value.int 662 0), (Value.str (Str.ofString "/claim/cut.py") 1363)])), (List.toArray [])⟩
noncomputable def o534 (P : Params) : Obj := ⟨(Value.type "function"), none, (.func ⟨(Str.ofString "read_token"), (Str.ofString "shlex.read_token"), as_838, .stmts bd_838, sc_838, 3, [], Value.none, Value.none, Value.none, (Value.str (Str.ofString "cpy313.shlex") 1284), none, (Value.ref 837), Value.none, 0⟩), (List.toArray [])⟩
noncomputable def o535 (P : Params) : Obj := ⟨(Value.type "tuple"), none, (Data.seq (List.toArray [(Value.str (Str.ofString "self") 1368), (Value.str (Str.ofString "newfile") 1369)]) 0), (List.toArray [])⟩
noncomputable def o536 (P : Params) : Obj := ⟨Value.none, none, (.func ⟨(Str.ofString "sourcehook"), (Str.ofString "shlex.sourcehook"), (fA (inC (stA 40) 7)), .stmts (fB (inC (stA 40) 7)), (fS (inC (stA 40) 7)), 0, [], Value.none, Value.none, Value.none, Value.none, none, Value.none, Value.none, 0⟩), (List.toArray [])⟩
noncomputable def o537 (P : Params) : Obj := ⟨(Value.type "code"), none, (Data.fields (List.toArray [(Value.str (Str.ofString "sourcehook") 1365), (Value.str (Str.ofString "shlex.sourcehook") 1366), (Value.str (Str.ofString "/claim/cut.py") 1367), (Value.int 799 0), (Value.int 2 0), (Value.int 0 0), (Value.int 0 0), (Value.int 3 0), (Value.ref 839), (Value.bool true), (Value.int 318 0), (Value.ref 840), Value.none, (Value.ref 841), (Value.ref 842), (Value.ref 843), (Value.int 1370 0), (Value.int 799 0), (Value.str (Str.ofString "/claim/cut.py") 1371)])), (List.toArray [])⟩
noncomputable def o538 (P : Params) : Obj := ⟨(Value.type "function"), none, (.func ⟨(Str.ofString "sourcehook"), (Str.ofString "shlex.sourcehook"), (fA (inC (stA 40) 7)), .stmts (fB (inC (stA 40) 7)), (fS (inC (stA 40) 7)), 3, [], Value.none, Value.none, Value.none, (Value.str (Str.ofString "cpy313.shlex") 1284), none, (Value.ref 844), Value.none, 0⟩), (List.toArray [])⟩
noncomputable def o539 (P : Params) : Obj := ⟨(Value.type "tuple"), none, (Data.seq (List.toArray [Value.none, Value.none]) 0), (List.toArray [])⟩
noncomputable def o540 (P : Params) : Obj := ⟨(Value.type "tuple"), none, (Data.seq (List.toArray [(Value.str (Str.ofString "self") 1376), (Value.str (Str.ofString "infile") 1377), (Value.str (Str.ofString "lineno") 1378)]) 0), (List.toArray [])⟩
noncomputable def o541 (P : Params) : Obj := ⟨Value.none, none, (.func ⟨(Str.ofString "error_leader"), (Str.ofString "shlex.error_leader"), (fA (inC (stA 40) 8)), .stmts (fB (inC (stA 40) 8)), (fS (inC (stA 40) 8)), 0, [], Value.none, Value.none, Value.none, Value.none, none, Value.none, Value.none, 0⟩), (List.toArray [])⟩
noncomputable def o542 (P : Params) : Obj := ⟨(Value.type "code"), none, (Data.fields (List.toArray [(Value.str (Str.ofString "error_leader") 1373), (Value.str (Str.ofString "shlex.error_leader") 1374), (Value.str (Str.ofString "/claim/cut.py") 1375), (Value.int 806 0), (Value.int 3 0), (Value.int 0 0), (Value.int 0 0), (Value.int 3 0), (Value.ref 847), (Value.bool true), (Value.int 318 0), (Value.ref 848), Value.none, (Value.ref 849), (Value.ref 850), (Value.ref 851), (Value.int 1379 0), (Value.int 806 0), (Value.str (Str.ofString "/claim/cut.py") 1380)])), (List.toArray [])⟩
noncomputable def o543 (P : Params) : Obj := ⟨(Value.type "function"), none, (.func ⟨(Str.ofString "error_leader"), (Str.ofString "shlex.error_leader"), (fA (inC (stA 40) 8)), .stmts (fB (inC (stA 40) 8)), (fS (inC (stA 40) 8)), 3, [], (Value.ref 846), Value.none, Value.none, (Value.str (Str.ofString "cpy313.shlex") 1284), none, (Value.ref 852), Value.none, 0⟩), (List.toArray [])⟩
noncomputable def o544 (P : Params) : Obj := ⟨(Value.type "tuple"), none, (Data.seq (List.toArray [(Value.str (Str.ofString "self") 1385)]) 0), (List.toArray [])⟩
noncomputable def o545 (P : Params) : Obj := ⟨Value.none, none, (.func ⟨(Str.ofString "__iter__"), (Str.ofString "shlex.__iter__"), (fA (inC (stA 40) 9)), .stmts (fB (inC (stA 40) 9)), (fS (inC (stA 40) 9)), 0, [], Value.none, Value.none, Value.none, Value.none, none, Value.none, Value.none, 0⟩), (List.toArray [])⟩
noncomputable def o546 (P : Params) : Obj := ⟨(Value.type "code"), none, (Data.fields (List.toArray [(Value.str (Str.ofString "__iter__") 1382), (Value.str (Str.ofString "shlex.__iter__") 1383), (Value.str (Str.ofString "/claim/cut.py") 1384), (Value.int 809 0), (Value.int 1 0), (Value.int 0 0), (Value.int 0 0), (Value.int 3 0), (Value.ref 854), (Value.bool true), (Value.int 318 0), (Value.ref 855), Value.none, (Value.ref 856), (Value.ref 857), (Value.ref 858), (Value.int 1386 0), (Value.int 809 0), (Value.str (Str.ofString "/claim/cut.py") 1387)])), (List.toArray [])⟩
noncomputable def o547 (P : Params) : Obj := ⟨(Value.type "function"), none, (.func ⟨(Str.ofString "__iter__"), (Str.ofString "shlex.__iter__"), as_860, .stmts bd_860, sc_860, 3, [], Value.none, Value.none, Value.none, (Value.str (Str.ofString "cpy313.shlex") 1284), none, (Value.ref 859), Value.none, 0⟩), (List.toArray [])⟩
noncomputable def o548 (P : Params) : Obj := ⟨(Value.type "tuple"), none, (Data.seq (List.toArray [(Value.str (Str.ofString "self") 1392), (Value.str (Str.ofString "token") 1393)]) 0), (List.toArray [])⟩
noncomputable def o549 (P : Params) : Obj := ⟨Value.none, none, (.func ⟨(Str.ofString "__next__"), (Str.ofString "shlex.__next__"), (fA (inC (stA 40) 10)), .stmts (fB (inC (stA 40) 10)), (fS (inC (stA 40) 10)), 0, [], Value.none, Value.none, Value.none, Value.none, none, Value.none, Value.none, 0⟩), (List.toArray [])⟩
noncomputable def o550 (P : Params) : Obj := ⟨(Value.type "code"), none, (Data.fields (List.toArray [(Value.str (Str.ofString "__next__") 1389), (Value.str (Str.ofString "shlex.__next__") 1390), (Value.str (Str.ofString "/claim/cut.py") 1391), (Value.int 812 0), (Value.int 1 0), (Value.int 0 0), (Value.int 0 0), (Value.int 3 0), (Value.ref 861), (Value.bool true), (Value.int 318 0), (Value.ref 862), Value.none, (Value.ref 863), (Value.ref 864), (Value.ref 865), (Value.int 1394 0), (Value.int 812 0), (Value.str (Str.ofString "/claim/cut.py") 1395)])), (List.toArray [])⟩
noncomputable def o551 (P : Params) : Obj := ⟨(Value.type "function"), none, (.func ⟨(Str.ofString "__next__"), (Str.ofString "shlex.__next__"), as_867, .stmts bd_867, sc_867, 3, [], Value.none, Value.none, Value.none, (Value.str (Str.ofString "cpy313.shlex") 1284), none, (Value.ref 866), Value.none, 0⟩), (List.toArray [])⟩
noncomputable def o552 (P : Params) : Obj := ⟨(Value.type "tuple"), none, (Data.seq (List.toArray [(Value.str (Str.ofString "_punctuation_chars") 1397), (Value.str (Str.ofString "_pushback_chars") 1398), (Value.str (Str.ofString "commenters") 1399), (Value.str (Str.ofString "debug") 1400), (Value.str (Str.ofString "eof") 1401), (Value.str (Str.ofString "escape") 1402), (Value.str (Str.ofString "escapedquotes") 1403), (Value.str (Str.ofString "filestack") 1404), (Value.str (Str.ofString "infile") 1405), (Value.str (Str.ofString "instream") 1406), (Value.str (Str.ofString "lineno") 1407), (Value.str (Str.ofString "posix") 1408), (Value.str (Str.ofString "pushback") 1409), (Value.str (Str.ofString "quotes") 1410), (Value.str (Str.ofString "source") 1411), (Value.str (Str.ofString "state") 1412), (Value.str (Str.ofString "token") 1413), (Value.str (Str.ofString "whitespace") 1414), (Value.str (Str.ofString "whitespace_split") 1415), (Value.str (Str.ofString "wordchars") 1416)]) 0), (List.toArray [])⟩
noncomputable def o553 (P : Params) : Obj := ⟨(Value.type "dict"), none, (.dict (List.toArray [⟨PyData.keyHash P (Str.ofString "__module__"), (Value.str (Str.ofString "__module__") 1293), (Value.str (Str.ofString "cpy313.shlex") 1284)⟩, ⟨PyData.keyHash P (Str.ofString "__firstlineno__"), (Value.str (Str.ofString "__firstlineno__") 1297), (Value.int 565 1296)⟩, ⟨PyData.keyHash P (Str.ofString "__init__"), (Value.str (Str.ofString "__init__") 1309), (Value.ref 794)⟩, ⟨PyData.keyHash P (Str.ofString "punctuation_chars"), (Value.str (Str.ofString "punctuation_chars") 1317), (Value.ref 802)⟩, ⟨PyData.keyHash P (Str.ofString "push_token"), (Value.str (Str.ofString "push_token") 1325), (Value.ref 809)⟩, ⟨PyData.keyHash P (Str.ofString "push_source"), (Value.str (Str.ofString "push_source") 1334), (Value.ref 817)⟩, ⟨PyData.keyHash P (Str.ofString "pop_source"), (Value.str (Str.ofString "pop_source") 1341), (Value.ref 824)⟩, ⟨PyData.keyHash P (Str.ofString "get_token"), (Value.str (Str.ofString "get_token") 1353), (Value.ref 831)⟩, ⟨PyData.keyHash P (Str.ofString "read_token"), (Value.str (Str.ofString "read_token") 1364), (Value.ref 838)⟩, ⟨PyData.keyHash P (Str.ofString "sourcehook"), (Value.str (Str.ofString "sourcehook") 1372), (Value.ref 845)⟩, ⟨PyData.keyHash P (Str.ofString "error_leader"), (Value.str (Str.ofString "error_leader") 1381), (Value.ref 853)⟩, ⟨PyData.keyHash P (Str.ofString "__iter__"), (Value.str (Str.ofString "__iter__") 1388), (Value.ref 860)⟩, ⟨PyData.keyHash P (Str.ofString "__next__"), (Value.str (Str.ofString "__next__") 1396), (Value.ref 867)⟩, ⟨PyData.keyHash P (Str.ofString "__static_attributes__"), (Value.str (Str.ofString "__static_attributes__") 1417), (Value.ref 868)⟩, ⟨PyData.keyHash P (Str.ofString "__dict__"), (Value.str (Str.ofString "__dict__") 1419), (Value.ref 871)⟩, ⟨PyData.keyHash P (Str.ofString "__weakref__"), (Value.str (Str.ofString "__weakref__") 1421), (Value.ref 872)⟩, ⟨PyData.keyHash P (Str.ofString "__doc__"), (Value.str (Str.ofString "__doc__") 1422), Value.none⟩]) 4), (List.toArray [])⟩
noncomputable def o554 (P : Params) : Obj := ⟨(Value.type "type"), none, (Data.cls ⟨(Str.ofString "shlex"), [(Value.type "object")], [(Value.ref 870), (Value.type "object")], 869, (Str.ofString "shlex"), true, [], [], false, none, false⟩), (List.toArray [none, none, (some (Value.str (Str.ofString "shlex") 1286)), (some (Value.str (Str.ofString "shlex") 1294)), (some (Value.builtin "object.__new__")), (some (Value.bool true))])⟩
noncomputable def o555 (P : Params) : Obj := ⟨(Value.type "getset_descriptor"), none, (Data.fields (List.toArray [(Value.str (Str.ofString "__dict__") 1418), (Value.ref 870), (Value.builtin "function.__dict__"), (Value.builtin "function.__dict__#set")])), (List.toArray [])⟩
noncomputable def o556 (P : Params) : Obj := ⟨(Value.type "getset_descriptor"), none, (Data.fields (List.toArray [(Value.str (Str.ofString "__weakref__") 1420), (Value.ref 870), (Value.builtin "ExceptionGroup.__weakref__"), Value.none])), (List.toArray [])⟩
noncomputable def o557 (P : Params) : Obj := ⟨(Value.type "super"), none, (Data.fields (List.toArray [(Value.ref 870), (Value.ref 870), (Value.ref 870)])), (List.toArray [])⟩
noncomputable def o558 (P : Params) : Obj := ⟨(Value.type "builtin_function_or_method"), none, (Data.fields (List.toArray [(Value.builtin "object.__init_subclass__"), (Value.ref 870)])), (List.toArray [])⟩
noncomputable def o559 (P : Params) : Obj := ⟨(Value.type "dict"), none, (.dict (List.toArray [⟨PyData.keyHash P (Str.ofString "__name__"), (Value.str (Str.ofString "__name__") 165), (Value.str (Str.ofString "law_ny0344_01") 1444)⟩, ⟨PyData.keyHash P (Str.ofString "__doc__"), (Value.str (Str.ofString "__doc__") 166), Value.none⟩, ⟨PyData.keyHash P (Str.ofString "__package__"), (Value.str (Str.ofString "__package__") 167), Value.none⟩, ⟨PyData.keyHash P (Str.ofString "__loader__"), (Value.str (Str.ofString "__loader__") 168), (Value.builtin "__main__.__loader__#\x6fpaque")⟩, ⟨PyData.keyHash P (Str.ofString "__spec__"), (Value.str (Str.ofString "__spec__") 169), Value.none⟩, ⟨PyData.keyHash P (Str.ofString "__annotations__"), (Value.str (Str.ofString "__annotations__") 170), (Value.ref 6)⟩, ⟨PyData.keyHash P (Str.ofString "__builtins__"), (Value.str (Str.ofString "__builtins__") 171), (Value.ref 4)⟩, ⟨PyData.keyHash P (Str.ofString "__file__"), (Value.str (Str.ofString "__file__") 173), (Value.str (Str.ofString "/claim/cut.py") 172)⟩, ⟨PyData.keyHash P (Str.ofString "__cached__"), (Value.str (Str.ofString "__cached__") 174), Value.none⟩, ⟨PyData.keyHash P (Str.ofString "_sre"), (Value.str (Str.ofString "_sre") 275), (Value.ref 12)⟩, ⟨PyData.keyHash P (Str.ofString "deque"), (Value.str (Str.ofString "deque") 317), (Value.type "collections.deque")⟩, ⟨PyData.keyHash P (Str.ofString "_wall"), (Value.str (Str.ofString "_wall") 330), (Value.ref 44)⟩, ⟨PyData.keyHash P (Str.ofString "Error"), (Value.str (Str.ofString "Error") 352), (Value.ref 54)⟩, ⟨PyData.keyHash P (Str.ofString "error_reply"), (Value.str (Str.ofString "error_reply") 368), (Value.ref 67)⟩, ⟨PyData.keyHash P (Str.ofString "error_proto"), (Value.str (Str.ofString "error_proto") 384), (Value.ref 79)⟩, ⟨PyData.keyHash P (Str.ofString "parse229"), (Value.str (Str.ofString "parse229") 397), (Value.ref 88)⟩, ⟨PyData.keyHash P (Str.ofString "_get_sep"), (Value.str (Str.ofString "_get_sep") 406), (Value.ref 95)⟩, ⟨PyData.keyHash P (Str.ofString "_plain_name"), (Value.str (Str.ofString "_plain_name") 417), (Value.ref 102)⟩, ⟨PyData.keyHash P (Str.ofString "ABCMeta"), (Value.str (Str.ofString "ABCMeta") 443), (Value.ref 119)⟩, ⟨PyData.keyHash P (Str.ofString "_ABCLike"), (Value.str (Str.ofString "_ABCLike") 486), (Value.ref 152)⟩, ⟨PyData.keyHash P (Str.ofString "_abc_plain_meta"), (Value.str (Str.ofString "_abc_plain_meta") 493), (Value.ref 161)⟩, ⟨PyData.keyHash P (Str.ofString "fspath"), (Value.str (Str.ofString "fspath") 505), (Value.ref 168)⟩, ⟨PyData.keyHash P (Str.ofString "basename"), (Value.str (Str.ofString "basename") 516), (Value.ref 175)⟩, ⟨PyData.keyHash P (Str.ofString "dirname"), (Value.str (Str.ofString "dirname") 526), (Value.ref 779)⟩, ⟨PyData.keyHash P (Str.ofString "dirname_posixpath"), (Value.str (Str.ofString "dirname_posixpath") 527), (Value.ref 182)⟩, ⟨PyData.keyHash P (Str.ofString "_twin_re_1"), (Value.str (Str.ofString "_twin_re_1") 567), (Value.ref 187)⟩, ⟨PyData.keyHash P (Str.ofString "_whence"), (Value.str (Str.ofString "_whence") 577), (Value.ref 194)⟩, ⟨PyData.keyHash P (Str.ofString "_index"), (Value.str (Str.ofString "_index") 585), (Value.ref 201)⟩, ⟨PyData.keyHash P (Str.ofString "UnsupportedOperation"), (Value.str (Str.ofString "UnsupportedOperation") 607), (Value.ref 211)⟩, ⟨PyData.keyHash P (Str.ofString "IOBase"), (Value.str (Str.ofString "IOBase") 639), (Value.ref 231)⟩, ⟨PyData.keyHash P (Str.ofString "BufferedIOBase"), (Value.str (Str.ofString "BufferedIOBase") 657), (Value.ref 246)⟩, ⟨PyData.keyHash P (Str.ofString "TextIOBase"), (Value.str (Str.ofString "TextIOBase") 675), (Value.ref 258)⟩, ⟨PyData.keyHash P (Str.ofString "BytesIO"), (Value.str (Str.ofString "BytesIO") 937), (Value.ref 488)⟩, ⟨PyData.keyHash P (Str.ofString "StringIO"), (Value.str (Str.ofString "StringIO") 1224), (Value.ref 735)⟩, ⟨PyData.keyHash P (Str.ofString "_kind"), (Value.str (Str.ofString "_kind") 1235), (Value.ref 744)⟩, ⟨PyData.keyHash P (Str.ofString "_fspath"), (Value.str (Str.ofString "_fspath") 1244), (Value.ref 751)⟩, ⟨PyData.keyHash P (Str.ofString "_check_arg_types"), (Value.str (Str.ofString "_check_arg_types") 1254), (Value.ref 758)⟩, ⟨PyData.keyHash P (Str.ofString "isabs"), (Value.str (Str.ofString "isabs") 1261), (Value.ref 765)⟩, ⟨PyData.keyHash P (Str.ofString "join"), (Value.str (Str.ofString "join") 1272), (Value.ref 772)⟩, ⟨PyData.keyHash P (Str.ofString "dirname_path"), (Value.str (Str.ofString "dirname_path") 1283), (Value.ref 779)⟩, ⟨PyData.keyHash P (Str.ofString "shlex"), (Value.str (Str.ofString "shlex") 1424), (Value.ref 870)⟩, ⟨PyData.keyHash P (Str.ofString "split"), (Value.str (Str.ofString "split") 1434), (Value.ref 882)⟩, ⟨PyData.keyHash P (Str.ofString "_find_unsafe"), (Value.str (Str.ofString "_find_unsafe") 1436), (Value.ref 883)⟩, ⟨PyData.keyHash P (Str.ofString "quote"), (Value.str (Str.ofString "quote") 1443), (Value.ref 890)⟩, ⟨PyData.keyHash P (Str.ofString "_law_sign"), (Value.str (Str.ofString "_law_sign") 1453), (Value.ref 897)⟩, ⟨PyData.keyHash P (Str.ofString "_law_mark"), (Value.str (Str.ofString "_law_mark") 1461), (Value.ref 904)⟩, ⟨PyData.keyHash P (Str.ofString "_law_fields"), (Value.str (Str.ofString "_law_fields") 1471), (Value.ref 911)⟩, ⟨PyData.keyHash P (Str.ofString "_law_climbed"), (Value.str (Str.ofString "_law_climbed") 1481), (Value.ref 918)⟩, ⟨PyData.keyHash P (Str.ofString "_law_told"), (Value.str (Str.ofString "_law_told") 1488), (Value.ref 925)⟩, ⟨PyData.keyHash P (Str.ofString "_law_due"), (Value.str (Str.ofString "_law_due") 1494), (Value.ref 930)⟩, ⟨PyData.keyHash P (Str.ofString "law"), (Value.str (Str.ofString "law") 1500), (Value.ref 935)⟩]) 51), (List.toArray [])⟩
noncomputable def o560 (P : Params) : Obj := ⟨Value.none, none, (Data.fields (List.toArray [(Value.int 3 0), (Value.int 0 0), (Value.ref 43), (Value.int 7 0), (Value.int 0 0), (Value.ref 50), (Value.int 9 0), (Value.int 0 0), (Value.ref 63), (Value.int 11 0), (Value.int 0 0), (Value.ref 75), (Value.int 13 0), (Value.int 0 0), (Value.ref 87), (Value.int 31 0), (Value.int 0 0), (Value.ref 94), (Value.int 37 0), (Value.int 0 0), (Value.ref 101), (Value.int 43 0), (Value.int 0 0), (Value.ref 108), (Value.int 48 0), (Value.int 0 0), (Value.ref 127), (Value.int 63 0), (Value.int 0 0), (Value.ref 160), (Value.int 67 0), (Value.int 0 0), (Value.ref 167), (Value.int 84 0), (Value.int 0 0), (Value.ref 174), (Value.int 89 0), (Value.int 0 0), (Value.ref 181), (Value.int 100 0), (Value.int 0 0), (Value.ref 193), (Value.int 105 0), (Value.int 0 0), (Value.ref 200), (Value.int 112 0), (Value.int 0 0), (Value.ref 207), (Value.int 114 0), (Value.int 0 0), (Value.ref 220), (Value.int 121 0), (Value.int 0 0), (Value.ref 242), (Value.int 123 0), (Value.int 0 0), (Value.ref 254), (Value.int 125 0), (Value.int 0 0), (Value.ref 266), (Value.int 295 0), (Value.int 0 0), (Value.ref 496), (Value.int 501 0), (Value.int 0 0), (Value.ref 743), (Value.int 522 0), (Value.int 0 0), (Value.ref 750), (Value.int 527 0), (Value.int 0 0), (Value.ref 757), (Value.int 532 0), (Value.int 0 0), (Value.ref 764), (Value.int 535 0), (Value.int 0 0), (Value.ref 771), (Value.int 555 0), (Value.int 0 0), (Value.ref 778), (Value.int 565 0), (Value.int 0 0), (Value.ref 785), (Value.int 817 0), (Value.int 0 0), (Value.ref 881), (Value.int 826 0), (Value.int 0 0), (Value.ref 889), (Value.int 833 0), (Value.int 0 0), (Value.ref 896), (Value.int 840 0), (Value.int 0 0), (Value.ref 903), (Value.int 843 0), (Value.int 0 0), (Value.ref 910), (Value.int 853 0), (Value.int 0 0), (Value.ref 917), (Value.int 862 0), (Value.int 0 0), (Value.ref 924), (Value.int 869 0), (Value.int 0 0), (Value.ref 929), (Value.int 880 0), (Value.int 0 0), (Value.ref 934)])), (List.toArray [])⟩
noncomputable def o561 (P : Params) : Obj := ⟨(Value.type "tuple"), none, (Data.seq (List.toArray [(Value.bool false), (Value.bool true)]) 0), (List.toArray [])⟩
noncomputable def o562 (P : Params) : Obj := ⟨(Value.type "tuple"), none, (Data.seq (List.toArray [(Value.str (Str.ofString "s") 1428), (Value.str (Str.ofString "comments") 1429), (Value.str (Str.ofString "posix") 1430), (Value.str (Str.ofString "lex") 1431)]) 0), (List.toArray [])⟩
noncomputable def o563 (P : Params) : Obj := ⟨Value.none, none, (.func ⟨(Str.ofString "split"), (Str.ofString "split"), (fA (stA 41)), .stmts (fB (stA 41)), (fS (stA 41)), 0, [], Value.none, Value.none, Value.none, Value.none, none, Value.none, Value.none, 0⟩), (List.toArray [])⟩
noncomputable def o564 (P : Params) : Obj := ⟨(Value.type "code"), none, (Data.fields (List.toArray [(Value.str (Str.ofString "split") 1425), (Value.str (Str.ofString "split") 1426), (Value.str (Str.ofString "/claim/cut.py") 1427), (Value.int 817 0), (Value.int 3 0), (Value.int 0 0), (Value.int 0 0), (Value.int 3 0), (Value.ref 876), (Value.bool true), (Value.int 318 0), (Value.ref 877), Value.none, (Value.ref 878), (Value.ref 879), (Value.ref 880), (Value.int 1432 0), (Value.int 817 0), (Value.str (Str.ofString "/claim/cut.py") 1433)])), (List.toArray [])⟩
noncomputable def o565 (P : Params) : Obj := ⟨(Value.type "function"), none, (.func ⟨(Str.ofString "split"), (Str.ofString "split"), as_882, .stmts bd_882, sc_882, 3, [], (Value.ref 875), Value.none, Value.none, (Value.str (Str.ofString "cpy313.shlex") 1284), none, (Value.ref 881), Value.none, 0⟩), (List.toArray [])⟩
noncomputable def o566 (P : Params) : Obj := ⟨(Value.type "builtin_function_or_method"), none, (Data.fields (List.toArray [(Value.builtin "re.Pattern.search"), (Value.ref 187)])), (List.toArray [])⟩
noncomputable def o567 (P : Params) : Obj := ⟨(Value.type "tuple"), none, (Data.seq (List.toArray [(Value.str (Str.ofString "s") 1440)]) 0), (List.toArray [])⟩
noncomputable def o568 (P : Params) : Obj := ⟨Value.none, none, (.func ⟨(Str.ofString "quote"), (Str.ofString "quote"), (fA (stA 43)), .stmts (fB (stA 43)), (fS (stA 43)), 0, [], Value.none, Value.none, Value.none, Value.none, none, Value.none, Value.none, 0⟩), (List.toArray [])⟩
noncomputable def o569 (P : Params) : Obj := ⟨(Value.type "code"), none, (Data.fields (List.toArray [(Value.str (Str.ofString "quote") 1437), (Value.str (Str.ofString "quote") 1438), (Value.str (Str.ofString "/claim/cut.py") 1439), (Value.int 826 0), (Value.int 1 0), (Value.int 0 0), (Value.int 0 0), (Value.int 3 0), (Value.ref 884), (Value.bool true), (Value.int 318 0), (Value.ref 885), Value.none, (Value.ref 886), (Value.ref 887), (Value.ref 888), (Value.int 1441 0), (Value.int 826 0), (Value.str (Str.ofString "/claim/cut.py") 1442)])), (List.toArray [])⟩
noncomputable def o570 (P : Params) : Obj := ⟨(Value.type "function"), none, (.func ⟨(Str.ofString "quote"), (Str.ofString "quote"), as_890, .stmts bd_890, sc_890, 3, [], Value.none, Value.none, Value.none, (Value.str (Str.ofString "cpy313.shlex") 1284), none, (Value.ref 889), Value.none, 0⟩), (List.toArray [])⟩
noncomputable def o571 (P : Params) : Obj := ⟨(Value.type "tuple"), none, (Data.seq (List.toArray [(Value.str (Str.ofString "number") 1449), (Value.str (Str.ofString "kind") 1450)]) 0), (List.toArray [])⟩
noncomputable def o572 (P : Params) : Obj := ⟨Value.none, none, (.func ⟨(Str.ofString "_law_sign"), (Str.ofString "_law_sign"), (fA (stA 45)), .stmts (fB (stA 45)), (fS (stA 45)), 0, [], Value.none, Value.none, Value.none, Value.none, none, Value.none, Value.none, 0⟩), (List.toArray [])⟩
noncomputable def o573 (P : Params) : Obj := ⟨(Value.type "code"), none, (Data.fields (List.toArray [(Value.str (Str.ofString "_law_sign") 1446), (Value.str (Str.ofString "_law_sign") 1447), (Value.str (Str.ofString "/claim/cut.py") 1448), (Value.int 833 0), (Value.int 1 0), (Value.int 0 0), (Value.int 0 0), (Value.int 3 0), (Value.ref 891), (Value.bool true), (Value.int 318 0), (Value.ref 892), Value.none, (Value.ref 893), (Value.ref 894), (Value.ref 895), (Value.int 1451 0), (Value.int 833 0), (Value.str (Str.ofString "/claim/cut.py") 1452)])), (List.toArray [])⟩
noncomputable def o574 (P : Params) : Obj := ⟨(Value.type "function"), none, (.func ⟨(Str.ofString "_law_sign"), (Str.ofString "_law_sign"), as_897, .stmts bd_897, sc_897, 3, [], Value.none, Value.none, Value.none, (Value.str (Str.ofString "law_ny0344_01") 1444), none, (Value.ref 896), Value.none, 0⟩), (List.toArray [])⟩
noncomputable def o575 (P : Params) : Obj := ⟨(Value.type "tuple"), none, (Data.seq (List.toArray [(Value.str (Str.ofString "number") 1457), (Value.str (Str.ofString "sign") 1458)]) 0), (List.toArray [])⟩
noncomputable def o576 (P : Params) : Obj := ⟨Value.none, none, (.func ⟨(Str.ofString "_law_mark"), (Str.ofString "_law_mark"), (fA (stA 46)), .stmts (fB (stA 46)), (fS (stA 46)), 0, [], Value.none, Value.none, Value.none, Value.none, none, Value.none, Value.none, 0⟩), (List.toArray [])⟩
noncomputable def o577 (P : Params) : Obj := ⟨(Value.type "code"), none, (Data.fields (List.toArray [(Value.str (Str.ofString "_law_mark") 1454), (Value.str (Str.ofString "_law_mark") 1455), (Value.str (Str.ofString "/claim/cut.py") 1456), (Value.int 840 0), (Value.int 1 0), (Value.int 0 0), (Value.int 0 0), (Value.int 3 0), (Value.ref 898), (Value.bool true), (Value.int 318 0), (Value.ref 899), Value.none, (Value.ref 900), (Value.ref 901), (Value.ref 902), (Value.int 1459 0), (Value.int 840 0), (Value.str (Str.ofString "/claim/cut.py") 1460)])), (List.toArray [])⟩
noncomputable def o578 (P : Params) : Obj := ⟨(Value.type "function"), none, (.func ⟨(Str.ofString "_law_mark"), (Str.ofString "_law_mark"), as_904, .stmts bd_904, sc_904, 3, [], Value.none, Value.none, Value.none, (Value.str (Str.ofString "law_ny0344_01") 1444), none, (Value.ref 903), Value.none, 0⟩), (List.toArray [])⟩
noncomputable def o579 (P : Params) : Obj := ⟨(Value.type "tuple"), none, (Data.seq (List.toArray [(Value.str (Str.ofString "row") 1465), (Value.str (Str.ofString "fields") 1466), (Value.str (Str.ofString "field") 1467), (Value.str (Str.ofString "sign") 1468)]) 0), (List.toArray [])⟩
noncomputable def o580 (P : Params) : Obj := ⟨Value.none, none, (.func ⟨(Str.ofString "_law_fields"), (Str.ofString "_law_fields"), (fA (stA 47)), .stmts (fB (stA 47)), (fS (stA 47)), 0, [], Value.none, Value.none, Value.none, Value.none, none, Value.none, Value.none, 0⟩), (List.toArray [])⟩
noncomputable def o581 (P : Params) : Obj := ⟨(Value.type "code"), none, (Data.fields (List.toArray [(Value.str (Str.ofString "_law_fields") 1462), (Value.str (Str.ofString "_law_fields") 1463), (Value.str (Str.ofString "/claim/cut.py") 1464), (Value.int 843 0), (Value.int 1 0), (Value.int 0 0), (Value.int 0 0), (Value.int 3 0), (Value.ref 905), (Value.bool true), (Value.int 318 0), (Value.ref 906), Value.none, (Value.ref 907), (Value.ref 908), (Value.ref 909), (Value.int 1469 0), (Value.int 843 0), (Value.str (Str.ofString "/claim/cut.py") 1470)])), (List.toArray [])⟩
noncomputable def o582 (P : Params) : Obj := ⟨(Value.type "function"), none, (.func ⟨(Str.ofString "_law_fields"), (Str.ofString "_law_fields"), as_911, .stmts bd_911, sc_911, 3, [], Value.none, Value.none, Value.none, (Value.str (Str.ofString "law_ny0344_01") 1444), none, (Value.ref 910), Value.none, 0⟩), (List.toArray [])⟩
noncomputable def o583 (P : Params) : Obj := ⟨(Value.type "tuple"), none, (Data.seq (List.toArray [(Value.str (Str.ofString "path") 1475), (Value.str (Str.ofString "names") 1476), (Value.str (Str.ofString "turn") 1477), (Value.str (Str.ofString "name") 1478)]) 0), (List.toArray [])⟩
noncomputable def o584 (P : Params) : Obj := ⟨Value.none, none, (.func ⟨(Str.ofString "_law_climbed"), (Str.ofString "_law_climbed"), (fA (stA 48)), .stmts (fB (stA 48)), (fS (stA 48)), 0, [], Value.none, Value.none, Value.none, Value.none, none, Value.none, Value.none, 0⟩), (List.toArray [])⟩
noncomputable def o585 (P : Params) : Obj := ⟨(Value.type "code"), none, (Data.fields (List.toArray [(Value.str (Str.ofString "_law_climbed") 1472), (Value.str (Str.ofString "_law_climbed") 1473), (Value.str (Str.ofString "/claim/cut.py") 1474), (Value.int 853 0), (Value.int 1 0), (Value.int 0 0), (Value.int 0 0), (Value.int 3 0), (Value.ref 912), (Value.bool true), (Value.int 318 0), (Value.ref 913), Value.none, (Value.ref 914), (Value.ref 915), (Value.ref 916), (Value.int 1479 0), (Value.int 853 0), (Value.str (Str.ofString "/claim/cut.py") 1480)])), (List.toArray [])⟩
noncomputable def o586 (P : Params) : Obj := ⟨(Value.type "function"), none, (.func ⟨(Str.ofString "_law_climbed"), (Str.ofString "_law_climbed"), as_918, .stmts bd_918, sc_918, 3, [], Value.none, Value.none, Value.none, (Value.str (Str.ofString "law_ny0344_01") 1444), none, (Value.ref 917), Value.none, 0⟩), (List.toArray [])⟩
noncomputable def o587 (P : Params) : Obj := ⟨(Value.type "tuple"), none, (Data.seq (List.toArray [(Value.str (Str.ofString "inside") 1485)]) 0), (List.toArray [])⟩
noncomputable def o588 (P : Params) : Obj := ⟨Value.none, none, (.func ⟨(Str.ofString "_law_told"), (Str.ofString "_law_told"), (fA (stA 49)), .stmts (fB (stA 49)), (fS (stA 49)), 0, [], Value.none, Value.none, Value.none, Value.none, none, Value.none, Value.none, 0⟩), (List.toArray [])⟩
noncomputable def o589 (P : Params) : Obj := ⟨(Value.type "code"), none, (Data.fields (List.toArray [(Value.str (Str.ofString "_law_told") 1482), (Value.str (Str.ofString "_law_told") 1483), (Value.str (Str.ofString "/claim/cut.py") 1484), (Value.int 862 0), (Value.int 1 0), (Value.int 0 0), (Value.int 0 0), (Value.int 3 0), (Value.ref 919), (Value.bool true), (Value.int 318 0), (Value.ref 920), Value.none, (Value.ref 921), (Value.ref 922), (Value.ref 923), (Value.int 1486 0), (Value.int 862 0), (Value.str (Str.ofString "/claim/cut.py") 1487)])), (List.toArray [])⟩
noncomputable def o590 (P : Params) : Obj := ⟨(Value.type "function"), none, (.func ⟨(Str.ofString "_law_told"), (Str.ofString "_law_told"), as_925, .stmts bd_925, sc_925, 3, [], Value.none, Value.none, Value.none, (Value.str (Str.ofString "law_ny0344_01") 1444), none, (Value.ref 924), Value.none, 0⟩), (List.toArray [])⟩
noncomputable def o591 (P : Params) : Obj := ⟨Value.none, none, (.func ⟨(Str.ofString "_law_due"), (Str.ofString "_law_due"), (fA (stA 50)), .stmts (fB (stA 50)), (fS (stA 50)), 0, [], Value.none, Value.none, Value.none, Value.none, none, Value.none, Value.none, 0⟩), (List.toArray [])⟩
noncomputable def o592 (P : Params) : Obj := ⟨(Value.type "code"), none, (Data.fields (List.toArray [(Value.str (Str.ofString "_law_due") 1489), (Value.str (Str.ofString "_law_due") 1490), (Value.str (Str.ofString "/claim/cut.py") 1491), (Value.int 869 0), (Value.int 2 0), (Value.int 0 0), (Value.int 0 0), (Value.int 3 0), (Value.ref 926), (Value.bool true), (Value.int 318 0), (Value.ref 927), Value.none, Value.none, Value.none, (Value.ref 928), (Value.int 1492 0), (Value.int 869 0), (Value.str (Str.ofString "/claim/cut.py") 1493)])), (List.toArray [])⟩
noncomputable def o593 (P : Params) : Obj := ⟨(Value.type "function"), none, (.func ⟨(Str.ofString "_law_due"), (Str.ofString "_law_due"), as_930, .stmts bd_930, sc_930, 3, [], Value.none, Value.none, Value.none, (Value.str (Str.ofString "law_ny0344_01") 1444), none, (Value.ref 929), Value.none, 0⟩), (List.toArray [])⟩
noncomputable def o594 (P : Params) : Obj := ⟨Value.none, none, (.func ⟨(Str.ofString "law"), (Str.ofString "law"), (fA (stA 51)), .stmts (fB (stA 51)), (fS (stA 51)), 0, [], Value.none, Value.none, Value.none, Value.none, none, Value.none, Value.none, 0⟩), (List.toArray [])⟩
noncomputable def o595 (P : Params) : Obj := ⟨(Value.type "code"), none, (Data.fields (List.toArray [(Value.str (Str.ofString "law") 1495), (Value.str (Str.ofString "law") 1496), (Value.str (Str.ofString "/claim/cut.py") 1497), (Value.int 880 0), (Value.int 1 0), (Value.int 0 0), (Value.int 0 0), (Value.int 3 0), (Value.ref 931), (Value.bool true), (Value.int 318 0), (Value.ref 932), Value.none, Value.none, Value.none, (Value.ref 933), (Value.int 1498 0), (Value.int 880 0), (Value.str (Str.ofString "/claim/cut.py") 1499)])), (List.toArray [])⟩
noncomputable def o596 (P : Params) : Obj := ⟨(Value.type "function"), none, (.func ⟨(Str.ofString "law"), (Str.ofString "law"), as_935, .stmts bd_935, sc_935, 3, [], Value.none, Value.none, Value.none, (Value.str (Str.ofString "law_ny0344_01") 1444), none, (Value.ref 934), Value.none, 0⟩), (List.toArray [])⟩
noncomputable def trb (P : Params) : BT := (.node (o0 P) (.node (o1 P) (.node (o3 P) (.node (o7 P) (.node (o7 P) (.node (o18 P) .nil .nil) .nil) (.node (o22 P) .nil .nil)) (.node (o32 P) (.node (o18 P) (.node (o8 P) .nil .nil) .nil) (.node (o26 P) .nil .nil))) (.node (o5 P) (.node (o9 P) (.node (o16 P) (.node (o31 P) .nil .nil) .nil) (.node (o24 P) .nil .nil)) (.node (o13 P) (.node (o20 P) (.node (o35 P) .nil .nil) .nil) (.node (o33 P) .nil .nil)))) (.node (o2 P) (.node (o4 P) (.node (o8 P) (.node (o15 P) (.node (o30 P) .nil .nil) .nil) (.node (o23 P) .nil .nil)) (.node (o12 P) (.node (o19 P) (.node (o34 P) .nil .nil) .nil) (.node (o27 P) .nil .nil))) (.node (o6 P) (.node (o10 P) (.node (o17 P) (.node (o7 P) .nil .nil) .nil) (.node (o25 P) .nil .nil)) (.node (o14 P) (.node (o21 P) .nil .nil) (.node (o29 P) .nil .nil)))))
noncomputable def tr14 (P : Params) : BT := (.node (o0 P) (.node (o1 P) (.node (o37 P) (.node (o7 P) (.node (o7 P) (.node (o18 P) (.node (o55 P) (.node (o96 P) .nil .nil) .nil) (.node (o75 P) .nil .nil)) (.node (o45 P) (.node (o65 P) (.node (o7 P) .nil .nil) .nil) (.node (o8 P) .nil .nil))) (.node (o22 P) (.node (o8 P) (.node (o44 P) (.node (o101 P) .nil .nil) .nil) (.node (o80 P) .nil .nil)) (.node (o50 P) (.node (o70 P) (.node (o110 P) .nil .nil) .nil) (.node (o90 P) .nil .nil)))) (.node (o32 P) (.node (o18 P) (.node (o38 P) (.node (o58 P) (.node (o98 P) .nil .nil) .nil) (.node (o7 P) .nil .nil)) (.node (o47 P) (.node (o8 P) (.node (o107 P) .nil .nil) .nil) (.node (o87 P) .nil .nil))) (.node (o26 P) (.node (o41 P) (.node (o62 P) (.node (o7 P) .nil .nil) .nil) (.node (o82 P) .nil .nil)) (.node (o44 P) (.node (o72 P) .nil .nil) (.node (o44 P) .nil .nil))))) (.node (o5 P) (.node (o9 P) (.node (o16 P) (.node (o31 P) (.node (o7 P) (.node (o7 P) .nil .nil) .nil) (.node (o8 P) .nil .nil)) (.node (o8 P) (.node (o67 P) (.node (o106 P) .nil .nil) .nil) (.node (o7 P) .nil .nil))) (.node (o24 P) (.node (o7 P) (.node (o7 P) (.node (o8 P) .nil .nil) .nil) (.node (o81 P) .nil .nil)) (.node (o52 P) (.node (o7 P) (.node (o112 P) .nil .nil) .nil) (.node (o92 P) .nil .nil)))) (.node (o13 P) (.node (o20 P) (.node (o35 P) (.node (o60 P) (.node (o99 P) .nil .nil) .nil) (.node (o78 P) .nil .nil)) (.node (o48 P) (.node (o7 P) (.node (o109 P) .nil .nil) .nil) (.node (o7 P) .nil .nil))) (.node (o33 P) (.node (o43 P) (.node (o7 P) (.node (o104 P) .nil .nil) .nil) (.node (o84 P) .nil .nil)) (.node (o7 P) (.node (o73 P) .nil .nil) (.node (o7 P) .nil .nil)))))) (.node (o36 P) (.node (o4 P) (.node (o8 P) (.node (o15 P) (.node (o30 P) (.node (o56 P) (.node (o97 P) .nil .nil) .nil) (.node (o7 P) .nil .nil)) (.node (o7 P) (.node (o66 P) (.node (o8 P) .nil .nil) .nil) (.node (o85 P) .nil .nil))) (.node (o23 P) (.node (o39 P) (.node (o61 P) (.node (o7 P) .nil .nil) .nil) (.node (o44 P) .nil .nil)) (.node (o51 P) (.node (o71 P) (.node (o111 P) .nil .nil) .nil) (.node (o91 P) .nil .nil)))) (.node (o12 P) (.node (o19 P) (.node (o34 P) (.node (o59 P) (.node (o7 P) .nil .nil) .nil) (.node (o77 P) .nil .nil)) (.node (o7 P) (.node (o68 P) (.node (o108 P) .nil .nil) .nil) (.node (o88 P) .nil .nil))) (.node (o27 P) (.node (o42 P) (.node (o63 P) (.node (o103 P) .nil .nil) .nil) (.node (o83 P) .nil .nil)) (.node (o54 P) (.node (o7 P) .nil .nil) (.node (o94 P) .nil .nil))))) (.node (o6 P) (.node (o10 P) (.node (o17 P) (.node (o7 P) (.node (o57 P) (.node (o8 P) .nil .nil) .nil) (.node (o76 P) .nil .nil)) (.node (o46 P) (.node (o7 P) (.node (o7 P) .nil .nil) .nil) (.node (o86 P) .nil .nil))) (.node (o25 P) (.node (o40 P) (.node (o8 P) (.node (o102 P) .nil .nil) .nil) (.node (o7 P) .nil .nil)) (.node (o53 P) (.node (o8 P) (.node (o113 P) .nil .nil) .nil) (.node (o93 P) .nil .nil)))) (.node (o14 P) (.node (o21 P) (.node (o7 P) (.node (o53 P) (.node (o100 P) .nil .nil) .nil) (.node (o79 P) .nil .nil)) (.node (o49 P) (.node (o69 P) (.node (o7 P) .nil .nil) .nil) (.node (o89 P) .nil .nil))) (.node (o29 P) (.node (o44 P) (.node (o64 P) (.node (o105 P) .nil .nil) .nil) (.node (o7 P) .nil .nil)) (.node (o8 P) (.node (o74 P) .nil .nil) (.node (o95 P) .nil .nil)))))))
noncomputable def tr29 (P : Params) : BT := (.node (o0 P) (.node (o1 P) (.node (o115 P) (.node (o7 P) (.node (o7 P) (.node (o18 P) (.node (o55 P) (.node (o96 P) (.node (o179 P) .nil .nil) .nil) (.node (o7 P) .nil .nil)) (.node (o75 P) (.node (o118 P) .nil .nil) (.node (o8 P) .nil .nil))) (.node (o45 P) (.node (o65 P) (.node (o7 P) .nil .nil) (.node (o147 P) .nil .nil)) (.node (o8 P) (.node (o128 P) .nil .nil) (.node (o170 P) .nil .nil)))) (.node (o22 P) (.node (o8 P) (.node (o44 P) (.node (o101 P) .nil .nil) (.node (o142 P) .nil .nil)) (.node (o80 P) (.node (o123 P) .nil .nil) (.node (o163 P) .nil .nil))) (.node (o50 P) (.node (o70 P) (.node (o110 P) .nil .nil) (.node (o7 P) .nil .nil)) (.node (o90 P) (.node (o133 P) .nil .nil) (.node (o175 P) .nil .nil))))) (.node (o32 P) (.node (o18 P) (.node (o116 P) (.node (o58 P) (.node (o98 P) (.node (o182 P) .nil .nil) .nil) (.node (o7 P) .nil .nil)) (.node (o7 P) (.node (o8 P) .nil .nil) (.node (o160 P) .nil .nil))) (.node (o47 P) (.node (o8 P) (.node (o107 P) .nil .nil) (.node (o150 P) .nil .nil)) (.node (o87 P) (.node (o7 P) .nil .nil) (.node (o172 P) .nil .nil)))) (.node (o26 P) (.node (o41 P) (.node (o62 P) (.node (o7 P) .nil .nil) (.node (o44 P) .nil .nil)) (.node (o82 P) (.node (o125 P) .nil .nil) (.node (o167 P) .nil .nil))) (.node (o44 P) (.node (o72 P) (.node (o7 P) .nil .nil) (.node (o155 P) .nil .nil)) (.node (o44 P) (.node (o136 P) .nil .nil) (.node (o177 P) .nil .nil)))))) (.node (o5 P) (.node (o9 P) (.node (o16 P) (.node (o31 P) (.node (o7 P) (.node (o7 P) (.node (o180 P) .nil .nil) .nil) (.node (o139 P) .nil .nil)) (.node (o8 P) (.node (o120 P) .nil .nil) (.node (o7 P) .nil .nil))) (.node (o8 P) (.node (o67 P) (.node (o106 P) .nil .nil) (.node (o7 P) .nil .nil)) (.node (o7 P) (.node (o8 P) .nil .nil) (.node (o8 P) .nil .nil)))) (.node (o24 P) (.node (o7 P) (.node (o7 P) (.node (o8 P) .nil .nil) (.node (o144 P) .nil .nil)) (.node (o81 P) (.node (o7 P) .nil .nil) (.node (o165 P) .nil .nil))) (.node (o52 P) (.node (o7 P) (.node (o112 P) .nil .nil) (.node (o154 P) .nil .nil)) (.node (o92 P) (.node (o134 P) .nil .nil) (.node (o169 P) .nil .nil))))) (.node (o13 P) (.node (o20 P) (.node (o35 P) (.node (o60 P) (.node (o99 P) .nil .nil) (.node (o141 P) .nil .nil)) (.node (o78 P) (.node (o7 P) .nil .nil) (.node (o7 P) .nil .nil))) (.node (o48 P) (.node (o7 P) (.node (o109 P) .nil .nil) (.node (o152 P) .nil .nil)) (.node (o7 P) (.node (o131 P) .nil .nil) (.node (o173 P) .nil .nil)))) (.node (o33 P) (.node (o43 P) (.node (o7 P) (.node (o104 P) .nil .nil) (.node (o7 P) .nil .nil)) (.node (o84 P) (.node (o126 P) .nil .nil) (.node (o169 P) .nil .nil))) (.node (o7 P) (.node (o73 P) (.node (o117 P) .nil .nil) (.node (o157 P) .nil .nil)) (.node (o7 P) (.node (o8 P) .nil .nil) (.node (o8 P) .nil .nil))))))) (.node (o114 P) (.node (o4 P) (.node (o8 P) (.node (o15 P) (.node (o30 P) (.node (o56 P) (.node (o97 P) (.node (o7 P) .nil .nil) .nil) (.node (o138 P) .nil .nil)) (.node (o7 P) (.node (o119 P) .nil .nil) (.node (o158 P) .nil .nil))) (.node (o7 P) (.node (o66 P) (.node (o8 P) .nil .nil) (.node (o148 P) .nil .nil)) (.node (o85 P) (.node (o7 P) .nil .nil) (.node (o7 P) .nil .nil)))) (.node (o23 P) (.node (o39 P) (.node (o61 P) (.node (o7 P) .nil .nil) (.node (o143 P) .nil .nil)) (.node (o44 P) (.node (o124 P) .nil .nil) (.node (o164 P) .nil .nil))) (.node (o51 P) (.node (o71 P) (.node (o111 P) .nil .nil) (.node (o44 P) .nil .nil)) (.node (o91 P) (.node (o6 P) .nil .nil) (.node (o176 P) .nil .nil))))) (.node (o12 P) (.node (o19 P) (.node (o34 P) (.node (o59 P) (.node (o7 P) (.node (o183 P) .nil .nil) .nil) (.node (o8 P) .nil .nil)) (.node (o77 P) (.node (o121 P) .nil .nil) (.node (o161 P) .nil .nil))) (.node (o7 P) (.node (o68 P) (.node (o108 P) .nil .nil) (.node (o151 P) .nil .nil)) (.node (o88 P) (.node (o130 P) .nil .nil) (.node (o7 P) .nil .nil)))) (.node (o27 P) (.node (o42 P) (.node (o63 P) (.node (o103 P) .nil .nil) (.node (o146 P) .nil .nil)) (.node (o83 P) (.node (o7 P) .nil .nil) (.node (o168 P) .nil .nil))) (.node (o54 P) (.node (o7 P) (.node (o8 P) .nil .nil) (.node (o156 P) .nil .nil)) (.node (o94 P) (.node (o7 P) .nil .nil) (.node (o7 P) .nil .nil)))))) (.node (o6 P) (.node (o10 P) (.node (o17 P) (.node (o7 P) (.node (o57 P) (.node (o8 P) (.node (o181 P) .nil .nil) .nil) (.node (o140 P) .nil .nil)) (.node (o76 P) (.node (o7 P) .nil .nil) (.node (o159 P) .nil .nil))) (.node (o46 P) (.node (o7 P) (.node (o7 P) .nil .nil) (.node (o149 P) .nil .nil)) (.node (o86 P) (.node (o129 P) .nil .nil) (.node (o171 P) .nil .nil)))) (.node (o25 P) (.node (o40 P) (.node (o8 P) (.node (o102 P) .nil .nil) (.node (o145 P) .nil .nil)) (.node (o7 P) (.node (o8 P) .nil .nil) (.node (o166 P) .nil .nil))) (.node (o53 P) (.node (o8 P) (.node (o113 P) .nil .nil) (.node (o7 P) .nil .nil)) (.node (o93 P) (.node (o135 P) .nil .nil) (.node (o44 P) .nil .nil))))) (.node (o14 P) (.node (o21 P) (.node (o7 P) (.node (o53 P) (.node (o100 P) .nil .nil) (.node (o7 P) .nil .nil)) (.node (o79 P) (.node (o122 P) .nil .nil) (.node (o162 P) .nil .nil))) (.node (o49 P) (.node (o69 P) (.node (o7 P) .nil .nil) (.node (o153 P) .nil .nil)) (.node (o89 P) (.node (o132 P) .nil .nil) (.node (o174 P) .nil .nil)))) (.node (o29 P) (.node (o44 P) (.node (o64 P) (.node (o105 P) .nil .nil) (.node (o8 P) .nil .nil)) (.node (o7 P) (.node (o127 P) .nil .nil) (.node (o44 P) .nil .nil))) (.node (o8 P) (.node (o74 P) (.node (o7 P) .nil .nil) (.node (o7 P) .nil .nil)) (.node (o95 P) (.node (o137 P) .nil .nil) (.node (o178 P) .nil .nil))))))))
noncomputable def tr30 (P : Params) : BT := (.node (o0 P) (.node (o1 P) (.node (o184 P) (.node (o7 P) (.node (o7 P) (.node (o18 P) (.node (o55 P) (.node (o96 P) (.node (o179 P) .nil .nil) (.node (o8 P) .nil .nil)) (.node (o7 P) (.node (o7 P) .nil .nil) (.node (o7 P) .nil .nil))) (.node (o75 P) (.node (o118 P) (.node (o201 P) .nil .nil) (.node (o8 P) .nil .nil)) (.node (o8 P) (.node (o238 P) .nil .nil) (.node (o7 P) .nil .nil)))) (.node (o45 P) (.node (o65 P) (.node (o7 P) (.node (o192 P) .nil .nil) (.node (o8 P) .nil .nil)) (.node (o147 P) (.node (o229 P) .nil .nil) (.node (o303 P) .nil .nil))) (.node (o8 P) (.node (o128 P) (.node (o211 P) .nil .nil) (.node (o7 P) .nil .nil)) (.node (o170 P) (.node (o248 P) .nil .nil) .nil)))) (.node (o22 P) (.node (o8 P) (.node (o44 P) (.node (o101 P) (.node (o188 P) .nil .nil) (.node (o8 P) .nil .nil)) (.node (o142 P) (.node (o8 P) .nil .nil) (.node (o298 P) .nil .nil))) (.node (o80 P) (.node (o123 P) (.node (o206 P) .nil .nil) (.node (o280 P) .nil .nil)) (.node (o163 P) (.node (o243 P) .nil .nil) (.node (o318 P) .nil .nil)))) (.node (o50 P) (.node (o70 P) (.node (o110 P) (.node (o7 P) .nil .nil) (.node (o8 P) .nil .nil)) (.node (o7 P) (.node (o7 P) .nil .nil) (.node (o308 P) .nil .nil))) (.node (o90 P) (.node (o133 P) (.node (o216 P) .nil .nil) (.node (o7 P) .nil .nil)) (.node (o175 P) (.node (o7 P) .nil .nil) .nil))))) (.node (o32 P) (.node (o18 P) (.node (o185 P) (.node (o58 P) (.node (o98 P) (.node (o182 P) .nil .nil) (.node (o259 P) .nil .nil)) (.node (o7 P) (.node (o222 P) .nil .nil) (.node (o7 P) .nil .nil))) (.node (o7 P) (.node (o8 P) (.node (o8 P) .nil .nil) (.node (o278 P) .nil .nil)) (.node (o160 P) (.node (o8 P) .nil .nil) (.node (o314 P) .nil .nil)))) (.node (o47 P) (.node (o8 P) (.node (o107 P) (.node (o195 P) .nil .nil) (.node (o268 P) .nil .nil)) (.node (o150 P) (.node (o232 P) .nil .nil) (.node (o305 P) .nil .nil))) (.node (o87 P) (.node (o7 P) (.node (o213 P) .nil .nil) (.node (o288 P) .nil .nil)) (.node (o172 P) (.node (o7 P) .nil .nil) .nil)))) (.node (o26 P) (.node (o41 P) (.node (o62 P) (.node (o7 P) (.node (o191 P) .nil .nil) (.node (o264 P) .nil .nil)) (.node (o44 P) (.node (o227 P) .nil .nil) (.node (o8 P) .nil .nil))) (.node (o82 P) (.node (o125 P) (.node (o8 P) .nil .nil) (.node (o283 P) .nil .nil)) (.node (o167 P) (.node (o245 P) .nil .nil) .nil))) (.node (o44 P) (.node (o72 P) (.node (o7 P) (.node (o7 P) .nil .nil) (.node (o273 P) .nil .nil)) (.node (o155 P) (.node (o7 P) .nil .nil) (.node (o7 P) .nil .nil))) (.node (o44 P) (.node (o136 P) (.node (o7 P) .nil .nil) (.node (o134 P) .nil .nil)) (.node (o177 P) (.node (o254 P) .nil .nil) .nil)))))) (.node (o5 P) (.node (o9 P) (.node (o16 P) (.node (o31 P) (.node (o7 P) (.node (o7 P) (.node (o180 P) .nil .nil) (.node (o7 P) .nil .nil)) (.node (o139 P) (.node (o221 P) .nil .nil) (.node (o295 P) .nil .nil))) (.node (o8 P) (.node (o120 P) (.node (o203 P) .nil .nil) (.node (o7 P) .nil .nil)) (.node (o7 P) (.node (o240 P) .nil .nil) (.node (o313 P) .nil .nil)))) (.node (o8 P) (.node (o67 P) (.node (o106 P) (.node (o193 P) .nil .nil) (.node (o7 P) .nil .nil)) (.node (o7 P) (.node (o230 P) .nil .nil) (.node (o7 P) .nil .nil))) (.node (o7 P) (.node (o8 P) (.node (o7 P) .nil .nil) (.node (o286 P) .nil .nil)) (.node (o8 P) (.node (o8 P) .nil .nil) .nil)))) (.node (o24 P) (.node (o7 P) (.node (o7 P) (.node (o8 P) (.node (o189 P) .nil .nil) (.node (o7 P) .nil .nil)) (.node (o144 P) (.node (o7 P) .nil .nil) (.node (o300 P) .nil .nil))) (.node (o81 P) (.node (o7 P) (.node (o208 P) .nil .nil) (.node (o281 P) .nil .nil)) (.node (o165 P) (.node (o7 P) .nil .nil) (.node (o320 P) .nil .nil)))) (.node (o52 P) (.node (o7 P) (.node (o112 P) (.node (o198 P) .nil .nil) (.node (o7 P) .nil .nil)) (.node (o154 P) (.node (o235 P) .nil .nil) (.node (o8 P) .nil .nil))) (.node (o92 P) (.node (o134 P) (.node (o8 P) .nil .nil) (.node (o291 P) .nil .nil)) (.node (o169 P) (.node (o253 P) .nil .nil) .nil))))) (.node (o13 P) (.node (o20 P) (.node (o35 P) (.node (o60 P) (.node (o99 P) (.node (o187 P) .nil .nil) (.node (o261 P) .nil .nil)) (.node (o141 P) (.node (o224 P) .nil .nil) (.node (o297 P) .nil .nil))) (.node (o78 P) (.node (o7 P) (.node (o7 P) .nil .nil) (.node (o7 P) .nil .nil)) (.node (o7 P) (.node (o7 P) .nil .nil) (.node (o316 P) .nil .nil)))) (.node (o48 P) (.node (o7 P) (.node (o109 P) (.node (o8 P) .nil .nil) (.node (o270 P) .nil .nil)) (.node (o152 P) (.node (o8 P) .nil .nil) (.node (o306 P) .nil .nil))) (.node (o7 P) (.node (o131 P) (.node (o214 P) .nil .nil) (.node (o8 P) .nil .nil)) (.node (o173 P) (.node (o251 P) .nil .nil) .nil)))) (.node (o33 P) (.node (o43 P) (.node (o7 P) (.node (o104 P) (.node (o7 P) .nil .nil) (.node (o134 P) .nil .nil)) (.node (o7 P) (.node (o7 P) .nil .nil) (.node (o7 P) .nil .nil))) (.node (o84 P) (.node (o126 P) (.node (o7 P) .nil .nil) (.node (o8 P) .nil .nil)) (.node (o169 P) (.node (o246 P) .nil .nil) .nil))) (.node (o7 P) (.node (o73 P) (.node (o117 P) (.node (o200 P) .nil .nil) (.node (o275 P) .nil .nil)) (.node (o157 P) (.node (o237 P) .nil .nil) (.node (o311 P) .nil .nil))) (.node (o7 P) (.node (o8 P) (.node (o219 P) .nil .nil) (.node (o8 P) .nil .nil)) (.node (o8 P) (.node (o256 P) .nil .nil) .nil))))))) (.node (o114 P) (.node (o4 P) (.node (o8 P) (.node (o15 P) (.node (o30 P) (.node (o56 P) (.node (o97 P) (.node (o7 P) .nil .nil) (.node (o257 P) .nil .nil)) (.node (o138 P) (.node (o8 P) .nil .nil) (.node (o294 P) .nil .nil))) (.node (o7 P) (.node (o119 P) (.node (o202 P) .nil .nil) (.node (o276 P) .nil .nil)) (.node (o158 P) (.node (o239 P) .nil .nil) (.node (o8 P) .nil .nil)))) (.node (o7 P) (.node (o66 P) (.node (o8 P) (.node (o7 P) .nil .nil) (.node (o266 P) .nil .nil)) (.node (o148 P) (.node (o7 P) .nil .nil) (.node (o304 P) .nil .nil))) (.node (o85 P) (.node (o7 P) (.node (o212 P) .nil .nil) (.node (o285 P) .nil .nil)) (.node (o7 P) (.node (o7 P) .nil .nil) .nil)))) (.node (o23 P) (.node (o39 P) (.node (o61 P) (.node (o7 P) (.node (o7 P) .nil .nil) (.node (o262 P) .nil .nil)) (.node (o143 P) (.node (o225 P) .nil .nil) (.node (o299 P) .nil .nil))) (.node (o44 P) (.node (o124 P) (.node (o207 P) .nil .nil) (.node (o7 P) .nil .nil)) (.node (o164 P) (.node (o244 P) .nil .nil) (.node (o319 P) .nil .nil)))) (.node (o51 P) (.node (o71 P) (.node (o111 P) (.node (o197 P) .nil .nil) (.node (o271 P) .nil .nil)) (.node (o44 P) (.node (o234 P) .nil .nil) (.node (o7 P) .nil .nil))) (.node (o91 P) (.node (o6 P) (.node (o7 P) .nil .nil) (.node (o290 P) .nil .nil)) (.node (o176 P) (.node (o8 P) .nil .nil) .nil))))) (.node (o12 P) (.node (o19 P) (.node (o34 P) (.node (o59 P) (.node (o7 P) (.node (o183 P) .nil .nil) (.node (o260 P) .nil .nil)) (.node (o8 P) (.node (o223 P) .nil .nil) (.node (o8 P) .nil .nil))) (.node (o77 P) (.node (o121 P) (.node (o204 P) .nil .nil) (.node (o279 P) .nil .nil)) (.node (o161 P) (.node (o241 P) .nil .nil) (.node (o315 P) .nil .nil)))) (.node (o7 P) (.node (o68 P) (.node (o108 P) (.node (o7 P) .nil .nil) (.node (o269 P) .nil .nil)) (.node (o151 P) (.node (o7 P) .nil .nil) (.node (o7 P) .nil .nil))) (.node (o88 P) (.node (o130 P) (.node (o7 P) .nil .nil) (.node (o7 P) .nil .nil)) (.node (o7 P) (.node (o250 P) .nil .nil) .nil)))) (.node (o27 P) (.node (o42 P) (.node (o63 P) (.node (o103 P) (.node (o134 P) .nil .nil) (.node (o265 P) .nil .nil)) (.node (o146 P) (.node (o228 P) .nil .nil) (.node (o301 P) .nil .nil))) (.node (o83 P) (.node (o7 P) (.node (o209 P) .nil .nil) (.node (o7 P) .nil .nil)) (.node (o168 P) (.node (o7 P) .nil .nil) .nil))) (.node (o54 P) (.node (o7 P) (.node (o8 P) (.node (o8 P) .nil .nil) (.node (o274 P) .nil .nil)) (.node (o156 P) (.node (o8 P) .nil .nil) (.node (o310 P) .nil .nil))) (.node (o94 P) (.node (o7 P) (.node (o218 P) .nil .nil) (.node (o7 P) .nil .nil)) (.node (o7 P) (.node (o255 P) .nil .nil) .nil)))))) (.node (o6 P) (.node (o10 P) (.node (o17 P) (.node (o7 P) (.node (o57 P) (.node (o8 P) (.node (o181 P) .nil .nil) (.node (o258 P) .nil .nil)) (.node (o140 P) (.node (o7 P) .nil .nil) (.node (o296 P) .nil .nil))) (.node (o76 P) (.node (o7 P) (.node (o7 P) .nil .nil) (.node (o277 P) .nil .nil)) (.node (o159 P) (.node (o7 P) .nil .nil) (.node (o7 P) .nil .nil)))) (.node (o46 P) (.node (o7 P) (.node (o7 P) (.node (o194 P) .nil .nil) (.node (o267 P) .nil .nil)) (.node (o149 P) (.node (o231 P) .nil .nil) (.node (o8 P) .nil .nil))) (.node (o86 P) (.node (o129 P) (.node (o8 P) .nil .nil) (.node (o287 P) .nil .nil)) (.node (o171 P) (.node (o249 P) .nil .nil) .nil)))) (.node (o25 P) (.node (o40 P) (.node (o8 P) (.node (o102 P) (.node (o190 P) .nil .nil) (.node (o263 P) .nil .nil)) (.node (o145 P) (.node (o226 P) .nil .nil) (.node (o7 P) .nil .nil))) (.node (o7 P) (.node (o8 P) (.node (o7 P) .nil .nil) (.node (o282 P) .nil .nil)) (.node (o166 P) (.node (o8 P) .nil .nil) (.node (o321 P) .nil .nil)))) (.node (o53 P) (.node (o8 P) (.node (o113 P) (.node (o199 P) .nil .nil) (.node (o272 P) .nil .nil)) (.node (o7 P) (.node (o236 P) .nil .nil) (.node (o309 P) .nil .nil))) (.node (o93 P) (.node (o135 P) (.node (o217 P) .nil .nil) (.node (o292 P) .nil .nil)) (.node (o44 P) (.node (o7 P) .nil .nil) .nil))))) (.node (o14 P) (.node (o21 P) (.node (o7 P) (.node (o53 P) (.node (o100 P) (.node (o44 P) .nil .nil) (.node (o7 P) .nil .nil)) (.node (o7 P) (.node (o7 P) .nil .nil) (.node (o7 P) .nil .nil))) (.node (o79 P) (.node (o122 P) (.node (o205 P) .nil .nil) (.node (o8 P) .nil .nil)) (.node (o162 P) (.node (o242 P) .nil .nil) (.node (o317 P) .nil .nil)))) (.node (o49 P) (.node (o69 P) (.node (o7 P) (.node (o196 P) .nil .nil) (.node (o7 P) .nil .nil)) (.node (o153 P) (.node (o233 P) .nil .nil) (.node (o307 P) .nil .nil))) (.node (o89 P) (.node (o132 P) (.node (o215 P) .nil .nil) (.node (o289 P) .nil .nil)) (.node (o186 P) (.node (o252 P) .nil .nil) .nil)))) (.node (o29 P) (.node (o44 P) (.node (o64 P) (.node (o105 P) (.node (o8 P) .nil .nil) (.node (o7 P) .nil .nil)) (.node (o8 P) (.node (o8 P) .nil .nil) (.node (o302 P) .nil .nil))) (.node (o7 P) (.node (o127 P) (.node (o210 P) .nil .nil) (.node (o284 P) .nil .nil)) (.node (o44 P) (.node (o247 P) .nil .nil) .nil))) (.node (o8 P) (.node (o74 P) (.node (o7 P) (.node (o7 P) .nil .nil) (.node (o7 P) .nil .nil)) (.node (o7 P) (.node (o7 P) .nil .nil) (.node (o312 P) .nil .nil))) (.node (o95 P) (.node (o137 P) (.node (o220 P) .nil .nil) (.node (o293 P) .nil .nil)) (.node (o178 P) (.node (o7 P) .nil .nil) .nil))))))))
noncomputable def tr31 (P : Params) : BT := (.node (o0 P) (.node (o1 P) (.node (o322 P) (.node (o7 P) (.node (o7 P) (.node (o18 P) (.node (o55 P) (.node (o96 P) (.node (o179 P) (.node (o337 P) .nil .nil) .nil) (.node (o8 P) (.node (o412 P) .nil .nil) .nil)) (.node (o7 P) (.node (o7 P) (.node (o8 P) .nil .nil) .nil) (.node (o7 P) (.node (o450 P) .nil .nil) .nil))) (.node (o75 P) (.node (o118 P) (.node (o201 P) (.node (o8 P) .nil .nil) .nil) (.node (o8 P) (.node (o430 P) .nil .nil) .nil)) (.node (o8 P) (.node (o238 P) (.node (o394 P) .nil .nil) .nil) (.node (o7 P) (.node (o470 P) .nil .nil) .nil)))) (.node (o45 P) (.node (o65 P) (.node (o7 P) (.node (o192 P) (.node (o7 P) .nil .nil) .nil) (.node (o8 P) (.node (o421 P) .nil .nil) .nil)) (.node (o147 P) (.node (o229 P) (.node (o7 P) .nil .nil) .nil) (.node (o303 P) (.node (o7 P) .nil .nil) .nil))) (.node (o8 P) (.node (o128 P) (.node (o211 P) (.node (o8 P) .nil .nil) .nil) (.node (o7 P) (.node (o440 P) .nil .nil) .nil)) (.node (o170 P) (.node (o248 P) (.node (o7 P) .nil .nil) .nil) (.node (o327 P) .nil .nil))))) (.node (o22 P) (.node (o8 P) (.node (o44 P) (.node (o101 P) (.node (o188 P) (.node (o342 P) .nil .nil) .nil) (.node (o8 P) (.node (o7 P) .nil .nil) .nil)) (.node (o142 P) (.node (o8 P) (.node (o380 P) .nil .nil) .nil) (.node (o298 P) (.node (o455 P) .nil .nil) .nil))) (.node (o80 P) (.node (o123 P) (.node (o206 P) (.node (o8 P) .nil .nil) .nil) (.node (o280 P) (.node (o435 P) .nil .nil) .nil)) (.node (o163 P) (.node (o243 P) (.node (o399 P) .nil .nil) .nil) (.node (o318 P) .nil .nil)))) (.node (o50 P) (.node (o70 P) (.node (o110 P) (.node (o7 P) (.node (o8 P) .nil .nil) .nil) (.node (o8 P) (.node (o426 P) .nil .nil) .nil)) (.node (o7 P) (.node (o7 P) (.node (o389 P) .nil .nil) .nil) (.node (o308 P) (.node (o8 P) .nil .nil) .nil))) (.node (o90 P) (.node (o133 P) (.node (o216 P) (.node (o8 P) .nil .nil) .nil) (.node (o7 P) (.node (o445 P) .nil .nil) .nil)) (.node (o175 P) (.node (o7 P) (.node (o8 P) .nil .nil) .nil) (.node (o332 P) .nil .nil)))))) (.node (o32 P) (.node (o18 P) (.node (o323 P) (.node (o58 P) (.node (o98 P) (.node (o182 P) (.node (o339 P) .nil .nil) .nil) (.node (o259 P) (.node (o415 P) .nil .nil) .nil)) (.node (o7 P) (.node (o222 P) (.node (o378 P) .nil .nil) .nil) (.node (o7 P) (.node (o452 P) .nil .nil) .nil))) (.node (o7 P) (.node (o8 P) (.node (o8 P) (.node (o358 P) .nil .nil) .nil) (.node (o278 P) (.node (o7 P) .nil .nil) .nil)) (.node (o160 P) (.node (o8 P) (.node (o396 P) .nil .nil) .nil) (.node (o314 P) .nil .nil)))) (.node (o47 P) (.node (o8 P) (.node (o107 P) (.node (o195 P) (.node (o348 P) .nil .nil) .nil) (.node (o268 P) (.node (o7 P) .nil .nil) .nil)) (.node (o150 P) (.node (o232 P) (.node (o7 P) .nil .nil) .nil) (.node (o305 P) (.node (o461 P) .nil .nil) .nil))) (.node (o87 P) (.node (o7 P) (.node (o213 P) (.node (o368 P) .nil .nil) .nil) (.node (o288 P) (.node (o7 P) .nil .nil) .nil)) (.node (o172 P) (.node (o7 P) (.node (o405 P) .nil .nil) .nil) (.node (o7 P) .nil .nil))))) (.node (o26 P) (.node (o41 P) (.node (o62 P) (.node (o7 P) (.node (o191 P) (.node (o7 P) .nil .nil) .nil) (.node (o264 P) (.node (o7 P) .nil .nil) .nil)) (.node (o44 P) (.node (o227 P) (.node (o383 P) .nil .nil) .nil) (.node (o8 P) (.node (o7 P) .nil .nil) .nil))) (.node (o82 P) (.node (o125 P) (.node (o8 P) (.node (o363 P) .nil .nil) .nil) (.node (o283 P) (.node (o7 P) .nil .nil) .nil)) (.node (o167 P) (.node (o245 P) (.node (o7 P) .nil .nil) .nil) (.node (o325 P) .nil .nil)))) (.node (o44 P) (.node (o72 P) (.node (o7 P) (.node (o7 P) (.node (o353 P) .nil .nil) .nil) (.node (o273 P) (.node (o7 P) .nil .nil) .nil)) (.node (o155 P) (.node (o7 P) (.node (o8 P) .nil .nil) .nil) (.node (o7 P) (.node (o466 P) .nil .nil) .nil))) (.node (o44 P) (.node (o136 P) (.node (o7 P) (.node (o373 P) .nil .nil) .nil) (.node (o134 P) (.node (o8 P) .nil .nil) .nil)) (.node (o177 P) (.node (o254 P) (.node (o410 P) .nil .nil) .nil) (.node (o8 P) .nil .nil))))))) (.node (o5 P) (.node (o9 P) (.node (o16 P) (.node (o31 P) (.node (o7 P) (.node (o7 P) (.node (o180 P) (.node (o7 P) .nil .nil) .nil) (.node (o7 P) (.node (o413 P) .nil .nil) .nil)) (.node (o139 P) (.node (o221 P) (.node (o7 P) .nil .nil) .nil) (.node (o295 P) (.node (o7 P) .nil .nil) .nil))) (.node (o8 P) (.node (o120 P) (.node (o203 P) (.node (o7 P) .nil .nil) .nil) (.node (o7 P) (.node (o432 P) .nil .nil) .nil)) (.node (o7 P) (.node (o240 P) (.node (o7 P) .nil .nil) .nil) (.node (o313 P) (.node (o472 P) .nil .nil) .nil)))) (.node (o8 P) (.node (o67 P) (.node (o106 P) (.node (o193 P) (.node (o347 P) .nil .nil) .nil) (.node (o7 P) (.node (o423 P) .nil .nil) .nil)) (.node (o7 P) (.node (o230 P) (.node (o386 P) .nil .nil) .nil) (.node (o7 P) (.node (o460 P) .nil .nil) .nil))) (.node (o7 P) (.node (o8 P) (.node (o7 P) (.node (o7 P) .nil .nil) .nil) (.node (o286 P) (.node (o442 P) .nil .nil) .nil)) (.node (o8 P) (.node (o8 P) (.node (o404 P) .nil .nil) .nil) (.node (o329 P) .nil .nil))))) (.node (o24 P) (.node (o7 P) (.node (o7 P) (.node (o8 P) (.node (o189 P) (.node (o8 P) .nil .nil) .nil) (.node (o7 P) (.node (o418 P) .nil .nil) .nil)) (.node (o144 P) (.node (o7 P) (.node (o381 P) .nil .nil) .nil) (.node (o300 P) (.node (o8 P) .nil .nil) .nil))) (.node (o81 P) (.node (o7 P) (.node (o208 P) (.node (o7 P) .nil .nil) .nil) (.node (o281 P) (.node (o437 P) .nil .nil) .nil)) (.node (o165 P) (.node (o7 P) (.node (o8 P) .nil .nil) .nil) (.node (o320 P) .nil .nil)))) (.node (o52 P) (.node (o7 P) (.node (o112 P) (.node (o198 P) (.node (o7 P) .nil .nil) .nil) (.node (o7 P) (.node (o428 P) .nil .nil) .nil)) (.node (o154 P) (.node (o235 P) (.node (o391 P) .nil .nil) .nil) (.node (o8 P) (.node (o7 P) .nil .nil) .nil))) (.node (o92 P) (.node (o134 P) (.node (o8 P) (.node (o7 P) .nil .nil) .nil) (.node (o291 P) (.node (o447 P) .nil .nil) .nil)) (.node (o169 P) (.node (o253 P) (.node (o7 P) .nil .nil) .nil) (.node (o334 P) .nil .nil)))))) (.node (o13 P) (.node (o20 P) (.node (o35 P) (.node (o60 P) (.node (o99 P) (.node (o187 P) (.node (o340 P) .nil .nil) .nil) (.node (o261 P) (.node (o8 P) .nil .nil) .nil)) (.node (o141 P) (.node (o224 P) (.node (o7 P) .nil .nil) .nil) (.node (o297 P) (.node (o453 P) .nil .nil) .nil))) (.node (o78 P) (.node (o7 P) (.node (o7 P) (.node (o360 P) .nil .nil) .nil) (.node (o7 P) (.node (o434 P) .nil .nil) .nil)) (.node (o7 P) (.node (o7 P) (.node (o397 P) .nil .nil) .nil) (.node (o316 P) .nil .nil)))) (.node (o48 P) (.node (o7 P) (.node (o109 P) (.node (o8 P) (.node (o350 P) .nil .nil) .nil) (.node (o270 P) (.node (o425 P) .nil .nil) .nil)) (.node (o152 P) (.node (o8 P) (.node (o388 P) .nil .nil) .nil) (.node (o306 P) (.node (o463 P) .nil .nil) .nil))) (.node (o7 P) (.node (o131 P) (.node (o214 P) (.node (o370 P) .nil .nil) .nil) (.node (o8 P) (.node (o444 P) .nil .nil) .nil)) (.node (o173 P) (.node (o251 P) (.node (o407 P) .nil .nil) .nil) (.node (o331 P) .nil .nil))))) (.node (o33 P) (.node (o43 P) (.node (o7 P) (.node (o104 P) (.node (o7 P) (.node (o345 P) .nil .nil) .nil) (.node (o134 P) (.node (o420 P) .nil .nil) .nil)) (.node (o7 P) (.node (o7 P) (.node (o8 P) .nil .nil) .nil) (.node (o7 P) (.node (o458 P) .nil .nil) .nil))) (.node (o84 P) (.node (o126 P) (.node (o7 P) (.node (o365 P) .nil .nil) .nil) (.node (o8 P) (.node (o439 P) .nil .nil) .nil)) (.node (o169 P) (.node (o246 P) (.node (o402 P) .nil .nil) .nil) (.node (o326 P) .nil .nil)))) (.node (o7 P) (.node (o73 P) (.node (o117 P) (.node (o200 P) (.node (o355 P) .nil .nil) .nil) (.node (o275 P) (.node (o429 P) .nil .nil) .nil)) (.node (o157 P) (.node (o237 P) (.node (o7 P) .nil .nil) .nil) (.node (o311 P) (.node (o468 P) .nil .nil) .nil))) (.node (o7 P) (.node (o8 P) (.node (o219 P) (.node (o375 P) .nil .nil) .nil) (.node (o8 P) (.node (o7 P) .nil .nil) .nil)) (.node (o8 P) (.node (o256 P) (.node (o7 P) .nil .nil) .nil) (.node (o7 P) .nil .nil)))))))) (.node (o114 P) (.node (o4 P) (.node (o8 P) (.node (o15 P) (.node (o30 P) (.node (o56 P) (.node (o97 P) (.node (o7 P) (.node (o338 P) .nil .nil) .nil) (.node (o257 P) (.node (o7 P) .nil .nil) .nil)) (.node (o138 P) (.node (o8 P) (.node (o376 P) .nil .nil) .nil) (.node (o294 P) (.node (o451 P) .nil .nil) .nil))) (.node (o7 P) (.node (o119 P) (.node (o202 P) (.node (o356 P) .nil .nil) .nil) (.node (o276 P) (.node (o431 P) .nil .nil) .nil)) (.node (o158 P) (.node (o239 P) (.node (o395 P) .nil .nil) .nil) (.node (o8 P) (.node (o471 P) .nil .nil) .nil)))) (.node (o7 P) (.node (o66 P) (.node (o8 P) (.node (o7 P) (.node (o8 P) .nil .nil) .nil) (.node (o266 P) (.node (o422 P) .nil .nil) .nil)) (.node (o148 P) (.node (o7 P) (.node (o385 P) .nil .nil) .nil) (.node (o304 P) (.node (o8 P) .nil .nil) .nil))) (.node (o85 P) (.node (o7 P) (.node (o212 P) (.node (o366 P) .nil .nil) .nil) (.node (o285 P) (.node (o441 P) .nil .nil) .nil)) (.node (o7 P) (.node (o7 P) (.node (o8 P) .nil .nil) .nil) (.node (o328 P) .nil .nil))))) (.node (o23 P) (.node (o39 P) (.node (o61 P) (.node (o7 P) (.node (o7 P) (.node (o7 P) .nil .nil) .nil) (.node (o262 P) (.node (o417 P) .nil .nil) .nil)) (.node (o143 P) (.node (o225 P) (.node (o7 P) .nil .nil) .nil) (.node (o299 P) (.node (o7 P) .nil .nil) .nil))) (.node (o44 P) (.node (o124 P) (.node (o207 P) (.node (o361 P) .nil .nil) .nil) (.node (o7 P) (.node (o436 P) .nil .nil) .nil)) (.node (o164 P) (.node (o244 P) (.node (o7 P) .nil .nil) .nil) (.node (o319 P) .nil .nil)))) (.node (o51 P) (.node (o71 P) (.node (o111 P) (.node (o197 P) (.node (o351 P) .nil .nil) .nil) (.node (o271 P) (.node (o427 P) .nil .nil) .nil)) (.node (o44 P) (.node (o234 P) (.node (o390 P) .nil .nil) .nil) (.node (o7 P) (.node (o464 P) .nil .nil) .nil))) (.node (o91 P) (.node (o6 P) (.node (o7 P) (.node (o371 P) .nil .nil) .nil) (.node (o290 P) (.node (o446 P) .nil .nil) .nil)) (.node (o176 P) (.node (o8 P) (.node (o408 P) .nil .nil) .nil) (.node (o333 P) .nil .nil)))))) (.node (o12 P) (.node (o19 P) (.node (o34 P) (.node (o59 P) (.node (o7 P) (.node (o183 P) (.node (o7 P) .nil .nil) .nil) (.node (o260 P) (.node (o7 P) .nil .nil) .nil)) (.node (o8 P) (.node (o223 P) (.node (o379 P) .nil .nil) .nil) (.node (o8 P) (.node (o7 P) .nil .nil) .nil))) (.node (o77 P) (.node (o121 P) (.node (o204 P) (.node (o359 P) .nil .nil) .nil) (.node (o279 P) (.node (o8 P) .nil .nil) .nil)) (.node (o161 P) (.node (o241 P) (.node (o7 P) .nil .nil) .nil) (.node (o315 P) .nil .nil)))) (.node (o7 P) (.node (o68 P) (.node (o108 P) (.node (o7 P) (.node (o349 P) .nil .nil) .nil) (.node (o269 P) (.node (o8 P) .nil .nil) .nil)) (.node (o151 P) (.node (o7 P) (.node (o8 P) .nil .nil) .nil) (.node (o7 P) (.node (o462 P) .nil .nil) .nil))) (.node (o88 P) (.node (o130 P) (.node (o7 P) (.node (o369 P) .nil .nil) .nil) (.node (o7 P) (.node (o8 P) .nil .nil) .nil)) (.node (o7 P) (.node (o250 P) (.node (o406 P) .nil .nil) .nil) (.node (o8 P) .nil .nil))))) (.node (o27 P) (.node (o42 P) (.node (o63 P) (.node (o103 P) (.node (o134 P) (.node (o344 P) .nil .nil) .nil) (.node (o265 P) (.node (o8 P) .nil .nil) .nil)) (.node (o146 P) (.node (o228 P) (.node (o7 P) .nil .nil) .nil) (.node (o301 P) (.node (o457 P) .nil .nil) .nil))) (.node (o83 P) (.node (o7 P) (.node (o209 P) (.node (o364 P) .nil .nil) .nil) (.node (o7 P) (.node (o8 P) .nil .nil) .nil)) (.node (o168 P) (.node (o7 P) (.node (o401 P) .nil .nil) .nil) (.node (o44 P) .nil .nil)))) (.node (o54 P) (.node (o7 P) (.node (o8 P) (.node (o8 P) (.node (o354 P) .nil .nil) .nil) (.node (o274 P) (.node (o8 P) .nil .nil) .nil)) (.node (o156 P) (.node (o8 P) (.node (o392 P) .nil .nil) .nil) (.node (o310 P) (.node (o467 P) .nil .nil) .nil))) (.node (o94 P) (.node (o7 P) (.node (o218 P) (.node (o374 P) .nil .nil) .nil) (.node (o7 P) (.node (o448 P) .nil .nil) .nil)) (.node (o7 P) (.node (o255 P) (.node (o411 P) .nil .nil) .nil) (.node (o335 P) .nil .nil))))))) (.node (o6 P) (.node (o10 P) (.node (o17 P) (.node (o7 P) (.node (o57 P) (.node (o8 P) (.node (o324 P) (.node (o8 P) .nil .nil) .nil) (.node (o258 P) (.node (o414 P) .nil .nil) .nil)) (.node (o140 P) (.node (o7 P) (.node (o377 P) .nil .nil) .nil) (.node (o296 P) (.node (o8 P) .nil .nil) .nil))) (.node (o76 P) (.node (o7 P) (.node (o7 P) (.node (o357 P) .nil .nil) .nil) (.node (o277 P) (.node (o433 P) .nil .nil) .nil)) (.node (o159 P) (.node (o7 P) (.node (o8 P) .nil .nil) .nil) (.node (o7 P) .nil .nil)))) (.node (o46 P) (.node (o7 P) (.node (o7 P) (.node (o194 P) (.node (o7 P) .nil .nil) .nil) (.node (o267 P) (.node (o424 P) .nil .nil) .nil)) (.node (o149 P) (.node (o231 P) (.node (o387 P) .nil .nil) .nil) (.node (o8 P) (.node (o7 P) .nil .nil) .nil))) (.node (o86 P) (.node (o129 P) (.node (o8 P) (.node (o367 P) .nil .nil) .nil) (.node (o287 P) (.node (o443 P) .nil .nil) .nil)) (.node (o171 P) (.node (o249 P) (.node (o7 P) .nil .nil) .nil) (.node (o330 P) .nil .nil))))) (.node (o25 P) (.node (o40 P) (.node (o8 P) (.node (o102 P) (.node (o190 P) (.node (o343 P) .nil .nil) .nil) (.node (o263 P) (.node (o419 P) .nil .nil) .nil)) (.node (o145 P) (.node (o226 P) (.node (o382 P) .nil .nil) .nil) (.node (o7 P) (.node (o456 P) .nil .nil) .nil))) (.node (o7 P) (.node (o8 P) (.node (o7 P) (.node (o362 P) .nil .nil) .nil) (.node (o282 P) (.node (o438 P) .nil .nil) .nil)) (.node (o166 P) (.node (o8 P) (.node (o400 P) .nil .nil) .nil) (.node (o321 P) .nil .nil)))) (.node (o53 P) (.node (o8 P) (.node (o113 P) (.node (o199 P) (.node (o352 P) .nil .nil) .nil) (.node (o272 P) (.node (o134 P) .nil .nil) .nil)) (.node (o7 P) (.node (o236 P) (.node (o7 P) .nil .nil) .nil) (.node (o309 P) (.node (o465 P) .nil .nil) .nil))) (.node (o93 P) (.node (o135 P) (.node (o217 P) (.node (o372 P) .nil .nil) .nil) (.node (o292 P) (.node (o7 P) .nil .nil) .nil)) (.node (o44 P) (.node (o7 P) (.node (o409 P) .nil .nil) .nil) (.node (o7 P) .nil .nil)))))) (.node (o14 P) (.node (o21 P) (.node (o7 P) (.node (o53 P) (.node (o100 P) (.node (o44 P) (.node (o341 P) .nil .nil) .nil) (.node (o7 P) (.node (o416 P) .nil .nil) .nil)) (.node (o7 P) (.node (o7 P) (.node (o8 P) .nil .nil) .nil) (.node (o7 P) (.node (o454 P) .nil .nil) .nil))) (.node (o79 P) (.node (o122 P) (.node (o205 P) (.node (o7 P) .nil .nil) .nil) (.node (o8 P) (.node (o7 P) .nil .nil) .nil)) (.node (o162 P) (.node (o242 P) (.node (o398 P) .nil .nil) .nil) (.node (o317 P) .nil .nil)))) (.node (o49 P) (.node (o69 P) (.node (o7 P) (.node (o196 P) (.node (o7 P) .nil .nil) .nil) (.node (o7 P) (.node (o7 P) .nil .nil) .nil)) (.node (o153 P) (.node (o233 P) (.node (o7 P) .nil .nil) .nil) (.node (o307 P) (.node (o7 P) .nil .nil) .nil))) (.node (o89 P) (.node (o132 P) (.node (o215 P) (.node (o7 P) .nil .nil) .nil) (.node (o289 P) (.node (o7 P) .nil .nil) .nil)) (.node (o186 P) (.node (o252 P) (.node (o7 P) .nil .nil) .nil) (.node (o7 P) .nil .nil))))) (.node (o29 P) (.node (o44 P) (.node (o64 P) (.node (o105 P) (.node (o8 P) (.node (o346 P) .nil .nil) .nil) (.node (o7 P) (.node (o7 P) .nil .nil) .nil)) (.node (o8 P) (.node (o8 P) (.node (o384 P) .nil .nil) .nil) (.node (o302 P) (.node (o459 P) .nil .nil) .nil))) (.node (o7 P) (.node (o127 P) (.node (o210 P) (.node (o7 P) .nil .nil) .nil) (.node (o284 P) (.node (o7 P) .nil .nil) .nil)) (.node (o44 P) (.node (o247 P) (.node (o403 P) .nil .nil) .nil) (.node (o7 P) .nil .nil)))) (.node (o8 P) (.node (o74 P) (.node (o7 P) (.node (o7 P) (.node (o7 P) .nil .nil) .nil) (.node (o7 P) (.node (o7 P) .nil .nil) .nil)) (.node (o7 P) (.node (o7 P) (.node (o393 P) .nil .nil) .nil) (.node (o312 P) (.node (o469 P) .nil .nil) .nil))) (.node (o95 P) (.node (o137 P) (.node (o220 P) (.node (o7 P) .nil .nil) .nil) (.node (o293 P) (.node (o449 P) .nil .nil) .nil)) (.node (o178 P) (.node (o7 P) (.node (o8 P) .nil .nil) .nil) (.node (o336 P) .nil .nil)))))))))
noncomputable def tr40 (P : Params) : BT := (.node (o0 P) (.node (o1 P) (.node (o473 P) (.node (o7 P) (.node (o7 P) (.node (o18 P) (.node (o55 P) (.node (o96 P) (.node (o179 P) (.node (o337 P) .nil .nil) (.node (o8 P) .nil .nil)) (.node (o8 P) (.node (o412 P) .nil .nil) .nil)) (.node (o7 P) (.node (o7 P) (.node (o8 P) .nil .nil) .nil) (.node (o7 P) (.node (o450 P) .nil .nil) .nil))) (.node (o75 P) (.node (o118 P) (.node (o201 P) (.node (o8 P) .nil .nil) .nil) (.node (o8 P) (.node (o430 P) .nil .nil) .nil)) (.node (o8 P) (.node (o238 P) (.node (o394 P) .nil .nil) .nil) (.node (o7 P) (.node (o470 P) .nil .nil) .nil)))) (.node (o45 P) (.node (o65 P) (.node (o7 P) (.node (o192 P) (.node (o7 P) .nil .nil) .nil) (.node (o8 P) (.node (o421 P) .nil .nil) .nil)) (.node (o147 P) (.node (o229 P) (.node (o7 P) .nil .nil) .nil) (.node (o303 P) (.node (o7 P) .nil .nil) .nil))) (.node (o8 P) (.node (o128 P) (.node (o211 P) (.node (o8 P) .nil .nil) .nil) (.node (o7 P) (.node (o440 P) .nil .nil) .nil)) (.node (o170 P) (.node (o248 P) (.node (o7 P) .nil .nil) .nil) (.node (o327 P) (.node (o482 P) .nil .nil) .nil))))) (.node (o22 P) (.node (o8 P) (.node (o44 P) (.node (o101 P) (.node (o188 P) (.node (o342 P) .nil .nil) (.node (o495 P) .nil .nil)) (.node (o8 P) (.node (o7 P) .nil .nil) .nil)) (.node (o142 P) (.node (o8 P) (.node (o380 P) .nil .nil) .nil) (.node (o298 P) (.node (o455 P) .nil .nil) .nil))) (.node (o80 P) (.node (o123 P) (.node (o206 P) (.node (o8 P) .nil .nil) .nil) (.node (o280 P) (.node (o435 P) .nil .nil) .nil)) (.node (o163 P) (.node (o243 P) (.node (o399 P) .nil .nil) .nil) (.node (o318 P) (.node (o477 P) .nil .nil) .nil)))) (.node (o50 P) (.node (o70 P) (.node (o110 P) (.node (o7 P) (.node (o8 P) .nil .nil) .nil) (.node (o8 P) (.node (o426 P) .nil .nil) .nil)) (.node (o7 P) (.node (o7 P) (.node (o389 P) .nil .nil) .nil) (.node (o308 P) (.node (o8 P) .nil .nil) .nil))) (.node (o90 P) (.node (o133 P) (.node (o216 P) (.node (o8 P) .nil .nil) .nil) (.node (o7 P) (.node (o445 P) .nil .nil) .nil)) (.node (o175 P) (.node (o7 P) (.node (o8 P) .nil .nil) .nil) (.node (o332 P) (.node (o7 P) .nil .nil) .nil)))))) (.node (o32 P) (.node (o18 P) (.node (o474 P) (.node (o58 P) (.node (o98 P) (.node (o182 P) (.node (o339 P) .nil .nil) (.node (o493 P) .nil .nil)) (.node (o259 P) (.node (o415 P) .nil .nil) .nil)) (.node (o7 P) (.node (o222 P) (.node (o378 P) .nil .nil) .nil) (.node (o7 P) (.node (o452 P) .nil .nil) .nil))) (.node (o7 P) (.node (o8 P) (.node (o8 P) (.node (o358 P) .nil .nil) .nil) (.node (o278 P) (.node (o7 P) .nil .nil) .nil)) (.node (o160 P) (.node (o8 P) (.node (o396 P) .nil .nil) .nil) (.node (o314 P) (.node (o8 P) .nil .nil) .nil)))) (.node (o47 P) (.node (o8 P) (.node (o107 P) (.node (o195 P) (.node (o348 P) .nil .nil) .nil) (.node (o268 P) (.node (o7 P) .nil .nil) .nil)) (.node (o150 P) (.node (o232 P) (.node (o7 P) .nil .nil) .nil) (.node (o305 P) (.node (o461 P) .nil .nil) .nil))) (.node (o87 P) (.node (o7 P) (.node (o213 P) (.node (o368 P) .nil .nil) .nil) (.node (o288 P) (.node (o7 P) .nil .nil) .nil)) (.node (o172 P) (.node (o7 P) (.node (o405 P) .nil .nil) .nil) (.node (o7 P) (.node (o7 P) .nil .nil) .nil))))) (.node (o26 P) (.node (o41 P) (.node (o62 P) (.node (o7 P) (.node (o191 P) (.node (o7 P) .nil .nil) (.node (o498 P) .nil .nil)) (.node (o264 P) (.node (o7 P) .nil .nil) .nil)) (.node (o44 P) (.node (o227 P) (.node (o383 P) .nil .nil) .nil) (.node (o8 P) (.node (o7 P) .nil .nil) .nil))) (.node (o82 P) (.node (o125 P) (.node (o8 P) (.node (o363 P) .nil .nil) .nil) (.node (o283 P) (.node (o7 P) .nil .nil) .nil)) (.node (o167 P) (.node (o245 P) (.node (o7 P) .nil .nil) .nil) (.node (o325 P) (.node (o479 P) .nil .nil) .nil)))) (.node (o44 P) (.node (o72 P) (.node (o7 P) (.node (o7 P) (.node (o353 P) .nil .nil) .nil) (.node (o273 P) (.node (o7 P) .nil .nil) .nil)) (.node (o155 P) (.node (o7 P) (.node (o8 P) .nil .nil) .nil) (.node (o7 P) (.node (o466 P) .nil .nil) .nil))) (.node (o44 P) (.node (o136 P) (.node (o7 P) (.node (o373 P) .nil .nil) .nil) (.node (o134 P) (.node (o8 P) .nil .nil) .nil)) (.node (o177 P) (.node (o254 P) (.node (o410 P) .nil .nil) .nil) (.node (o8 P) (.node (o488 P) .nil .nil) .nil))))))) (.node (o5 P) (.node (o9 P) (.node (o16 P) (.node (o31 P) (.node (o7 P) (.node (o7 P) (.node (o180 P) (.node (o7 P) .nil .nil) (.node (o7 P) .nil .nil)) (.node (o7 P) (.node (o413 P) .nil .nil) .nil)) (.node (o139 P) (.node (o221 P) (.node (o7 P) .nil .nil) .nil) (.node (o295 P) (.node (o7 P) .nil .nil) .nil))) (.node (o8 P) (.node (o120 P) (.node (o203 P) (.node (o7 P) .nil .nil) .nil) (.node (o7 P) (.node (o432 P) .nil .nil) .nil)) (.node (o7 P) (.node (o240 P) (.node (o7 P) .nil .nil) .nil) (.node (o313 P) (.node (o472 P) .nil .nil) .nil)))) (.node (o8 P) (.node (o67 P) (.node (o106 P) (.node (o193 P) (.node (o347 P) .nil .nil) .nil) (.node (o7 P) (.node (o423 P) .nil .nil) .nil)) (.node (o7 P) (.node (o230 P) (.node (o386 P) .nil .nil) .nil) (.node (o7 P) (.node (o460 P) .nil .nil) .nil))) (.node (o7 P) (.node (o8 P) (.node (o7 P) (.node (o7 P) .nil .nil) .nil) (.node (o286 P) (.node (o442 P) .nil .nil) .nil)) (.node (o8 P) (.node (o8 P) (.node (o404 P) .nil .nil) .nil) (.node (o329 P) (.node (o8 P) .nil .nil) .nil))))) (.node (o24 P) (.node (o7 P) (.node (o7 P) (.node (o8 P) (.node (o189 P) (.node (o8 P) .nil .nil) (.node (o496 P) .nil .nil)) (.node (o7 P) (.node (o418 P) .nil .nil) .nil)) (.node (o144 P) (.node (o7 P) (.node (o381 P) .nil .nil) .nil) (.node (o300 P) (.node (o8 P) .nil .nil) .nil))) (.node (o81 P) (.node (o7 P) (.node (o208 P) (.node (o7 P) .nil .nil) .nil) (.node (o281 P) (.node (o437 P) .nil .nil) .nil)) (.node (o165 P) (.node (o7 P) (.node (o8 P) .nil .nil) .nil) (.node (o320 P) (.node (o7 P) .nil .nil) .nil)))) (.node (o52 P) (.node (o7 P) (.node (o112 P) (.node (o198 P) (.node (o7 P) .nil .nil) .nil) (.node (o7 P) (.node (o428 P) .nil .nil) .nil)) (.node (o154 P) (.node (o235 P) (.node (o391 P) .nil .nil) .nil) (.node (o8 P) (.node (o7 P) .nil .nil) .nil))) (.node (o92 P) (.node (o134 P) (.node (o8 P) (.node (o7 P) .nil .nil) .nil) (.node (o291 P) (.node (o447 P) .nil .nil) .nil)) (.node (o169 P) (.node (o253 P) (.node (o7 P) .nil .nil) .nil) (.node (o334 P) (.node (o487 P) .nil .nil) .nil)))))) (.node (o13 P) (.node (o20 P) (.node (o35 P) (.node (o60 P) (.node (o99 P) (.node (o187 P) (.node (o340 P) .nil .nil) (.node (o7 P) .nil .nil)) (.node (o261 P) (.node (o8 P) .nil .nil) .nil)) (.node (o141 P) (.node (o224 P) (.node (o7 P) .nil .nil) .nil) (.node (o297 P) (.node (o453 P) .nil .nil) .nil))) (.node (o78 P) (.node (o7 P) (.node (o7 P) (.node (o360 P) .nil .nil) .nil) (.node (o7 P) (.node (o434 P) .nil .nil) .nil)) (.node (o7 P) (.node (o7 P) (.node (o397 P) .nil .nil) .nil) (.node (o316 P) (.node (o7 P) .nil .nil) .nil)))) (.node (o48 P) (.node (o7 P) (.node (o109 P) (.node (o8 P) (.node (o350 P) .nil .nil) .nil) (.node (o270 P) (.node (o425 P) .nil .nil) .nil)) (.node (o152 P) (.node (o8 P) (.node (o388 P) .nil .nil) .nil) (.node (o306 P) (.node (o463 P) .nil .nil) .nil))) (.node (o7 P) (.node (o131 P) (.node (o214 P) (.node (o370 P) .nil .nil) .nil) (.node (o8 P) (.node (o444 P) .nil .nil) .nil)) (.node (o173 P) (.node (o251 P) (.node (o407 P) .nil .nil) .nil) (.node (o331 P) (.node (o485 P) .nil .nil) .nil))))) (.node (o33 P) (.node (o43 P) (.node (o7 P) (.node (o104 P) (.node (o7 P) (.node (o345 P) .nil .nil) .nil) (.node (o134 P) (.node (o420 P) .nil .nil) .nil)) (.node (o7 P) (.node (o7 P) (.node (o8 P) .nil .nil) .nil) (.node (o7 P) (.node (o458 P) .nil .nil) .nil))) (.node (o84 P) (.node (o126 P) (.node (o7 P) (.node (o365 P) .nil .nil) .nil) (.node (o8 P) (.node (o439 P) .nil .nil) .nil)) (.node (o169 P) (.node (o246 P) (.node (o402 P) .nil .nil) .nil) (.node (o326 P) (.node (o480 P) .nil .nil) .nil)))) (.node (o7 P) (.node (o73 P) (.node (o117 P) (.node (o200 P) (.node (o355 P) .nil .nil) .nil) (.node (o275 P) (.node (o429 P) .nil .nil) .nil)) (.node (o157 P) (.node (o237 P) (.node (o7 P) .nil .nil) .nil) (.node (o311 P) (.node (o468 P) .nil .nil) .nil))) (.node (o7 P) (.node (o8 P) (.node (o219 P) (.node (o375 P) .nil .nil) .nil) (.node (o8 P) (.node (o7 P) .nil .nil) .nil)) (.node (o8 P) (.node (o256 P) (.node (o7 P) .nil .nil) .nil) (.node (o7 P) (.node (o490 P) .nil .nil) .nil)))))))) (.node (o114 P) (.node (o4 P) (.node (o8 P) (.node (o15 P) (.node (o30 P) (.node (o56 P) (.node (o97 P) (.node (o7 P) (.node (o338 P) .nil .nil) (.node (o491 P) .nil .nil)) (.node (o257 P) (.node (o7 P) .nil .nil) .nil)) (.node (o138 P) (.node (o8 P) (.node (o376 P) .nil .nil) .nil) (.node (o294 P) (.node (o451 P) .nil .nil) .nil))) (.node (o7 P) (.node (o119 P) (.node (o202 P) (.node (o356 P) .nil .nil) .nil) (.node (o276 P) (.node (o431 P) .nil .nil) .nil)) (.node (o158 P) (.node (o239 P) (.node (o395 P) .nil .nil) .nil) (.node (o8 P) (.node (o471 P) .nil .nil) .nil)))) (.node (o7 P) (.node (o66 P) (.node (o8 P) (.node (o7 P) (.node (o8 P) .nil .nil) .nil) (.node (o266 P) (.node (o422 P) .nil .nil) .nil)) (.node (o148 P) (.node (o7 P) (.node (o385 P) .nil .nil) .nil) (.node (o304 P) (.node (o8 P) .nil .nil) .nil))) (.node (o85 P) (.node (o7 P) (.node (o212 P) (.node (o366 P) .nil .nil) .nil) (.node (o285 P) (.node (o441 P) .nil .nil) .nil)) (.node (o7 P) (.node (o7 P) (.node (o8 P) .nil .nil) .nil) (.node (o328 P) (.node (o7 P) .nil .nil) .nil))))) (.node (o23 P) (.node (o39 P) (.node (o61 P) (.node (o7 P) (.node (o7 P) (.node (o7 P) .nil .nil) (.node (o7 P) .nil .nil)) (.node (o262 P) (.node (o417 P) .nil .nil) .nil)) (.node (o143 P) (.node (o225 P) (.node (o7 P) .nil .nil) .nil) (.node (o299 P) (.node (o7 P) .nil .nil) .nil))) (.node (o44 P) (.node (o124 P) (.node (o207 P) (.node (o361 P) .nil .nil) .nil) (.node (o7 P) (.node (o436 P) .nil .nil) .nil)) (.node (o164 P) (.node (o244 P) (.node (o7 P) .nil .nil) .nil) (.node (o319 P) (.node (o478 P) .nil .nil) .nil)))) (.node (o51 P) (.node (o71 P) (.node (o111 P) (.node (o197 P) (.node (o351 P) .nil .nil) .nil) (.node (o271 P) (.node (o427 P) .nil .nil) .nil)) (.node (o44 P) (.node (o234 P) (.node (o390 P) .nil .nil) .nil) (.node (o7 P) (.node (o464 P) .nil .nil) .nil))) (.node (o91 P) (.node (o6 P) (.node (o7 P) (.node (o371 P) .nil .nil) .nil) (.node (o290 P) (.node (o446 P) .nil .nil) .nil)) (.node (o176 P) (.node (o8 P) (.node (o408 P) .nil .nil) .nil) (.node (o333 P) (.node (o8 P) .nil .nil) .nil)))))) (.node (o12 P) (.node (o19 P) (.node (o34 P) (.node (o59 P) (.node (o7 P) (.node (o183 P) (.node (o7 P) .nil .nil) (.node (o494 P) .nil .nil)) (.node (o260 P) (.node (o7 P) .nil .nil) .nil)) (.node (o8 P) (.node (o223 P) (.node (o379 P) .nil .nil) .nil) (.node (o8 P) (.node (o7 P) .nil .nil) .nil))) (.node (o77 P) (.node (o121 P) (.node (o204 P) (.node (o359 P) .nil .nil) .nil) (.node (o279 P) (.node (o8 P) .nil .nil) .nil)) (.node (o161 P) (.node (o241 P) (.node (o7 P) .nil .nil) .nil) (.node (o315 P) (.node (o475 P) .nil .nil) .nil)))) (.node (o7 P) (.node (o68 P) (.node (o108 P) (.node (o7 P) (.node (o349 P) .nil .nil) .nil) (.node (o269 P) (.node (o8 P) .nil .nil) .nil)) (.node (o151 P) (.node (o7 P) (.node (o8 P) .nil .nil) .nil) (.node (o7 P) (.node (o462 P) .nil .nil) .nil))) (.node (o88 P) (.node (o130 P) (.node (o7 P) (.node (o369 P) .nil .nil) .nil) (.node (o7 P) (.node (o8 P) .nil .nil) .nil)) (.node (o7 P) (.node (o250 P) (.node (o406 P) .nil .nil) .nil) (.node (o8 P) (.node (o484 P) .nil .nil) .nil))))) (.node (o27 P) (.node (o42 P) (.node (o63 P) (.node (o103 P) (.node (o134 P) (.node (o344 P) .nil .nil) .nil) (.node (o265 P) (.node (o8 P) .nil .nil) .nil)) (.node (o146 P) (.node (o228 P) (.node (o7 P) .nil .nil) .nil) (.node (o301 P) (.node (o457 P) .nil .nil) .nil))) (.node (o83 P) (.node (o7 P) (.node (o209 P) (.node (o364 P) .nil .nil) .nil) (.node (o7 P) (.node (o8 P) .nil .nil) .nil)) (.node (o168 P) (.node (o7 P) (.node (o401 P) .nil .nil) .nil) (.node (o44 P) (.node (o7 P) .nil .nil) .nil)))) (.node (o54 P) (.node (o7 P) (.node (o8 P) (.node (o8 P) (.node (o354 P) .nil .nil) .nil) (.node (o274 P) (.node (o8 P) .nil .nil) .nil)) (.node (o156 P) (.node (o8 P) (.node (o392 P) .nil .nil) .nil) (.node (o310 P) (.node (o467 P) .nil .nil) .nil))) (.node (o94 P) (.node (o7 P) (.node (o218 P) (.node (o374 P) .nil .nil) .nil) (.node (o7 P) (.node (o448 P) .nil .nil) .nil)) (.node (o7 P) (.node (o255 P) (.node (o411 P) .nil .nil) .nil) (.node (o335 P) (.node (o489 P) .nil .nil) .nil))))))) (.node (o6 P) (.node (o10 P) (.node (o17 P) (.node (o7 P) (.node (o57 P) (.node (o8 P) (.node (o324 P) (.node (o8 P) .nil .nil) (.node (o492 P) .nil .nil)) (.node (o258 P) (.node (o414 P) .nil .nil) .nil)) (.node (o140 P) (.node (o7 P) (.node (o377 P) .nil .nil) .nil) (.node (o296 P) (.node (o8 P) .nil .nil) .nil))) (.node (o76 P) (.node (o7 P) (.node (o7 P) (.node (o357 P) .nil .nil) .nil) (.node (o277 P) (.node (o433 P) .nil .nil) .nil)) (.node (o159 P) (.node (o7 P) (.node (o8 P) .nil .nil) .nil) (.node (o7 P) (.node (o7 P) .nil .nil) .nil)))) (.node (o46 P) (.node (o7 P) (.node (o7 P) (.node (o194 P) (.node (o7 P) .nil .nil) .nil) (.node (o267 P) (.node (o424 P) .nil .nil) .nil)) (.node (o149 P) (.node (o231 P) (.node (o387 P) .nil .nil) .nil) (.node (o8 P) (.node (o7 P) .nil .nil) .nil))) (.node (o86 P) (.node (o129 P) (.node (o8 P) (.node (o367 P) .nil .nil) .nil) (.node (o287 P) (.node (o443 P) .nil .nil) .nil)) (.node (o171 P) (.node (o249 P) (.node (o7 P) .nil .nil) .nil) (.node (o330 P) (.node (o483 P) .nil .nil) .nil))))) (.node (o25 P) (.node (o40 P) (.node (o8 P) (.node (o102 P) (.node (o190 P) (.node (o343 P) .nil .nil) (.node (o497 P) .nil .nil)) (.node (o263 P) (.node (o419 P) .nil .nil) .nil)) (.node (o145 P) (.node (o226 P) (.node (o382 P) .nil .nil) .nil) (.node (o7 P) (.node (o456 P) .nil .nil) .nil))) (.node (o7 P) (.node (o8 P) (.node (o7 P) (.node (o362 P) .nil .nil) .nil) (.node (o282 P) (.node (o438 P) .nil .nil) .nil)) (.node (o166 P) (.node (o8 P) (.node (o400 P) .nil .nil) .nil) (.node (o321 P) (.node (o8 P) .nil .nil) .nil)))) (.node (o53 P) (.node (o8 P) (.node (o113 P) (.node (o199 P) (.node (o352 P) .nil .nil) .nil) (.node (o272 P) (.node (o134 P) .nil .nil) .nil)) (.node (o7 P) (.node (o236 P) (.node (o7 P) .nil .nil) .nil) (.node (o309 P) (.node (o465 P) .nil .nil) .nil))) (.node (o93 P) (.node (o135 P) (.node (o217 P) (.node (o372 P) .nil .nil) .nil) (.node (o292 P) (.node (o7 P) .nil .nil) .nil)) (.node (o44 P) (.node (o7 P) (.node (o409 P) .nil .nil) .nil) (.node (o7 P) (.node (o7 P) .nil .nil) .nil)))))) (.node (o14 P) (.node (o21 P) (.node (o7 P) (.node (o53 P) (.node (o100 P) (.node (o44 P) (.node (o341 P) .nil .nil) (.node (o8 P) .nil .nil)) (.node (o7 P) (.node (o416 P) .nil .nil) .nil)) (.node (o7 P) (.node (o7 P) (.node (o8 P) .nil .nil) .nil) (.node (o7 P) (.node (o454 P) .nil .nil) .nil))) (.node (o79 P) (.node (o122 P) (.node (o205 P) (.node (o7 P) .nil .nil) .nil) (.node (o8 P) (.node (o7 P) .nil .nil) .nil)) (.node (o162 P) (.node (o242 P) (.node (o398 P) .nil .nil) .nil) (.node (o317 P) (.node (o476 P) .nil .nil) .nil)))) (.node (o49 P) (.node (o69 P) (.node (o7 P) (.node (o196 P) (.node (o7 P) .nil .nil) .nil) (.node (o7 P) (.node (o7 P) .nil .nil) .nil)) (.node (o153 P) (.node (o233 P) (.node (o7 P) .nil .nil) .nil) (.node (o307 P) (.node (o7 P) .nil .nil) .nil))) (.node (o89 P) (.node (o132 P) (.node (o215 P) (.node (o7 P) .nil .nil) .nil) (.node (o289 P) (.node (o7 P) .nil .nil) .nil)) (.node (o186 P) (.node (o252 P) (.node (o7 P) .nil .nil) .nil) (.node (o7 P) (.node (o486 P) .nil .nil) .nil))))) (.node (o29 P) (.node (o44 P) (.node (o64 P) (.node (o105 P) (.node (o8 P) (.node (o346 P) .nil .nil) .nil) (.node (o7 P) (.node (o7 P) .nil .nil) .nil)) (.node (o8 P) (.node (o8 P) (.node (o384 P) .nil .nil) .nil) (.node (o302 P) (.node (o459 P) .nil .nil) .nil))) (.node (o7 P) (.node (o127 P) (.node (o210 P) (.node (o7 P) .nil .nil) .nil) (.node (o284 P) (.node (o7 P) .nil .nil) .nil)) (.node (o44 P) (.node (o247 P) (.node (o403 P) .nil .nil) .nil) (.node (o7 P) (.node (o481 P) .nil .nil) .nil)))) (.node (o8 P) (.node (o74 P) (.node (o7 P) (.node (o7 P) (.node (o7 P) .nil .nil) .nil) (.node (o7 P) (.node (o7 P) .nil .nil) .nil)) (.node (o7 P) (.node (o7 P) (.node (o393 P) .nil .nil) .nil) (.node (o312 P) (.node (o469 P) .nil .nil) .nil))) (.node (o95 P) (.node (o137 P) (.node (o220 P) (.node (o7 P) .nil .nil) .nil) (.node (o293 P) (.node (o449 P) .nil .nil) .nil)) (.node (o178 P) (.node (o7 P) (.node (o8 P) .nil .nil) .nil) (.node (o336 P) (.node (o7 P) .nil .nil) .nil)))))))))
noncomputable def tr41 (P : Params) : BT := (.node (o0 P) (.node (o1 P) (.node (o499 P) (.node (o7 P) (.node (o7 P) (.node (o18 P) (.node (o55 P) (.node (o96 P) (.node (o179 P) (.node (o337 P) .nil .nil) (.node (o8 P) .nil .nil)) (.node (o8 P) (.node (o412 P) .nil .nil) .nil)) (.node (o7 P) (.node (o7 P) (.node (o8 P) .nil .nil) (.node (o530 P) .nil .nil)) (.node (o7 P) (.node (o450 P) .nil .nil) .nil))) (.node (o75 P) (.node (o118 P) (.node (o201 P) (.node (o8 P) .nil .nil) (.node (o511 P) .nil .nil)) (.node (o8 P) (.node (o430 P) .nil .nil) .nil)) (.node (o8 P) (.node (o238 P) (.node (o394 P) .nil .nil) (.node (o548 P) .nil .nil)) (.node (o7 P) (.node (o470 P) .nil .nil) .nil)))) (.node (o45 P) (.node (o65 P) (.node (o7 P) (.node (o192 P) (.node (o7 P) .nil .nil) (.node (o7 P) .nil .nil)) (.node (o8 P) (.node (o421 P) .nil .nil) .nil)) (.node (o147 P) (.node (o229 P) (.node (o7 P) .nil .nil) (.node (o7 P) .nil .nil)) (.node (o303 P) (.node (o7 P) .nil .nil) .nil))) (.node (o8 P) (.node (o128 P) (.node (o211 P) (.node (o8 P) .nil .nil) (.node (o520 P) .nil .nil)) (.node (o7 P) (.node (o440 P) .nil .nil) .nil)) (.node (o170 P) (.node (o248 P) (.node (o7 P) .nil .nil) .nil) (.node (o327 P) (.node (o482 P) .nil .nil) .nil))))) (.node (o22 P) (.node (o8 P) (.node (o44 P) (.node (o101 P) (.node (o188 P) (.node (o342 P) .nil .nil) (.node (o495 P) .nil .nil)) (.node (o8 P) (.node (o7 P) .nil .nil) .nil)) (.node (o142 P) (.node (o8 P) (.node (o380 P) .nil .nil) (.node (o7 P) .nil .nil)) (.node (o298 P) (.node (o455 P) .nil .nil) .nil))) (.node (o80 P) (.node (o123 P) (.node (o206 P) (.node (o8 P) .nil .nil) (.node (o516 P) .nil .nil)) (.node (o280 P) (.node (o435 P) .nil .nil) .nil)) (.node (o163 P) (.node (o243 P) (.node (o399 P) .nil .nil) (.node (o555 P) .nil .nil)) (.node (o318 P) (.node (o477 P) .nil .nil) .nil)))) (.node (o50 P) (.node (o70 P) (.node (o110 P) (.node (o7 P) (.node (o8 P) .nil .nil) (.node (o7 P) .nil .nil)) (.node (o8 P) (.node (o426 P) .nil .nil) .nil)) (.node (o7 P) (.node (o7 P) (.node (o389 P) .nil .nil) (.node (o8 P) .nil .nil)) (.node (o308 P) (.node (o8 P) .nil .nil) .nil))) (.node (o90 P) (.node (o133 P) (.node (o216 P) (.node (o8 P) .nil .nil) (.node (o525 P) .nil .nil)) (.node (o7 P) (.node (o445 P) .nil .nil) .nil)) (.node (o175 P) (.node (o7 P) (.node (o8 P) .nil .nil) .nil) (.node (o332 P) (.node (o7 P) .nil .nil) .nil)))))) (.node (o32 P) (.node (o18 P) (.node (o500 P) (.node (o58 P) (.node (o98 P) (.node (o182 P) (.node (o339 P) .nil .nil) (.node (o493 P) .nil .nil)) (.node (o259 P) (.node (o415 P) .nil .nil) .nil)) (.node (o7 P) (.node (o222 P) (.node (o378 P) .nil .nil) (.node (o7 P) .nil .nil)) (.node (o7 P) (.node (o452 P) .nil .nil) .nil))) (.node (o7 P) (.node (o8 P) (.node (o8 P) (.node (o358 P) .nil .nil) (.node (o7 P) .nil .nil)) (.node (o278 P) (.node (o7 P) .nil .nil) .nil)) (.node (o160 P) (.node (o8 P) (.node (o396 P) .nil .nil) (.node (o551 P) .nil .nil)) (.node (o314 P) (.node (o8 P) .nil .nil) .nil)))) (.node (o47 P) (.node (o8 P) (.node (o107 P) (.node (o195 P) (.node (o348 P) .nil .nil) (.node (o505 P) .nil .nil)) (.node (o268 P) (.node (o7 P) .nil .nil) .nil)) (.node (o150 P) (.node (o232 P) (.node (o7 P) .nil .nil) (.node (o541 P) .nil .nil)) (.node (o305 P) (.node (o461 P) .nil .nil) .nil))) (.node (o87 P) (.node (o7 P) (.node (o213 P) (.node (o368 P) .nil .nil) (.node (o8 P) .nil .nil)) (.node (o288 P) (.node (o7 P) .nil .nil) .nil)) (.node (o172 P) (.node (o7 P) (.node (o405 P) .nil .nil) .nil) (.node (o7 P) (.node (o7 P) .nil .nil) .nil))))) (.node (o26 P) (.node (o41 P) (.node (o62 P) (.node (o7 P) (.node (o191 P) (.node (o7 P) .nil .nil) (.node (o498 P) .nil .nil)) (.node (o264 P) (.node (o7 P) .nil .nil) .nil)) (.node (o44 P) (.node (o227 P) (.node (o383 P) .nil .nil) (.node (o536 P) .nil .nil)) (.node (o8 P) (.node (o7 P) .nil .nil) .nil))) (.node (o82 P) (.node (o125 P) (.node (o8 P) (.node (o363 P) .nil .nil) (.node (o7 P) .nil .nil)) (.node (o283 P) (.node (o7 P) .nil .nil) .nil)) (.node (o167 P) (.node (o245 P) (.node (o7 P) .nil .nil) .nil) (.node (o325 P) (.node (o479 P) .nil .nil) .nil)))) (.node (o44 P) (.node (o72 P) (.node (o7 P) (.node (o7 P) (.node (o353 P) .nil .nil) (.node (o7 P) .nil .nil)) (.node (o273 P) (.node (o7 P) .nil .nil) .nil)) (.node (o155 P) (.node (o7 P) (.node (o8 P) .nil .nil) (.node (o546 P) .nil .nil)) (.node (o7 P) (.node (o466 P) .nil .nil) .nil))) (.node (o44 P) (.node (o136 P) (.node (o7 P) (.node (o373 P) .nil .nil) (.node (o527 P) .nil .nil)) (.node (o134 P) (.node (o8 P) .nil .nil) .nil)) (.node (o177 P) (.node (o254 P) (.node (o410 P) .nil .nil) .nil) (.node (o8 P) (.node (o488 P) .nil .nil) .nil))))))) (.node (o5 P) (.node (o9 P) (.node (o16 P) (.node (o31 P) (.node (o7 P) (.node (o7 P) (.node (o180 P) (.node (o7 P) .nil .nil) (.node (o7 P) .nil .nil)) (.node (o7 P) (.node (o413 P) .nil .nil) .nil)) (.node (o139 P) (.node (o221 P) (.node (o7 P) .nil .nil) (.node (o8 P) .nil .nil)) (.node (o295 P) (.node (o7 P) .nil .nil) .nil))) (.node (o8 P) (.node (o120 P) (.node (o203 P) (.node (o7 P) .nil .nil) (.node (o513 P) .nil .nil)) (.node (o7 P) (.node (o432 P) .nil .nil) .nil)) (.node (o7 P) (.node (o240 P) (.node (o7 P) .nil .nil) (.node (o549 P) .nil .nil)) (.node (o313 P) (.node (o472 P) .nil .nil) .nil)))) (.node (o8 P) (.node (o67 P) (.node (o106 P) (.node (o193 P) (.node (o347 P) .nil .nil) (.node (o503 P) .nil .nil)) (.node (o7 P) (.node (o423 P) .nil .nil) .nil)) (.node (o7 P) (.node (o230 P) (.node (o386 P) .nil .nil) (.node (o540 P) .nil .nil)) (.node (o7 P) (.node (o460 P) .nil .nil) .nil))) (.node (o7 P) (.node (o8 P) (.node (o7 P) (.node (o7 P) .nil .nil) (.node (o522 P) .nil .nil)) (.node (o286 P) (.node (o442 P) .nil .nil) .nil)) (.node (o8 P) (.node (o8 P) (.node (o404 P) .nil .nil) .nil) (.node (o329 P) (.node (o8 P) .nil .nil) .nil))))) (.node (o24 P) (.node (o7 P) (.node (o7 P) (.node (o8 P) (.node (o189 P) (.node (o8 P) .nil .nil) (.node (o496 P) .nil .nil)) (.node (o7 P) (.node (o418 P) .nil .nil) .nil)) (.node (o144 P) (.node (o7 P) (.node (o381 P) .nil .nil) (.node (o535 P) .nil .nil)) (.node (o300 P) (.node (o8 P) .nil .nil) .nil))) (.node (o81 P) (.node (o7 P) (.node (o208 P) (.node (o7 P) .nil .nil) (.node (o518 P) .nil .nil)) (.node (o281 P) (.node (o437 P) .nil .nil) .nil)) (.node (o165 P) (.node (o7 P) (.node (o8 P) .nil .nil) (.node (o557 P) .nil .nil)) (.node (o320 P) (.node (o7 P) .nil .nil) .nil)))) (.node (o52 P) (.node (o7 P) (.node (o112 P) (.node (o198 P) (.node (o7 P) .nil .nil) (.node (o508 P) .nil .nil)) (.node (o7 P) (.node (o428 P) .nil .nil) .nil)) (.node (o154 P) (.node (o235 P) (.node (o391 P) .nil .nil) (.node (o7 P) .nil .nil)) (.node (o8 P) (.node (o7 P) .nil .nil) .nil))) (.node (o92 P) (.node (o134 P) (.node (o8 P) (.node (o7 P) .nil .nil) (.node (o7 P) .nil .nil)) (.node (o291 P) (.node (o447 P) .nil .nil) .nil)) (.node (o169 P) (.node (o253 P) (.node (o7 P) .nil .nil) .nil) (.node (o334 P) (.node (o487 P) .nil .nil) .nil)))))) (.node (o13 P) (.node (o20 P) (.node (o35 P) (.node (o60 P) (.node (o99 P) (.node (o187 P) (.node (o340 P) .nil .nil) (.node (o7 P) .nil .nil)) (.node (o261 P) (.node (o8 P) .nil .nil) .nil)) (.node (o141 P) (.node (o224 P) (.node (o7 P) .nil .nil) (.node (o533 P) .nil .nil)) (.node (o297 P) (.node (o453 P) .nil .nil) .nil))) (.node (o78 P) (.node (o7 P) (.node (o7 P) (.node (o360 P) .nil .nil) (.node (o515 P) .nil .nil)) (.node (o7 P) (.node (o434 P) .nil .nil) .nil)) (.node (o7 P) (.node (o7 P) (.node (o397 P) .nil .nil) (.node (o553 P) .nil .nil)) (.node (o316 P) (.node (o7 P) .nil .nil) .nil)))) (.node (o48 P) (.node (o7 P) (.node (o109 P) (.node (o8 P) (.node (o350 P) .nil .nil) (.node (o8 P) .nil .nil)) (.node (o270 P) (.node (o425 P) .nil .nil) .nil)) (.node (o152 P) (.node (o8 P) (.node (o388 P) .nil .nil) (.node (o543 P) .nil .nil)) (.node (o306 P) (.node (o463 P) .nil .nil) .nil))) (.node (o7 P) (.node (o131 P) (.node (o214 P) (.node (o370 P) .nil .nil) (.node (o7 P) .nil .nil)) (.node (o8 P) (.node (o444 P) .nil .nil) .nil)) (.node (o173 P) (.node (o251 P) (.node (o407 P) .nil .nil) .nil) (.node (o331 P) (.node (o485 P) .nil .nil) .nil))))) (.node (o33 P) (.node (o43 P) (.node (o7 P) (.node (o104 P) (.node (o7 P) (.node (o345 P) .nil .nil) (.node (o44 P) .nil .nil)) (.node (o134 P) (.node (o420 P) .nil .nil) .nil)) (.node (o7 P) (.node (o7 P) (.node (o8 P) .nil .nil) (.node (o538 P) .nil .nil)) (.node (o7 P) (.node (o458 P) .nil .nil) .nil))) (.node (o84 P) (.node (o126 P) (.node (o7 P) (.node (o365 P) .nil .nil) (.node (o519 P) .nil .nil)) (.node (o8 P) (.node (o439 P) .nil .nil) .nil)) (.node (o169 P) (.node (o246 P) (.node (o402 P) .nil .nil) .nil) (.node (o326 P) (.node (o480 P) .nil .nil) .nil)))) (.node (o7 P) (.node (o73 P) (.node (o117 P) (.node (o200 P) (.node (o355 P) .nil .nil) (.node (o510 P) .nil .nil)) (.node (o275 P) (.node (o429 P) .nil .nil) .nil)) (.node (o157 P) (.node (o237 P) (.node (o7 P) .nil .nil) (.node (o7 P) .nil .nil)) (.node (o311 P) (.node (o468 P) .nil .nil) .nil))) (.node (o7 P) (.node (o8 P) (.node (o219 P) (.node (o375 P) .nil .nil) (.node (o528 P) .nil .nil)) (.node (o8 P) (.node (o7 P) .nil .nil) .nil)) (.node (o8 P) (.node (o256 P) (.node (o7 P) .nil .nil) .nil) (.node (o7 P) (.node (o490 P) .nil .nil) .nil)))))))) (.node (o114 P) (.node (o4 P) (.node (o8 P) (.node (o15 P) (.node (o30 P) (.node (o56 P) (.node (o97 P) (.node (o7 P) (.node (o338 P) .nil .nil) (.node (o491 P) .nil .nil)) (.node (o257 P) (.node (o7 P) .nil .nil) .nil)) (.node (o138 P) (.node (o8 P) (.node (o376 P) .nil .nil) (.node (o7 P) .nil .nil)) (.node (o294 P) (.node (o451 P) .nil .nil) .nil))) (.node (o7 P) (.node (o119 P) (.node (o202 P) (.node (o356 P) .nil .nil) (.node (o512 P) .nil .nil)) (.node (o276 P) (.node (o431 P) .nil .nil) .nil)) (.node (o158 P) (.node (o239 P) (.node (o395 P) .nil .nil) (.node (o7 P) .nil .nil)) (.node (o8 P) (.node (o471 P) .nil .nil) .nil)))) (.node (o7 P) (.node (o66 P) (.node (o8 P) (.node (o7 P) (.node (o8 P) .nil .nil) (.node (o502 P) .nil .nil)) (.node (o266 P) (.node (o422 P) .nil .nil) .nil)) (.node (o148 P) (.node (o7 P) (.node (o385 P) .nil .nil) (.node (o8 P) .nil .nil)) (.node (o304 P) (.node (o8 P) .nil .nil) .nil))) (.node (o85 P) (.node (o7 P) (.node (o212 P) (.node (o366 P) .nil .nil) (.node (o521 P) .nil .nil)) (.node (o285 P) (.node (o441 P) .nil .nil) .nil)) (.node (o7 P) (.node (o7 P) (.node (o8 P) .nil .nil) .nil) (.node (o328 P) (.node (o7 P) .nil .nil) .nil))))) (.node (o23 P) (.node (o39 P) (.node (o61 P) (.node (o7 P) (.node (o7 P) (.node (o7 P) .nil .nil) (.node (o7 P) .nil .nil)) (.node (o262 P) (.node (o417 P) .nil .nil) .nil)) (.node (o143 P) (.node (o225 P) (.node (o7 P) .nil .nil) (.node (o8 P) .nil .nil)) (.node (o299 P) (.node (o7 P) .nil .nil) .nil))) (.node (o44 P) (.node (o124 P) (.node (o207 P) (.node (o361 P) .nil .nil) (.node (o517 P) .nil .nil)) (.node (o7 P) (.node (o436 P) .nil .nil) .nil)) (.node (o164 P) (.node (o244 P) (.node (o7 P) .nil .nil) (.node (o556 P) .nil .nil)) (.node (o319 P) (.node (o478 P) .nil .nil) .nil)))) (.node (o51 P) (.node (o71 P) (.node (o111 P) (.node (o197 P) (.node (o351 P) .nil .nil) (.node (o507 P) .nil .nil)) (.node (o271 P) (.node (o427 P) .nil .nil) .nil)) (.node (o44 P) (.node (o234 P) (.node (o390 P) .nil .nil) (.node (o544 P) .nil .nil)) (.node (o7 P) (.node (o464 P) .nil .nil) .nil))) (.node (o91 P) (.node (o6 P) (.node (o7 P) (.node (o371 P) .nil .nil) (.node (o526 P) .nil .nil)) (.node (o290 P) (.node (o446 P) .nil .nil) .nil)) (.node (o176 P) (.node (o8 P) (.node (o408 P) .nil .nil) .nil) (.node (o333 P) (.node (o8 P) .nil .nil) .nil)))))) (.node (o12 P) (.node (o19 P) (.node (o34 P) (.node (o59 P) (.node (o7 P) (.node (o183 P) (.node (o7 P) .nil .nil) (.node (o494 P) .nil .nil)) (.node (o260 P) (.node (o7 P) .nil .nil) .nil)) (.node (o8 P) (.node (o223 P) (.node (o379 P) .nil .nil) (.node (o532 P) .nil .nil)) (.node (o8 P) (.node (o7 P) .nil .nil) .nil))) (.node (o77 P) (.node (o121 P) (.node (o204 P) (.node (o359 P) .nil .nil) (.node (o8 P) .nil .nil)) (.node (o279 P) (.node (o8 P) .nil .nil) .nil)) (.node (o161 P) (.node (o241 P) (.node (o7 P) .nil .nil) (.node (o552 P) .nil .nil)) (.node (o315 P) (.node (o475 P) .nil .nil) .nil)))) (.node (o7 P) (.node (o68 P) (.node (o108 P) (.node (o7 P) (.node (o349 P) .nil .nil) (.node (o7 P) .nil .nil)) (.node (o269 P) (.node (o8 P) .nil .nil) .nil)) (.node (o151 P) (.node (o7 P) (.node (o8 P) .nil .nil) (.node (o542 P) .nil .nil)) (.node (o7 P) (.node (o462 P) .nil .nil) .nil))) (.node (o88 P) (.node (o130 P) (.node (o7 P) (.node (o369 P) .nil .nil) (.node (o523 P) .nil .nil)) (.node (o7 P) (.node (o8 P) .nil .nil) .nil)) (.node (o7 P) (.node (o250 P) (.node (o406 P) .nil .nil) .nil) (.node (o8 P) (.node (o484 P) .nil .nil) .nil))))) (.node (o27 P) (.node (o42 P) (.node (o63 P) (.node (o103 P) (.node (o134 P) (.node (o344 P) .nil .nil) (.node (o7 P) .nil .nil)) (.node (o265 P) (.node (o8 P) .nil .nil) .nil)) (.node (o146 P) (.node (o228 P) (.node (o7 P) .nil .nil) (.node (o537 P) .nil .nil)) (.node (o301 P) (.node (o457 P) .nil .nil) .nil))) (.node (o83 P) (.node (o7 P) (.node (o209 P) (.node (o364 P) .nil .nil) (.node (o8 P) .nil .nil)) (.node (o7 P) (.node (o8 P) .nil .nil) .nil)) (.node (o168 P) (.node (o7 P) (.node (o401 P) .nil .nil) .nil) (.node (o44 P) (.node (o7 P) .nil .nil) .nil)))) (.node (o54 P) (.node (o7 P) (.node (o8 P) (.node (o8 P) (.node (o354 P) .nil .nil) (.node (o8 P) .nil .nil)) (.node (o274 P) (.node (o8 P) .nil .nil) .nil)) (.node (o156 P) (.node (o8 P) (.node (o392 P) .nil .nil) (.node (o547 P) .nil .nil)) (.node (o310 P) (.node (o467 P) .nil .nil) .nil))) (.node (o94 P) (.node (o7 P) (.node (o218 P) (.node (o374 P) .nil .nil) (.node (o7 P) .nil .nil)) (.node (o7 P) (.node (o448 P) .nil .nil) .nil)) (.node (o7 P) (.node (o255 P) (.node (o411 P) .nil .nil) .nil) (.node (o335 P) (.node (o489 P) .nil .nil) .nil))))))) (.node (o6 P) (.node (o10 P) (.node (o17 P) (.node (o7 P) (.node (o57 P) (.node (o8 P) (.node (o324 P) (.node (o8 P) .nil .nil) (.node (o492 P) .nil .nil)) (.node (o258 P) (.node (o414 P) .nil .nil) .nil)) (.node (o140 P) (.node (o7 P) (.node (o377 P) .nil .nil) (.node (o531 P) .nil .nil)) (.node (o296 P) (.node (o8 P) .nil .nil) .nil))) (.node (o76 P) (.node (o7 P) (.node (o7 P) (.node (o357 P) .nil .nil) (.node (o514 P) .nil .nil)) (.node (o277 P) (.node (o433 P) .nil .nil) .nil)) (.node (o159 P) (.node (o7 P) (.node (o8 P) .nil .nil) (.node (o550 P) .nil .nil)) (.node (o7 P) (.node (o7 P) .nil .nil) .nil)))) (.node (o46 P) (.node (o7 P) (.node (o7 P) (.node (o194 P) (.node (o7 P) .nil .nil) (.node (o504 P) .nil .nil)) (.node (o267 P) (.node (o424 P) .nil .nil) .nil)) (.node (o149 P) (.node (o231 P) (.node (o387 P) .nil .nil) (.node (o7 P) .nil .nil)) (.node (o8 P) (.node (o7 P) .nil .nil) .nil))) (.node (o86 P) (.node (o129 P) (.node (o8 P) (.node (o367 P) .nil .nil) (.node (o7 P) .nil .nil)) (.node (o287 P) (.node (o443 P) .nil .nil) .nil)) (.node (o171 P) (.node (o249 P) (.node (o7 P) .nil .nil) .nil) (.node (o330 P) (.node (o483 P) .nil .nil) .nil))))) (.node (o25 P) (.node (o40 P) (.node (o8 P) (.node (o102 P) (.node (o190 P) (.node (o343 P) .nil .nil) (.node (o497 P) .nil .nil)) (.node (o263 P) (.node (o419 P) .nil .nil) .nil)) (.node (o145 P) (.node (o226 P) (.node (o382 P) .nil .nil) (.node (o7 P) .nil .nil)) (.node (o7 P) (.node (o456 P) .nil .nil) .nil))) (.node (o7 P) (.node (o8 P) (.node (o7 P) (.node (o362 P) .nil .nil) (.node (o134 P) .nil .nil)) (.node (o282 P) (.node (o438 P) .nil .nil) .nil)) (.node (o166 P) (.node (o8 P) (.node (o400 P) .nil .nil) (.node (o558 P) .nil .nil)) (.node (o321 P) (.node (o8 P) .nil .nil) .nil)))) (.node (o53 P) (.node (o8 P) (.node (o113 P) (.node (o199 P) (.node (o352 P) .nil .nil) (.node (o509 P) .nil .nil)) (.node (o272 P) (.node (o134 P) .nil .nil) .nil)) (.node (o7 P) (.node (o236 P) (.node (o7 P) .nil .nil) (.node (o545 P) .nil .nil)) (.node (o309 P) (.node (o465 P) .nil .nil) .nil))) (.node (o93 P) (.node (o135 P) (.node (o217 P) (.node (o372 P) .nil .nil) (.node (o8 P) .nil .nil)) (.node (o292 P) (.node (o7 P) .nil .nil) .nil)) (.node (o44 P) (.node (o7 P) (.node (o409 P) .nil .nil) .nil) (.node (o7 P) (.node (o7 P) .nil .nil) .nil)))))) (.node (o14 P) (.node (o21 P) (.node (o7 P) (.node (o53 P) (.node (o100 P) (.node (o44 P) (.node (o341 P) .nil .nil) (.node (o8 P) .nil .nil)) (.node (o7 P) (.node (o416 P) .nil .nil) .nil)) (.node (o7 P) (.node (o7 P) (.node (o8 P) .nil .nil) (.node (o534 P) .nil .nil)) (.node (o7 P) (.node (o454 P) .nil .nil) .nil))) (.node (o79 P) (.node (o122 P) (.node (o205 P) (.node (o7 P) .nil .nil) (.node (o7 P) .nil .nil)) (.node (o8 P) (.node (o7 P) .nil .nil) .nil)) (.node (o162 P) (.node (o242 P) (.node (o398 P) .nil .nil) (.node (o554 P) .nil .nil)) (.node (o317 P) (.node (o476 P) .nil .nil) .nil)))) (.node (o49 P) (.node (o69 P) (.node (o7 P) (.node (o196 P) (.node (o7 P) .nil .nil) (.node (o506 P) .nil .nil)) (.node (o7 P) (.node (o7 P) .nil .nil) .nil)) (.node (o153 P) (.node (o233 P) (.node (o7 P) .nil .nil) (.node (o7 P) .nil .nil)) (.node (o307 P) (.node (o7 P) .nil .nil) .nil))) (.node (o89 P) (.node (o132 P) (.node (o215 P) (.node (o7 P) .nil .nil) (.node (o524 P) .nil .nil)) (.node (o289 P) (.node (o7 P) .nil .nil) .nil)) (.node (o186 P) (.node (o252 P) (.node (o7 P) .nil .nil) .nil) (.node (o7 P) (.node (o486 P) .nil .nil) .nil))))) (.node (o29 P) (.node (o44 P) (.node (o64 P) (.node (o105 P) (.node (o8 P) (.node (o346 P) .nil .nil) (.node (o501 P) .nil .nil)) (.node (o7 P) (.node (o7 P) .nil .nil) .nil)) (.node (o8 P) (.node (o8 P) (.node (o384 P) .nil .nil) (.node (o539 P) .nil .nil)) (.node (o302 P) (.node (o459 P) .nil .nil) .nil))) (.node (o7 P) (.node (o127 P) (.node (o210 P) (.node (o7 P) .nil .nil) (.node (o7 P) .nil .nil)) (.node (o284 P) (.node (o7 P) .nil .nil) .nil)) (.node (o44 P) (.node (o247 P) (.node (o403 P) .nil .nil) .nil) (.node (o7 P) (.node (o481 P) .nil .nil) .nil)))) (.node (o8 P) (.node (o74 P) (.node (o7 P) (.node (o7 P) (.node (o7 P) .nil .nil) (.node (o7 P) .nil .nil)) (.node (o7 P) (.node (o7 P) .nil .nil) .nil)) (.node (o7 P) (.node (o7 P) (.node (o393 P) .nil .nil) (.node (o8 P) .nil .nil)) (.node (o312 P) (.node (o469 P) .nil .nil) .nil))) (.node (o95 P) (.node (o137 P) (.node (o220 P) (.node (o7 P) .nil .nil) (.node (o529 P) .nil .nil)) (.node (o293 P) (.node (o449 P) .nil .nil) .nil)) (.node (o178 P) (.node (o7 P) (.node (o8 P) .nil .nil) .nil) (.node (o336 P) (.node (o7 P) .nil .nil) .nil)))))))))
noncomputable def tr52 (P : Params) : BT := (.node (o0 P) (.node (o1 P) (.node (o559 P) (.node (o7 P) (.node (o7 P) (.node (o18 P) (.node (o55 P) (.node (o96 P) (.node (o179 P) (.node (o337 P) .nil .nil) (.node (o8 P) .nil .nil)) (.node (o8 P) (.node (o412 P) .nil .nil) (.node (o572 P) .nil .nil))) (.node (o7 P) (.node (o7 P) (.node (o8 P) .nil .nil) (.node (o530 P) .nil .nil)) (.node (o7 P) (.node (o450 P) .nil .nil) .nil))) (.node (o75 P) (.node (o118 P) (.node (o201 P) (.node (o8 P) .nil .nil) (.node (o511 P) .nil .nil)) (.node (o8 P) (.node (o430 P) .nil .nil) (.node (o8 P) .nil .nil))) (.node (o8 P) (.node (o238 P) (.node (o394 P) .nil .nil) (.node (o548 P) .nil .nil)) (.node (o7 P) (.node (o470 P) .nil .nil) .nil)))) (.node (o45 P) (.node (o65 P) (.node (o7 P) (.node (o192 P) (.node (o7 P) .nil .nil) (.node (o7 P) .nil .nil)) (.node (o8 P) (.node (o421 P) .nil .nil) (.node (o582 P) .nil .nil))) (.node (o147 P) (.node (o229 P) (.node (o7 P) .nil .nil) (.node (o7 P) .nil .nil)) (.node (o303 P) (.node (o7 P) .nil .nil) .nil))) (.node (o8 P) (.node (o128 P) (.node (o211 P) (.node (o8 P) .nil .nil) (.node (o520 P) .nil .nil)) (.node (o7 P) (.node (o440 P) .nil .nil) .nil)) (.node (o170 P) (.node (o248 P) (.node (o7 P) .nil .nil) (.node (o7 P) .nil .nil)) (.node (o327 P) (.node (o482 P) .nil .nil) .nil))))) (.node (o22 P) (.node (o8 P) (.node (o44 P) (.node (o101 P) (.node (o188 P) (.node (o342 P) .nil .nil) (.node (o495 P) .nil .nil)) (.node (o8 P) (.node (o7 P) .nil .nil) (.node (o577 P) .nil .nil))) (.node (o142 P) (.node (o8 P) (.node (o380 P) .nil .nil) (.node (o7 P) .nil .nil)) (.node (o298 P) (.node (o455 P) .nil .nil) .nil))) (.node (o80 P) (.node (o123 P) (.node (o206 P) (.node (o8 P) .nil .nil) (.node (o516 P) .nil .nil)) (.node (o280 P) (.node (o435 P) .nil .nil) (.node (o596 P) .nil .nil))) (.node (o163 P) (.node (o243 P) (.node (o399 P) .nil .nil) (.node (o555 P) .nil .nil)) (.node (o318 P) (.node (o477 P) .nil .nil) .nil)))) (.node (o50 P) (.node (o70 P) (.node (o110 P) (.node (o7 P) (.node (o8 P) .nil .nil) (.node (o7 P) .nil .nil)) (.node (o8 P) (.node (o426 P) .nil .nil) (.node (o7 P) .nil .nil))) (.node (o7 P) (.node (o7 P) (.node (o389 P) .nil .nil) (.node (o8 P) .nil .nil)) (.node (o308 P) (.node (o8 P) .nil .nil) .nil))) (.node (o90 P) (.node (o133 P) (.node (o216 P) (.node (o8 P) .nil .nil) (.node (o525 P) .nil .nil)) (.node (o7 P) (.node (o445 P) .nil .nil) .nil)) (.node (o175 P) (.node (o7 P) (.node (o8 P) .nil .nil) (.node (o7 P) .nil .nil)) (.node (o332 P) (.node (o7 P) .nil .nil) .nil)))))) (.node (o32 P) (.node (o18 P) (.node (o560 P) (.node (o58 P) (.node (o98 P) (.node (o182 P) (.node (o339 P) .nil .nil) (.node (o493 P) .nil .nil)) (.node (o259 P) (.node (o415 P) .nil .nil) (.node (o8 P) .nil .nil))) (.node (o7 P) (.node (o222 P) (.node (o378 P) .nil .nil) (.node (o7 P) .nil .nil)) (.node (o7 P) (.node (o452 P) .nil .nil) .nil))) (.node (o7 P) (.node (o8 P) (.node (o8 P) (.node (o358 P) .nil .nil) (.node (o7 P) .nil .nil)) (.node (o278 P) (.node (o7 P) .nil .nil) (.node (o7 P) .nil .nil))) (.node (o160 P) (.node (o8 P) (.node (o396 P) .nil .nil) (.node (o551 P) .nil .nil)) (.node (o314 P) (.node (o8 P) .nil .nil) .nil)))) (.node (o47 P) (.node (o8 P) (.node (o107 P) (.node (o195 P) (.node (o348 P) .nil .nil) (.node (o505 P) .nil .nil)) (.node (o268 P) (.node (o7 P) .nil .nil) (.node (o7 P) .nil .nil))) (.node (o150 P) (.node (o232 P) (.node (o7 P) .nil .nil) (.node (o541 P) .nil .nil)) (.node (o305 P) (.node (o461 P) .nil .nil) .nil))) (.node (o87 P) (.node (o7 P) (.node (o213 P) (.node (o368 P) .nil .nil) (.node (o8 P) .nil .nil)) (.node (o288 P) (.node (o7 P) .nil .nil) .nil)) (.node (o172 P) (.node (o7 P) (.node (o405 P) .nil .nil) (.node (o566 P) .nil .nil)) (.node (o7 P) (.node (o7 P) .nil .nil) .nil))))) (.node (o26 P) (.node (o41 P) (.node (o62 P) (.node (o7 P) (.node (o191 P) (.node (o7 P) .nil .nil) (.node (o498 P) .nil .nil)) (.node (o264 P) (.node (o7 P) .nil .nil) (.node (o579 P) .nil .nil))) (.node (o44 P) (.node (o227 P) (.node (o383 P) .nil .nil) (.node (o536 P) .nil .nil)) (.node (o8 P) (.node (o7 P) .nil .nil) .nil))) (.node (o82 P) (.node (o125 P) (.node (o8 P) (.node (o363 P) .nil .nil) (.node (o7 P) .nil .nil)) (.node (o283 P) (.node (o7 P) .nil .nil) .nil)) (.node (o167 P) (.node (o245 P) (.node (o7 P) .nil .nil) (.node (o561 P) .nil .nil)) (.node (o325 P) (.node (o479 P) .nil .nil) .nil)))) (.node (o44 P) (.node (o72 P) (.node (o7 P) (.node (o7 P) (.node (o353 P) .nil .nil) (.node (o7 P) .nil .nil)) (.node (o273 P) (.node (o7 P) .nil .nil) (.node (o588 P) .nil .nil))) (.node (o155 P) (.node (o7 P) (.node (o8 P) .nil .nil) (.node (o546 P) .nil .nil)) (.node (o7 P) (.node (o466 P) .nil .nil) .nil))) (.node (o44 P) (.node (o136 P) (.node (o7 P) (.node (o373 P) .nil .nil) (.node (o527 P) .nil .nil)) (.node (o134 P) (.node (o8 P) .nil .nil) .nil)) (.node (o177 P) (.node (o254 P) (.node (o410 P) .nil .nil) (.node (o7 P) .nil .nil)) (.node (o8 P) (.node (o488 P) .nil .nil) .nil))))))) (.node (o5 P) (.node (o9 P) (.node (o16 P) (.node (o31 P) (.node (o7 P) (.node (o7 P) (.node (o180 P) (.node (o7 P) .nil .nil) (.node (o7 P) .nil .nil)) (.node (o7 P) (.node (o413 P) .nil .nil) (.node (o574 P) .nil .nil))) (.node (o139 P) (.node (o221 P) (.node (o7 P) .nil .nil) (.node (o8 P) .nil .nil)) (.node (o295 P) (.node (o7 P) .nil .nil) .nil))) (.node (o8 P) (.node (o120 P) (.node (o203 P) (.node (o7 P) .nil .nil) (.node (o513 P) .nil .nil)) (.node (o7 P) (.node (o432 P) .nil .nil) (.node (o592 P) .nil .nil))) (.node (o7 P) (.node (o240 P) (.node (o7 P) .nil .nil) (.node (o549 P) .nil .nil)) (.node (o313 P) (.node (o472 P) .nil .nil) .nil)))) (.node (o8 P) (.node (o67 P) (.node (o106 P) (.node (o193 P) (.node (o347 P) .nil .nil) (.node (o503 P) .nil .nil)) (.node (o7 P) (.node (o423 P) .nil .nil) (.node (o8 P) .nil .nil))) (.node (o7 P) (.node (o230 P) (.node (o386 P) .nil .nil) (.node (o540 P) .nil .nil)) (.node (o7 P) (.node (o460 P) .nil .nil) .nil))) (.node (o7 P) (.node (o8 P) (.node (o7 P) (.node (o7 P) .nil .nil) (.node (o522 P) .nil .nil)) (.node (o286 P) (.node (o442 P) .nil .nil) .nil)) (.node (o8 P) (.node (o8 P) (.node (o404 P) .nil .nil) (.node (o564 P) .nil .nil)) (.node (o329 P) (.node (o8 P) .nil .nil) .nil))))) (.node (o24 P) (.node (o7 P) (.node (o7 P) (.node (o8 P) (.node (o189 P) (.node (o8 P) .nil .nil) (.node (o496 P) .nil .nil)) (.node (o7 P) (.node (o418 P) .nil .nil) (.node (o7 P) .nil .nil))) (.node (o144 P) (.node (o7 P) (.node (o381 P) .nil .nil) (.node (o535 P) .nil .nil)) (.node (o300 P) (.node (o8 P) .nil .nil) .nil))) (.node (o81 P) (.node (o7 P) (.node (o208 P) (.node (o7 P) .nil .nil) (.node (o518 P) .nil .nil)) (.node (o281 P) (.node (o437 P) .nil .nil) .nil)) (.node (o165 P) (.node (o7 P) (.node (o8 P) .nil .nil) (.node (o557 P) .nil .nil)) (.node (o320 P) (.node (o7 P) .nil .nil) .nil)))) (.node (o52 P) (.node (o7 P) (.node (o112 P) (.node (o198 P) (.node (o7 P) .nil .nil) (.node (o508 P) .nil .nil)) (.node (o7 P) (.node (o428 P) .nil .nil) (.node (o587 P) .nil .nil))) (.node (o154 P) (.node (o235 P) (.node (o391 P) .nil .nil) (.node (o7 P) .nil .nil)) (.node (o8 P) (.node (o7 P) .nil .nil) .nil))) (.node (o92 P) (.node (o134 P) (.node (o8 P) (.node (o7 P) .nil .nil) (.node (o7 P) .nil .nil)) (.node (o291 P) (.node (o447 P) .nil .nil) .nil)) (.node (o169 P) (.node (o253 P) (.node (o7 P) .nil .nil) (.node (o569 P) .nil .nil)) (.node (o334 P) (.node (o487 P) .nil .nil) .nil)))))) (.node (o13 P) (.node (o20 P) (.node (o35 P) (.node (o60 P) (.node (o99 P) (.node (o187 P) (.node (o340 P) .nil .nil) (.node (o7 P) .nil .nil)) (.node (o261 P) (.node (o8 P) .nil .nil) (.node (o7 P) .nil .nil))) (.node (o141 P) (.node (o224 P) (.node (o7 P) .nil .nil) (.node (o533 P) .nil .nil)) (.node (o297 P) (.node (o453 P) .nil .nil) .nil))) (.node (o78 P) (.node (o7 P) (.node (o7 P) (.node (o360 P) .nil .nil) (.node (o515 P) .nil .nil)) (.node (o7 P) (.node (o434 P) .nil .nil) (.node (o594 P) .nil .nil))) (.node (o7 P) (.node (o7 P) (.node (o397 P) .nil .nil) (.node (o553 P) .nil .nil)) (.node (o316 P) (.node (o7 P) .nil .nil) .nil)))) (.node (o48 P) (.node (o7 P) (.node (o109 P) (.node (o8 P) (.node (o350 P) .nil .nil) (.node (o8 P) .nil .nil)) (.node (o270 P) (.node (o425 P) .nil .nil) (.node (o585 P) .nil .nil))) (.node (o152 P) (.node (o8 P) (.node (o388 P) .nil .nil) (.node (o543 P) .nil .nil)) (.node (o306 P) (.node (o463 P) .nil .nil) .nil))) (.node (o7 P) (.node (o131 P) (.node (o214 P) (.node (o370 P) .nil .nil) (.node (o7 P) .nil .nil)) (.node (o8 P) (.node (o444 P) .nil .nil) .nil)) (.node (o173 P) (.node (o251 P) (.node (o407 P) .nil .nil) (.node (o8 P) .nil .nil)) (.node (o331 P) (.node (o485 P) .nil .nil) .nil))))) (.node (o33 P) (.node (o43 P) (.node (o7 P) (.node (o104 P) (.node (o7 P) (.node (o345 P) .nil .nil) (.node (o44 P) .nil .nil)) (.node (o134 P) (.node (o420 P) .nil .nil) (.node (o580 P) .nil .nil))) (.node (o7 P) (.node (o7 P) (.node (o8 P) .nil .nil) (.node (o538 P) .nil .nil)) (.node (o7 P) (.node (o458 P) .nil .nil) .nil))) (.node (o84 P) (.node (o126 P) (.node (o7 P) (.node (o365 P) .nil .nil) (.node (o519 P) .nil .nil)) (.node (o8 P) (.node (o439 P) .nil .nil) .nil)) (.node (o169 P) (.node (o246 P) (.node (o402 P) .nil .nil) (.node (o8 P) .nil .nil)) (.node (o326 P) (.node (o480 P) .nil .nil) .nil)))) (.node (o7 P) (.node (o73 P) (.node (o117 P) (.node (o200 P) (.node (o355 P) .nil .nil) (.node (o510 P) .nil .nil)) (.node (o275 P) (.node (o429 P) .nil .nil) (.node (o590 P) .nil .nil))) (.node (o157 P) (.node (o237 P) (.node (o7 P) .nil .nil) (.node (o7 P) .nil .nil)) (.node (o311 P) (.node (o468 P) .nil .nil) .nil))) (.node (o7 P) (.node (o8 P) (.node (o219 P) (.node (o375 P) .nil .nil) (.node (o528 P) .nil .nil)) (.node (o8 P) (.node (o7 P) .nil .nil) .nil)) (.node (o8 P) (.node (o256 P) (.node (o7 P) .nil .nil) (.node (o571 P) .nil .nil)) (.node (o7 P) (.node (o490 P) .nil .nil) .nil)))))))) (.node (o114 P) (.node (o4 P) (.node (o8 P) (.node (o15 P) (.node (o30 P) (.node (o56 P) (.node (o97 P) (.node (o7 P) (.node (o338 P) .nil .nil) (.node (o491 P) .nil .nil)) (.node (o257 P) (.node (o7 P) .nil .nil) (.node (o573 P) .nil .nil))) (.node (o138 P) (.node (o8 P) (.node (o376 P) .nil .nil) (.node (o7 P) .nil .nil)) (.node (o294 P) (.node (o451 P) .nil .nil) .nil))) (.node (o7 P) (.node (o119 P) (.node (o202 P) (.node (o356 P) .nil .nil) (.node (o512 P) .nil .nil)) (.node (o276 P) (.node (o431 P) .nil .nil) (.node (o591 P) .nil .nil))) (.node (o158 P) (.node (o239 P) (.node (o395 P) .nil .nil) (.node (o7 P) .nil .nil)) (.node (o8 P) (.node (o471 P) .nil .nil) .nil)))) (.node (o7 P) (.node (o66 P) (.node (o8 P) (.node (o7 P) (.node (o8 P) .nil .nil) (.node (o502 P) .nil .nil)) (.node (o266 P) (.node (o422 P) .nil .nil) (.node (o7 P) .nil .nil))) (.node (o148 P) (.node (o7 P) (.node (o385 P) .nil .nil) (.node (o8 P) .nil .nil)) (.node (o304 P) (.node (o8 P) .nil .nil) .nil))) (.node (o85 P) (.node (o7 P) (.node (o212 P) (.node (o366 P) .nil .nil) (.node (o521 P) .nil .nil)) (.node (o285 P) (.node (o441 P) .nil .nil) .nil)) (.node (o7 P) (.node (o7 P) (.node (o8 P) .nil .nil) (.node (o563 P) .nil .nil)) (.node (o328 P) (.node (o7 P) .nil .nil) .nil))))) (.node (o23 P) (.node (o39 P) (.node (o61 P) (.node (o7 P) (.node (o7 P) (.node (o7 P) .nil .nil) (.node (o7 P) .nil .nil)) (.node (o262 P) (.node (o417 P) .nil .nil) (.node (o578 P) .nil .nil))) (.node (o143 P) (.node (o225 P) (.node (o7 P) .nil .nil) (.node (o8 P) .nil .nil)) (.node (o299 P) (.node (o7 P) .nil .nil) .nil))) (.node (o44 P) (.node (o124 P) (.node (o207 P) (.node (o361 P) .nil .nil) (.node (o517 P) .nil .nil)) (.node (o7 P) (.node (o436 P) .nil .nil) .nil)) (.node (o164 P) (.node (o244 P) (.node (o7 P) .nil .nil) (.node (o556 P) .nil .nil)) (.node (o319 P) (.node (o478 P) .nil .nil) .nil)))) (.node (o51 P) (.node (o71 P) (.node (o111 P) (.node (o197 P) (.node (o351 P) .nil .nil) (.node (o507 P) .nil .nil)) (.node (o271 P) (.node (o427 P) .nil .nil) (.node (o8 P) .nil .nil))) (.node (o44 P) (.node (o234 P) (.node (o390 P) .nil .nil) (.node (o544 P) .nil .nil)) (.node (o7 P) (.node (o464 P) .nil .nil) .nil))) (.node (o91 P) (.node (o6 P) (.node (o7 P) (.node (o371 P) .nil .nil) (.node (o526 P) .nil .nil)) (.node (o290 P) (.node (o446 P) .nil .nil) .nil)) (.node (o176 P) (.node (o8 P) (.node (o408 P) .nil .nil) (.node (o568 P) .nil .nil)) (.node (o333 P) (.node (o8 P) .nil .nil) .nil)))))) (.node (o12 P) (.node (o19 P) (.node (o34 P) (.node (o59 P) (.node (o7 P) (.node (o183 P) (.node (o7 P) .nil .nil) (.node (o494 P) .nil .nil)) (.node (o260 P) (.node (o7 P) .nil .nil) (.node (o575 P) .nil .nil))) (.node (o8 P) (.node (o223 P) (.node (o379 P) .nil .nil) (.node (o532 P) .nil .nil)) (.node (o8 P) (.node (o7 P) .nil .nil) .nil))) (.node (o77 P) (.node (o121 P) (.node (o204 P) (.node (o359 P) .nil .nil) (.node (o8 P) .nil .nil)) (.node (o279 P) (.node (o8 P) .nil .nil) (.node (o8 P) .nil .nil))) (.node (o161 P) (.node (o241 P) (.node (o7 P) .nil .nil) (.node (o552 P) .nil .nil)) (.node (o315 P) (.node (o475 P) .nil .nil) .nil)))) (.node (o7 P) (.node (o68 P) (.node (o108 P) (.node (o7 P) (.node (o349 P) .nil .nil) (.node (o7 P) .nil .nil)) (.node (o269 P) (.node (o8 P) .nil .nil) (.node (o584 P) .nil .nil))) (.node (o151 P) (.node (o7 P) (.node (o8 P) .nil .nil) (.node (o542 P) .nil .nil)) (.node (o7 P) (.node (o462 P) .nil .nil) .nil))) (.node (o88 P) (.node (o130 P) (.node (o7 P) (.node (o369 P) .nil .nil) (.node (o523 P) .nil .nil)) (.node (o7 P) (.node (o8 P) .nil .nil) .nil)) (.node (o7 P) (.node (o250 P) (.node (o406 P) .nil .nil) (.node (o7 P) .nil .nil)) (.node (o8 P) (.node (o484 P) .nil .nil) .nil))))) (.node (o27 P) (.node (o42 P) (.node (o63 P) (.node (o103 P) (.node (o134 P) (.node (o344 P) .nil .nil) (.node (o7 P) .nil .nil)) (.node (o265 P) (.node (o8 P) .nil .nil) (.node (o7 P) .nil .nil))) (.node (o146 P) (.node (o228 P) (.node (o7 P) .nil .nil) (.node (o537 P) .nil .nil)) (.node (o301 P) (.node (o457 P) .nil .nil) .nil))) (.node (o83 P) (.node (o7 P) (.node (o209 P) (.node (o364 P) .nil .nil) (.node (o8 P) .nil .nil)) (.node (o7 P) (.node (o8 P) .nil .nil) .nil)) (.node (o168 P) (.node (o7 P) (.node (o401 P) .nil .nil) (.node (o7 P) .nil .nil)) (.node (o44 P) (.node (o7 P) .nil .nil) .nil)))) (.node (o54 P) (.node (o7 P) (.node (o8 P) (.node (o8 P) (.node (o354 P) .nil .nil) (.node (o8 P) .nil .nil)) (.node (o274 P) (.node (o8 P) .nil .nil) (.node (o589 P) .nil .nil))) (.node (o156 P) (.node (o8 P) (.node (o392 P) .nil .nil) (.node (o547 P) .nil .nil)) (.node (o310 P) (.node (o467 P) .nil .nil) .nil))) (.node (o94 P) (.node (o7 P) (.node (o218 P) (.node (o374 P) .nil .nil) (.node (o7 P) .nil .nil)) (.node (o7 P) (.node (o448 P) .nil .nil) .nil)) (.node (o7 P) (.node (o255 P) (.node (o411 P) .nil .nil) (.node (o8 P) .nil .nil)) (.node (o335 P) (.node (o489 P) .nil .nil) .nil))))))) (.node (o6 P) (.node (o10 P) (.node (o17 P) (.node (o7 P) (.node (o57 P) (.node (o8 P) (.node (o324 P) (.node (o8 P) .nil .nil) (.node (o492 P) .nil .nil)) (.node (o258 P) (.node (o414 P) .nil .nil) (.node (o7 P) .nil .nil))) (.node (o140 P) (.node (o7 P) (.node (o377 P) .nil .nil) (.node (o531 P) .nil .nil)) (.node (o296 P) (.node (o8 P) .nil .nil) .nil))) (.node (o76 P) (.node (o7 P) (.node (o7 P) (.node (o357 P) .nil .nil) (.node (o514 P) .nil .nil)) (.node (o277 P) (.node (o433 P) .nil .nil) (.node (o593 P) .nil .nil))) (.node (o159 P) (.node (o7 P) (.node (o8 P) .nil .nil) (.node (o550 P) .nil .nil)) (.node (o7 P) (.node (o7 P) .nil .nil) .nil)))) (.node (o46 P) (.node (o7 P) (.node (o7 P) (.node (o194 P) (.node (o7 P) .nil .nil) (.node (o504 P) .nil .nil)) (.node (o267 P) (.node (o424 P) .nil .nil) (.node (o583 P) .nil .nil))) (.node (o149 P) (.node (o231 P) (.node (o387 P) .nil .nil) (.node (o7 P) .nil .nil)) (.node (o8 P) (.node (o7 P) .nil .nil) .nil))) (.node (o86 P) (.node (o129 P) (.node (o8 P) (.node (o367 P) .nil .nil) (.node (o7 P) .nil .nil)) (.node (o287 P) (.node (o443 P) .nil .nil) .nil)) (.node (o171 P) (.node (o249 P) (.node (o7 P) .nil .nil) (.node (o565 P) .nil .nil)) (.node (o330 P) (.node (o483 P) .nil .nil) .nil))))) (.node (o25 P) (.node (o40 P) (.node (o8 P) (.node (o102 P) (.node (o190 P) (.node (o343 P) .nil .nil) (.node (o497 P) .nil .nil)) (.node (o263 P) (.node (o419 P) .nil .nil) (.node (o8 P) .nil .nil))) (.node (o145 P) (.node (o226 P) (.node (o382 P) .nil .nil) (.node (o7 P) .nil .nil)) (.node (o7 P) (.node (o456 P) .nil .nil) .nil))) (.node (o7 P) (.node (o8 P) (.node (o7 P) (.node (o362 P) .nil .nil) (.node (o134 P) .nil .nil)) (.node (o282 P) (.node (o438 P) .nil .nil) .nil)) (.node (o166 P) (.node (o8 P) (.node (o400 P) .nil .nil) (.node (o558 P) .nil .nil)) (.node (o321 P) (.node (o8 P) .nil .nil) .nil)))) (.node (o53 P) (.node (o8 P) (.node (o113 P) (.node (o199 P) (.node (o352 P) .nil .nil) (.node (o509 P) .nil .nil)) (.node (o272 P) (.node (o134 P) .nil .nil) (.node (o7 P) .nil .nil))) (.node (o7 P) (.node (o236 P) (.node (o7 P) .nil .nil) (.node (o545 P) .nil .nil)) (.node (o309 P) (.node (o465 P) .nil .nil) .nil))) (.node (o93 P) (.node (o135 P) (.node (o217 P) (.node (o372 P) .nil .nil) (.node (o8 P) .nil .nil)) (.node (o292 P) (.node (o7 P) .nil .nil) .nil)) (.node (o44 P) (.node (o7 P) (.node (o409 P) .nil .nil) (.node (o570 P) .nil .nil)) (.node (o7 P) (.node (o7 P) .nil .nil) .nil)))))) (.node (o14 P) (.node (o21 P) (.node (o7 P) (.node (o53 P) (.node (o100 P) (.node (o44 P) (.node (o341 P) .nil .nil) (.node (o8 P) .nil .nil)) (.node (o7 P) (.node (o416 P) .nil .nil) (.node (o576 P) .nil .nil))) (.node (o7 P) (.node (o7 P) (.node (o8 P) .nil .nil) (.node (o534 P) .nil .nil)) (.node (o7 P) (.node (o454 P) .nil .nil) .nil))) (.node (o79 P) (.node (o122 P) (.node (o205 P) (.node (o7 P) .nil .nil) (.node (o7 P) .nil .nil)) (.node (o8 P) (.node (o7 P) .nil .nil) (.node (o595 P) .nil .nil))) (.node (o162 P) (.node (o242 P) (.node (o398 P) .nil .nil) (.node (o554 P) .nil .nil)) (.node (o317 P) (.node (o476 P) .nil .nil) .nil)))) (.node (o49 P) (.node (o69 P) (.node (o7 P) (.node (o196 P) (.node (o7 P) .nil .nil) (.node (o506 P) .nil .nil)) (.node (o7 P) (.node (o7 P) .nil .nil) (.node (o586 P) .nil .nil))) (.node (o153 P) (.node (o233 P) (.node (o7 P) .nil .nil) (.node (o7 P) .nil .nil)) (.node (o307 P) (.node (o7 P) .nil .nil) .nil))) (.node (o89 P) (.node (o132 P) (.node (o215 P) (.node (o7 P) .nil .nil) (.node (o524 P) .nil .nil)) (.node (o289 P) (.node (o7 P) .nil .nil) .nil)) (.node (o186 P) (.node (o252 P) (.node (o7 P) .nil .nil) (.node (o567 P) .nil .nil)) (.node (o7 P) (.node (o486 P) .nil .nil) .nil))))) (.node (o29 P) (.node (o44 P) (.node (o64 P) (.node (o105 P) (.node (o8 P) (.node (o346 P) .nil .nil) (.node (o501 P) .nil .nil)) (.node (o7 P) (.node (o7 P) .nil .nil) (.node (o581 P) .nil .nil))) (.node (o8 P) (.node (o8 P) (.node (o384 P) .nil .nil) (.node (o539 P) .nil .nil)) (.node (o302 P) (.node (o459 P) .nil .nil) .nil))) (.node (o7 P) (.node (o127 P) (.node (o210 P) (.node (o7 P) .nil .nil) (.node (o7 P) .nil .nil)) (.node (o284 P) (.node (o7 P) .nil .nil) .nil)) (.node (o44 P) (.node (o247 P) (.node (o403 P) .nil .nil) (.node (o562 P) .nil .nil)) (.node (o7 P) (.node (o481 P) .nil .nil) .nil)))) (.node (o8 P) (.node (o74 P) (.node (o7 P) (.node (o7 P) (.node (o7 P) .nil .nil) (.node (o7 P) .nil .nil)) (.node (o7 P) (.node (o7 P) .nil .nil) (.node (o7 P) .nil .nil))) (.node (o7 P) (.node (o7 P) (.node (o393 P) .nil .nil) (.node (o8 P) .nil .nil)) (.node (o312 P) (.node (o469 P) .nil .nil) .nil))) (.node (o95 P) (.node (o137 P) (.node (o220 P) (.node (o7 P) .nil .nil) (.node (o529 P) .nil .nil)) (.node (o293 P) (.node (o449 P) .nil .nil) .nil)) (.node (o178 P) (.node (o7 P) (.node (o8 P) .nil .nil) (.node (o7 P) .nil .nil)) (.node (o336 P) (.node (o7 P) .nil .nil) .nil)))))))))
noncomputable abbrev lf : Life := ⟨[], [], [], 0, [], [], false, (List.toArray []), [], 0, false, false, false, 0, [2000, 10, 10], false, 0, true, [], [], 0, false⟩
noncomputable abbrev dr : Drawn := ⟨0, 0, 0, 0⟩
noncomputable def he (P : Params) : Heap := ⟨⟨[o0 P, o1 P, o2 P, o3 P, o4 P, o5 P, o6 P, o7 P, o8 P, o9 P, o10 P, o11 P, o12 P, o13 P, o14 P, o7 P, o15 P, o16 P, o17 P, o18 P, o19 P, o20 P, o21 P, o22 P, o23 P, o24 P, o25 P, o26 P, o27 P, o28 P, o29 P, o18 P, o30 P, o31 P]⟩, lf⟩
noncomputable def h0 (P : Params) : Heap := ⟨⟨[o0 P, o1 P, o2 P, o3 P, o4 P, o5 P, o6 P, o7 P, o8 P, o9 P, o10 P, o32 P, o12 P, o13 P, o14 P, o7 P, o15 P, o16 P, o17 P, o18 P, o19 P, o20 P, o21 P, o22 P, o23 P, o24 P, o25 P, o26 P, o27 P, o33 P, o29 P, o18 P, o30 P, o31 P]⟩, lf⟩
noncomputable def hb (P : Params) : Heap := ⟨⟨[o0 P, o1 P, o2 P, o3 P, o4 P, o5 P, o6 P, o7 P, o8 P, o9 P, o10 P, o32 P, o12 P, o13 P, o14 P, o7 P, o15 P, o16 P, o17 P, o18 P, o19 P, o20 P, o21 P, o22 P, o23 P, o24 P, o25 P, o26 P, o27 P, o33 P, o29 P, o18 P, o30 P, o31 P, o7 P, o8 P, o34 P, o35 P]⟩, lf⟩
noncomputable def h1 (P : Params) : Heap := ⟨⟨[o0 P, o1 P, o114 P, o559 P, o4 P, o5 P, o6 P, o7 P, o8 P, o9 P, o10 P, o32 P, o12 P, o13 P, o14 P, o7 P, o15 P, o16 P, o17 P, o18 P, o19 P, o20 P, o21 P, o22 P, o23 P, o24 P, o25 P, o26 P, o27 P, o33 P, o29 P, o18 P, o30 P, o31 P, o7 P, o560 P, o34 P, o35 P, o7 P, o8 P, o39 P, o7 P, o40 P, o41 P, o42 P, o43 P, o44 P, o45 P, o7 P, o8 P, o46 P, o47 P, o7 P, o48 P, o49 P, o50 P, o51 P, o52 P, o53 P, o44 P, o54 P, o7 P, o8 P, o55 P, o56 P, o7 P, o57 P, o58 P, o59 P, o60 P, o53 P, o44 P, o61 P, o7 P, o8 P, o62 P, o63 P, o7 P, o64 P, o65 P, o66 P, o67 P, o7 P, o8 P, o68 P, o7 P, o69 P, o70 P, o71 P, o7 P, o8 P, o72 P, o7 P, o73 P, o74 P, o75 P, o7 P, o8 P, o76 P, o7 P, o77 P, o78 P, o79 P, o80 P, o44 P, o81 P, o7 P, o82 P, o83 P, o84 P, o7 P, o8 P, o85 P, o7 P, o86 P, o87 P, o88 P, o7 P, o89 P, o90 P, o91 P, o92 P, o93 P, o44 P, o94 P, o7 P, o95 P, o96 P, o97 P, o7 P, o8 P, o98 P, o7 P, o99 P, o100 P, o101 P, o7 P, o8 P, o102 P, o7 P, o103 P, o104 P, o105 P, o7 P, o8 P, o106 P, o7 P, o107 P, o108 P, o109 P, o7 P, o110 P, o111 P, o112 P, o113 P, o7 P, o8 P, o117 P, o7 P, o118 P, o119 P, o120 P, o7 P, o8 P, o121 P, o7 P, o122 P, o123 P, o124 P, o7 P, o8 P, o125 P, o7 P, o126 P, o127 P, o128 P, o7 P, o8 P, o129 P, o7 P, o130 P, o131 P, o132 P, o133 P, o6 P, o134 P, o135 P, o136 P, o7 P, o8 P, o137 P, o7 P, o138 P, o139 P, o140 P, o7 P, o8 P, o141 P, o7 P, o142 P, o143 P, o144 P, o145 P, o44 P, o146 P, o7 P, o8 P, o147 P, o148 P, o7 P, o149 P, o150 P, o151 P, o152 P, o153 P, o7 P, o44 P, o154 P, o7 P, o155 P, o156 P, o157 P, o7 P, o8 P, o158 P, o7 P, o159 P, o160 P, o161 P, o7 P, o162 P, o163 P, o164 P, o165 P, o166 P, o167 P, o168 P, o169 P, o44 P, o170 P, o7 P, o8 P, o171 P, o172 P, o7 P, o173 P, o186 P, o175 P, o176 P, o169 P, o44 P, o177 P, o7 P, o8 P, o178 P, o179 P, o7 P, o180 P, o324 P, o182 P, o183 P, o187 P, o44 P, o188 P, o7 P, o189 P, o190 P, o191 P, o134 P, o7 P, o8 P, o192 P, o7 P, o193 P, o194 P, o195 P, o7 P, o8 P, o196 P, o7 P, o197 P, o198 P, o199 P, o7 P, o8 P, o200 P, o7 P, o201 P, o202 P, o203 P, o7 P, o8 P, o204 P, o7 P, o205 P, o206 P, o207 P, o208 P, o7 P, o8 P, o209 P, o7 P, o210 P, o211 P, o212 P, o7 P, o8 P, o213 P, o7 P, o214 P, o215 P, o216 P, o7 P, o8 P, o217 P, o7 P, o218 P, o219 P, o220 P, o7 P, o8 P, o221 P, o7 P, o222 P, o223 P, o224 P, o7 P, o8 P, o225 P, o7 P, o226 P, o227 P, o228 P, o7 P, o8 P, o229 P, o7 P, o230 P, o231 P, o232 P, o7 P, o8 P, o233 P, o7 P, o234 P, o235 P, o236 P, o7 P, o8 P, o237 P, o7 P, o238 P, o239 P, o240 P, o7 P, o8 P, o241 P, o7 P, o242 P, o243 P, o244 P, o7 P, o8 P, o245 P, o7 P, o246 P, o247 P, o248 P, o7 P, o8 P, o249 P, o7 P, o250 P, o251 P, o252 P, o7 P, o8 P, o253 P, o7 P, o254 P, o255 P, o256 P, o7 P, o8 P, o257 P, o7 P, o258 P, o259 P, o260 P, o261 P, o7 P, o8 P, o262 P, o7 P, o263 P, o264 P, o265 P, o134 P, o7 P, o8 P, o266 P, o7 P, o267 P, o268 P, o269 P, o270 P, o7 P, o8 P, o271 P, o7 P, o272 P, o273 P, o274 P, o275 P, o7 P, o8 P, o276 P, o7 P, o277 P, o278 P, o279 P, o7 P, o8 P, o280 P, o7 P, o281 P, o282 P, o283 P, o7 P, o8 P, o284 P, o7 P, o285 P, o286 P, o287 P, o288 P, o7 P, o8 P, o289 P, o7 P, o290 P, o291 P, o292 P, o134 P, o7 P, o8 P, o293 P, o7 P, o294 P, o295 P, o296 P, o7 P, o8 P, o297 P, o7 P, o298 P, o299 P, o300 P, o7 P, o8 P, o301 P, o7 P, o302 P, o303 P, o304 P, o7 P, o8 P, o305 P, o7 P, o306 P, o307 P, o308 P, o7 P, o8 P, o309 P, o7 P, o310 P, o311 P, o312 P, o7 P, o8 P, o313 P, o7 P, o314 P, o315 P, o316 P, o317 P, o318 P, o319 P, o320 P, o321 P, o325 P, o44 P, o326 P, o7 P, o327 P, o328 P, o329 P, o330 P, o7 P, o8 P, o331 P, o7 P, o332 P, o333 P, o334 P, o7 P, o8 P, o335 P, o7 P, o336 P, o337 P, o338 P, o7 P, o8 P, o339 P, o7 P, o340 P, o341 P, o342 P, o7 P, o8 P, o343 P, o7 P, o344 P, o345 P, o346 P, o7 P, o8 P, o347 P, o7 P, o348 P, o349 P, o350 P, o7 P, o8 P, o351 P, o7 P, o352 P, o353 P, o354 P, o355 P, o7 P, o8 P, o356 P, o7 P, o357 P, o358 P, o359 P, o360 P, o7 P, o8 P, o361 P, o7 P, o362 P, o363 P, o364 P, o365 P, o7 P, o8 P, o366 P, o7 P, o367 P, o368 P, o369 P, o370 P, o7 P, o8 P, o371 P, o7 P, o372 P, o373 P, o374 P, o375 P, o7 P, o8 P, o376 P, o7 P, o377 P, o378 P, o379 P, o7 P, o8 P, o380 P, o7 P, o381 P, o382 P, o383 P, o7 P, o8 P, o384 P, o7 P, o385 P, o386 P, o387 P, o7 P, o8 P, o388 P, o7 P, o389 P, o390 P, o391 P, o7 P, o8 P, o392 P, o7 P, o393 P, o394 P, o395 P, o7 P, o8 P, o396 P, o7 P, o397 P, o398 P, o399 P, o7 P, o8 P, o400 P, o7 P, o401 P, o402 P, o403 P, o7 P, o8 P, o404 P, o7 P, o405 P, o406 P, o407 P, o7 P, o8 P, o408 P, o7 P, o409 P, o410 P, o411 P, o7 P, o8 P, o412 P, o7 P, o413 P, o414 P, o415 P, o7 P, o8 P, o416 P, o7 P, o417 P, o418 P, o419 P, o7 P, o8 P, o420 P, o7 P, o421 P, o422 P, o423 P, o424 P, o7 P, o8 P, o425 P, o7 P, o426 P, o427 P, o428 P, o134 P, o7 P, o8 P, o429 P, o7 P, o430 P, o431 P, o432 P, o433 P, o7 P, o8 P, o434 P, o7 P, o435 P, o436 P, o437 P, o438 P, o7 P, o8 P, o439 P, o7 P, o440 P, o441 P, o442 P, o443 P, o7 P, o8 P, o444 P, o7 P, o445 P, o446 P, o447 P, o7 P, o8 P, o448 P, o7 P, o449 P, o450 P, o451 P, o7 P, o8 P, o452 P, o7 P, o453 P, o454 P, o455 P, o7 P, o8 P, o456 P, o7 P, o457 P, o458 P, o459 P, o7 P, o8 P, o460 P, o7 P, o461 P, o462 P, o463 P, o7 P, o8 P, o464 P, o7 P, o465 P, o466 P, o467 P, o468 P, o469 P, o470 P, o471 P, o472 P, o7 P, o8 P, o475 P, o7 P, o476 P, o477 P, o478 P, o7 P, o8 P, o479 P, o7 P, o480 P, o481 P, o482 P, o7 P, o8 P, o483 P, o7 P, o484 P, o485 P, o486 P, o7 P, o8 P, o487 P, o7 P, o488 P, o489 P, o490 P, o7 P, o8 P, o491 P, o7 P, o492 P, o493 P, o494 P, o7 P, o8 P, o495 P, o7 P, o496 P, o497 P, o498 P, o7 P, o44 P, o501 P, o7 P, o502 P, o503 P, o504 P, o505 P, o7 P, o8 P, o506 P, o7 P, o507 P, o508 P, o509 P, o7 P, o8 P, o510 P, o7 P, o511 P, o512 P, o513 P, o514 P, o7 P, o8 P, o515 P, o7 P, o516 P, o517 P, o518 P, o134 P, o7 P, o8 P, o519 P, o7 P, o520 P, o521 P, o522 P, o7 P, o8 P, o523 P, o7 P, o524 P, o525 P, o526 P, o7 P, o8 P, o527 P, o7 P, o528 P, o529 P, o530 P, o7 P, o8 P, o531 P, o7 P, o532 P, o533 P, o534 P, o7 P, o8 P, o535 P, o7 P, o536 P, o537 P, o538 P, o539 P, o7 P, o8 P, o540 P, o7 P, o541 P, o542 P, o543 P, o7 P, o8 P, o544 P, o7 P, o545 P, o546 P, o547 P, o7 P, o8 P, o548 P, o7 P, o549 P, o550 P, o551 P, o552 P, o553 P, o554 P, o555 P, o556 P, o557 P, o558 P, o561 P, o7 P, o8 P, o562 P, o7 P, o563 P, o564 P, o565 P, o566 P, o7 P, o8 P, o567 P, o7 P, o568 P, o569 P, o570 P, o7 P, o8 P, o571 P, o7 P, o572 P, o573 P, o574 P, o7 P, o8 P, o575 P, o7 P, o576 P, o577 P, o578 P, o7 P, o8 P, o579 P, o7 P, o580 P, o581 P, o582 P, o7 P, o8 P, o583 P, o7 P, o584 P, o585 P, o586 P, o7 P, o8 P, o587 P, o7 P, o588 P, o589 P, o590 P, o7 P, o8 P, o591 P, o592 P, o593 P, o7 P, o8 P, o594 P, o595 P, o596 P]⟩, lf⟩
noncomputable def env0 : Env := { scope := (Challenge.pw_ny0344_01).main.scope, locals := mainNs, globals := mainNs, cells := [], code := .ref 36, frame := some 37 }
noncomputable def cE : Code := .body (behindTheImports Challenge.pw_ny0344_01) env0
noncomputable abbrev B0 : List Frame := [topFrame ⟨0,0,0,0⟩]
noncomputable abbrev sT (t : BT) (n k : Nat) (os : OsState) : SharedT := ⟨t, n, lf, ⟨[]⟩, dr, k, os⟩
noncomputable def sr0 : List Stmt := (behindTheImports Challenge.pw_ny0344_01).drop 0
noncomputable def sl0 : List Stmt := sr0.take 14
noncomputable def sr1 : List Stmt := (behindTheImports Challenge.pw_ny0344_01).drop 14
noncomputable def sl1 : List Stmt := sr1.take 15
noncomputable def sr2 : List Stmt := (behindTheImports Challenge.pw_ny0344_01).drop 29
noncomputable def sl2 : List Stmt := sr2.take 1
noncomputable def sr3 : List Stmt := (behindTheImports Challenge.pw_ny0344_01).drop 30
noncomputable def sl3 : List Stmt := sr3.take 1
noncomputable def sr4 : List Stmt := (behindTheImports Challenge.pw_ny0344_01).drop 31
noncomputable def sl4 : List Stmt := sr4.take 9
noncomputable def sr5 : List Stmt := (behindTheImports Challenge.pw_ny0344_01).drop 40
noncomputable def sl5 : List Stmt := sr5.take 1
noncomputable def sr6 : List Stmt := (behindTheImports Challenge.pw_ny0344_01).drop 41
noncomputable def sl6 : List Stmt := sr6.take 11
noncomputable def sr7 : List Stmt := (behindTheImports Challenge.pw_ny0344_01).drop 52
theorem pf0 (w : World) : (fun os => PySem.W.Fast.tw10110043849684766642 PySem.W.Fast.tw14364793385576792824 Challenge.pw_ny0344_01 w 34 (some (.ref 6)) 1 1325 (sT (trb w.params) 38 324 os) (piecesOf sl0 env0 cE ⟨0,0,0,0⟩ B0)) = fun os => some (Flow.next, sT (tr14 w.params) 155 487 os, cE, ⟨48,0,62,16⟩) := by kernel_rfl
theorem pc0 (w : World) (os : OsState) : segRun treeTable Challenge.pw_ny0344_01 w 34 (some (.ref 6)) 1 1325 (sT (trb w.params) 38 324 os).abs (piecesOf sl0 env0 cE ⟨0,0,0,0⟩ B0) = some (Flow.next, (sT (tr14 w.params) 155 487 os).abs, cE, ⟨48,0,62,16⟩) := by
  refine segRun_of ?_
  rw [PySem.W.Fast.te10110043849684766642, PySem.W.Fast.te14364793385576792824]
  exact congrFun (pf0 w) os
theorem pf1 (w : World) : (fun os => PySem.W.Fast.tw10110043849684766642 PySem.W.Fast.tw14364793385576792824 Challenge.pw_ny0344_01 w 34 (some (.ref 6)) 1 1214 (sT (tr14 w.params) 155 487 os) (piecesOf sl1 env0 cE ⟨48,0,62,16⟩ B0)) = fun os => some (Flow.next, sT (tr29 w.params) 261 676 os, cE, ⟨123,0,124,21⟩) := by kernel_rfl
theorem pc1 (w : World) (os : OsState) : segRun treeTable Challenge.pw_ny0344_01 w 34 (some (.ref 6)) 1 1214 (sT (tr14 w.params) 155 487 os).abs (piecesOf sl1 env0 cE ⟨48,0,62,16⟩ B0) = some (Flow.next, (sT (tr29 w.params) 261 676 os).abs, cE, ⟨123,0,124,21⟩) := by
  refine segRun_of ?_
  rw [PySem.W.Fast.te10110043849684766642, PySem.W.Fast.te14364793385576792824]
  exact congrFun (pf1 w) os
theorem pf2 (w : World) : (fun os => PySem.W.Fast.tw10110043849684766642 PySem.W.Fast.tw14364793385576792824 Challenge.pw_ny0344_01 w 34 (some (.ref 6)) 1 1280 (sT (tr29 w.params) 261 676 os) (piecesOf sl2 env0 cE ⟨123,0,124,21⟩ B0)) = fun os => some (Flow.next, sT (tr30 w.params) 491 938 os, cE, ⟨125,0,294,17⟩) := by kernel_rfl
theorem pc2 (w : World) (os : OsState) : segRun treeTable Challenge.pw_ny0344_01 w 34 (some (.ref 6)) 1 1280 (sT (tr29 w.params) 261 676 os).abs (piecesOf sl2 env0 cE ⟨123,0,124,21⟩ B0) = some (Flow.next, (sT (tr30 w.params) 491 938 os).abs, cE, ⟨125,0,294,17⟩) := by
  refine segRun_of ?_
  rw [PySem.W.Fast.te10110043849684766642, PySem.W.Fast.te14364793385576792824]
  exact congrFun (pf2 w) os
theorem pf3 (w : World) : (fun os => PySem.W.Fast.tw10110043849684766642 PySem.W.Fast.tw14364793385576792824 Challenge.pw_ny0344_01 w 34 (some (.ref 6)) 1 1580 (sT (tr30 w.params) 491 938 os) (piecesOf sl3 env0 cE ⟨125,0,294,17⟩ B0)) = fun os => some (Flow.next, sT (tr31 w.params) 738 1225 os, cE, ⟨295,0,499,17⟩) := by kernel_rfl
theorem pc3 (w : World) (os : OsState) : segRun treeTable Challenge.pw_ny0344_01 w 34 (some (.ref 6)) 1 1580 (sT (tr30 w.params) 491 938 os).abs (piecesOf sl3 env0 cE ⟨125,0,294,17⟩ B0) = some (Flow.next, (sT (tr31 w.params) 738 1225 os).abs, cE, ⟨295,0,499,17⟩) := by
  refine segRun_of ?_
  rw [PySem.W.Fast.te10110043849684766642, PySem.W.Fast.te14364793385576792824]
  exact congrFun (pf3 w) os
theorem pf4 (w : World) : (fun os => PySem.W.Fast.tw10110043849684766642 PySem.W.Fast.tw14364793385576792824 Challenge.pw_ny0344_01 w 34 (some (.ref 6)) 1 227 (sT (tr31 w.params) 738 1225 os) (piecesOf sl4 env0 cE ⟨295,0,499,17⟩ B0)) = fun os => some (Flow.next, sT (tr40 w.params) 780 1286 os, cE, ⟨564,0,564,8⟩) := by kernel_rfl
theorem pc4 (w : World) (os : OsState) : segRun treeTable Challenge.pw_ny0344_01 w 34 (some (.ref 6)) 1 227 (sT (tr31 w.params) 738 1225 os).abs (piecesOf sl4 env0 cE ⟨295,0,499,17⟩ B0) = some (Flow.next, (sT (tr40 w.params) 780 1286 os).abs, cE, ⟨564,0,564,8⟩) := by
  refine segRun_of ?_
  rw [PySem.W.Fast.te10110043849684766642, PySem.W.Fast.te14364793385576792824]
  exact congrFun (pf4 w) os
theorem pf5 (w : World) : (fun os => PySem.W.Fast.tw10110043849684766642 PySem.W.Fast.tw14364793385576792824 Challenge.pw_ny0344_01 w 34 (some (.ref 6)) 1 635 (sT (tr40 w.params) 780 1286 os) (piecesOf sl5 env0 cE ⟨564,0,564,8⟩ B0)) = fun os => some (Flow.next, sT (tr41 w.params) 875 1425 os, cE, ⟨565,0,816,20⟩) := by kernel_rfl
theorem pc5 (w : World) (os : OsState) : segRun treeTable Challenge.pw_ny0344_01 w 34 (some (.ref 6)) 1 635 (sT (tr40 w.params) 780 1286 os).abs (piecesOf sl5 env0 cE ⟨564,0,564,8⟩ B0) = some (Flow.next, (sT (tr41 w.params) 875 1425 os).abs, cE, ⟨565,0,816,20⟩) := by
  refine segRun_of ?_
  rw [PySem.W.Fast.te10110043849684766642, PySem.W.Fast.te14364793385576792824]
  exact congrFun (pf5 w) os
theorem pf6 (w : World) : (fun os => PySem.W.Fast.tw10110043849684766642 PySem.W.Fast.tw14364793385576792824 Challenge.pw_ny0344_01 w 34 (some (.ref 6)) 1 316 (sT (tr41 w.params) 875 1425 os) (piecesOf sl6 env0 cE ⟨565,0,816,20⟩ B0)) = fun os => some (Flow.next, sT (tr52 w.params) 936 1501 os, cE, ⟨880,0,895,15⟩) := by kernel_rfl
theorem pc6 (w : World) (os : OsState) : segRun treeTable Challenge.pw_ny0344_01 w 34 (some (.ref 6)) 1 316 (sT (tr41 w.params) 875 1425 os).abs (piecesOf sl6 env0 cE ⟨565,0,816,20⟩ B0) = some (Flow.next, (sT (tr52 w.params) 936 1501 os).abs, cE, ⟨880,0,895,15⟩) := by
  refine segRun_of ?_
  rw [PySem.W.Fast.te10110043849684766642, PySem.W.Fast.te14364793385576792824]
  exact congrFun (pf6 w) os
end Mine
end
section
open PySem PySem.W PyProof.Rows PySem.Calls PySem.Spec
namespace Mine
theorem pre1 (w : World) : (fun os => PySem.W.Fast.tw15667345088766844465 PySem.W.Fast.tw14364793385576792824 Challenge.pw_ny0344_01 w 34 (some (.ref 6)) 12 (⟨h0 w.params, ⟨[]⟩, dr, 318, os⟩ : Shared) (topStub Challenge.pw_ny0344_01)) = fun os => some ((⟨hb w.params, ⟨[]⟩, dr, 324, os⟩ : Shared), (⟨PySem.W.Fast.tw11892475500146522536 PySem.W.Fast.tw14364793385576792824 cE, cE, ⟨0,0,0,0⟩, B0⟩ : Thread)) := by kernel_rfl
theorem pre (w : World) (os : OsState) : topGo treeTable Challenge.pw_ny0344_01 w 34 (some (.ref 6)) 12 (⟨h0 w.params, ⟨[]⟩, dr, 318, os⟩ : Shared) (topStub Challenge.pw_ny0344_01) = some ((⟨hb w.params, ⟨[]⟩, dr, 324, os⟩ : Shared), (⟨denote treeTable cE, cE, ⟨0,0,0,0⟩, B0⟩ : Thread)) := by
  rw [PySem.W.Fast.te15667345088766844465, PySem.W.Fast.te11892475500146522536, PySem.W.Fast.te14364793385576792824]
  exact congrFun (pre1 w) os
theorem blk1 (w : World) : (fun os => PySem.W.Fast.tw14374325043358763698 PySem.W.Fast.tw14364793385576792824 Challenge.pw_ny0344_01 w 34 (some (.ref 6)) 1 1 (⟨hb w.params, ⟨[]⟩, dr, 324, os⟩ : Shared) (blockOf (behindTheImports Challenge.pw_ny0344_01) env0 cE ⟨0,0,0,0⟩ B0)) = fun os => some (Flow.next, (sT (trb w.params) 38 324 os).abs, cE, ⟨0,0,0,0⟩) := by kernel_rfl
theorem blk (w : World) (os : OsState) : segRun treeTable Challenge.pw_ny0344_01 w 34 (some (.ref 6)) 1 1 (⟨hb w.params, ⟨[]⟩, dr, 324, os⟩ : Shared) (blockOf (behindTheImports Challenge.pw_ny0344_01) env0 cE ⟨0,0,0,0⟩ B0) = some (Flow.next, (sT (trb w.params) 38 324 os).abs, cE, ⟨0,0,0,0⟩) := by
  rw [PySem.W.Fast.te14374325043358763698, PySem.W.Fast.te14364793385576792824]
  exact congrFun (blk1 w) os
theorem fin1 (w : World) : (fun os => PySem.W.Fast.tw14082659384304107361 PySem.W.Fast.tw14364793385576792824 Challenge.pw_ny0344_01 w 34 (some (.ref 6)) 2 (sT (tr52 w.params) 936 1501 os).abs (⟨doneF Flow.next, cE, ⟨880,0,895,15⟩, B0⟩ : Thread)) = fun os => some (⟨h1 w.params, ⟨[]⟩, dr, 1501, os⟩ : Shared) := by kernel_rfl
theorem fin (w : World) (os : OsState) : topRun treeTable Challenge.pw_ny0344_01 w 34 (some (.ref 6)) 2 (sT (tr52 w.params) 936 1501 os).abs (⟨doneF Flow.next, cE, ⟨880,0,895,15⟩, B0⟩ : Thread) = some (⟨h1 w.params, ⟨[]⟩, dr, 1501, os⟩ : Shared) := by
  rw [PySem.W.Fast.te14082659384304107361, PySem.W.Fast.te14364793385576792824]
  exact congrFun (fin1 w) os
theorem sj0 : sr0 = sl0 ++ sr1 := by kernel_rfl
theorem sj1 : sr1 = sl1 ++ sr2 := by kernel_rfl
theorem sj2 : sr2 = sl2 ++ sr3 := by kernel_rfl
theorem sj3 : sr3 = sl3 ++ sr4 := by kernel_rfl
theorem sj4 : sr4 = sl4 ++ sr5 := by kernel_rfl
theorem sj5 : sr5 = sl5 ++ sr6 := by kernel_rfl
theorem sj6 : sr6 = sl6 ++ sr7 := by kernel_rfl
theorem ch6 (w : World) (os : OsState) : topRun treeTable Challenge.pw_ny0344_01 w 34 (some (.ref 6)) (316 + 2) (sT (tr41 w.params) 875 1425 os).abs (restOf sr6 env0 cE ⟨565,0,816,20⟩ B0) = some (⟨h1 w.params, ⟨[]⟩, dr, 1501, os⟩ : Shared) := by
  rw [sj6]
  have e : sr7 = [] := by kernel_rfl
  refine piece_app (pc6 w os) ?_
  rw [e]
  exact piece_nil (fin w os)
theorem ch5 (w : World) (os : OsState) : topRun treeTable Challenge.pw_ny0344_01 w 34 (some (.ref 6)) (635 + (316 + 2)) (sT (tr40 w.params) 780 1286 os).abs (restOf sr5 env0 cE ⟨564,0,564,8⟩ B0) = some (⟨h1 w.params, ⟨[]⟩, dr, 1501, os⟩ : Shared) := by
  rw [sj5]
  exact piece_app (pc5 w os) (ch6 w os)
theorem ch4 (w : World) (os : OsState) : topRun treeTable Challenge.pw_ny0344_01 w 34 (some (.ref 6)) (227 + (635 + (316 + 2))) (sT (tr31 w.params) 738 1225 os).abs (restOf sr4 env0 cE ⟨295,0,499,17⟩ B0) = some (⟨h1 w.params, ⟨[]⟩, dr, 1501, os⟩ : Shared) := by
  rw [sj4]
  exact piece_app (pc4 w os) (ch5 w os)
theorem ch3 (w : World) (os : OsState) : topRun treeTable Challenge.pw_ny0344_01 w 34 (some (.ref 6)) (1580 + (227 + (635 + (316 + 2)))) (sT (tr30 w.params) 491 938 os).abs (restOf sr3 env0 cE ⟨125,0,294,17⟩ B0) = some (⟨h1 w.params, ⟨[]⟩, dr, 1501, os⟩ : Shared) := by
  rw [sj3]
  exact piece_app (pc3 w os) (ch4 w os)
theorem ch2 (w : World) (os : OsState) : topRun treeTable Challenge.pw_ny0344_01 w 34 (some (.ref 6)) (1280 + (1580 + (227 + (635 + (316 + 2))))) (sT (tr29 w.params) 261 676 os).abs (restOf sr2 env0 cE ⟨123,0,124,21⟩ B0) = some (⟨h1 w.params, ⟨[]⟩, dr, 1501, os⟩ : Shared) := by
  rw [sj2]
  exact piece_app (pc2 w os) (ch3 w os)
theorem ch1 (w : World) (os : OsState) : topRun treeTable Challenge.pw_ny0344_01 w 34 (some (.ref 6)) (1214 + (1280 + (1580 + (227 + (635 + (316 + 2)))))) (sT (tr14 w.params) 155 487 os).abs (restOf sr1 env0 cE ⟨48,0,62,16⟩ B0) = some (⟨h1 w.params, ⟨[]⟩, dr, 1501, os⟩ : Shared) := by
  rw [sj1]
  exact piece_app (pc1 w os) (ch2 w os)
theorem ch0 (w : World) (os : OsState) : topRun treeTable Challenge.pw_ny0344_01 w 34 (some (.ref 6)) (1325 + (1214 + (1280 + (1580 + (227 + (635 + (316 + 2))))))) (sT (trb w.params) 38 324 os).abs (restOf sr0 env0 cE ⟨0,0,0,0⟩ B0) = some (⟨h1 w.params, ⟨[]⟩, dr, 1501, os⟩ : Shared) := by
  rw [sj0]
  exact piece_app (pc0 w os) (ch1 w os)
theorem run (w : World) (os : OsState) : topRun treeTable Challenge.pw_ny0344_01 w 34 (some (.ref 6)) (12 + (1 + (1325 + (1214 + (1280 + (1580 + (227 + (635 + (316 + 2))))))))) (⟨h0 w.params, ⟨[]⟩, dr, 318, os⟩ : Shared) (topStub Challenge.pw_ny0344_01) = some (⟨h1 w.params, ⟨[]⟩, dr, 1501, os⟩ : Shared) :=
  go_top (pre w os) (piece_block (blk w os) (ch0 w os))
theorem opn1 (w : World) : PySem.W.Fast.tw10274390034422433532 PySem.W.Fast.tw14364793385576792824 (opening Challenge.pw_ny0344_01) w 2000 (start (opening Challenge.pw_ny0344_01)).1 (start (opening Challenge.pw_ny0344_01)).2 = some ⟨he w.params, ⟨[]⟩, dr, 318, (start (opening Challenge.pw_ny0344_01)).1.os⟩ := by kernel_rfl
theorem opn (w : World) : importEnds treeTable (opening Challenge.pw_ny0344_01) w 2000 (start (opening Challenge.pw_ny0344_01)).1 (start (opening Challenge.pw_ny0344_01)).2 = some ⟨he w.params, ⟨[]⟩, dr, 318, (start (opening Challenge.pw_ny0344_01)).1.os⟩ := by
  rw [PySem.W.Fast.te10274390034422433532, PySem.W.Fast.te14364793385576792824]
  exact opn1 w
theorem fnc1 (w : World) : (fun os => (PySem.W.Fast.tw14289696077712309145 Challenge.pw_ny0344_01 ⟨he w.params, ⟨[]⟩, dr, 318, os⟩).map (fun s => (s.heap, s.gens, s.drawn, s.toks))) = fun _ => some (h0 w.params, ⟨[]⟩, dr, 318) := by kernel_rfl
theorem fnc (w : World) : (fun os => (fenceModules? Challenge.pw_ny0344_01 ⟨he w.params, ⟨[]⟩, dr, 318, os⟩).map (fun s => (s.heap, s.gens, s.drawn, s.toks))) = fun _ => some (h0 w.params, ⟨[]⟩, dr, 318) := by
  rw [PySem.W.Fast.te14289696077712309145]
  exact fnc1 w
theorem opens : ∀ w : World, (fencedOpening treeTable Challenge.pw_ny0344_01 w 13148).map (fun s => (s.heap, s.gens, s.drawn, s.toks)) = some (h0 w.params, ⟨[]⟩, dr, 318) := open_cut opn (by decide) fnc
theorem size0 (w : World) : ((h0 w.params).isNs mainGlobals && (⟨[]⟩ : Array GenState).size == 0, (h0 w.params).objs.size, (h0 w.params).nsMap mainGlobals "__annotations__") = (true, 34, (some (.ref 6) : Option Value)) := by kernel_rfl
end Mine
end
section
open PySem PySem.W PyProof.Rows PySem.Calls PySem.Spec
namespace Mine
noncomputable def kk (P : Params) : Frag := (nat_lit 0, o0 P) :: (nat_lit 2, o114 P) :: (nat_lit 3, o559 P) :: (nat_lit 53, o48 P) :: (nat_lit 54, o49 P) :: (nat_lit 78, o64 P) :: (nat_lit 79, o65 P) :: (nat_lit 87, o70 P) :: (nat_lit 88, o71 P) :: (nat_lit 94, o74 P) :: (nat_lit 95, o75 P) :: (nat_lit 167, o123 P) :: (nat_lit 168, o124 P) :: (nat_lit 174, o127 P) :: (nat_lit 175, o128 P) :: (nat_lit 181, o131 P) :: (nat_lit 182, o132 P) :: (nat_lit 186, o135 P) :: (nat_lit 187, o136 P) :: (nat_lit 200, o143 P) :: (nat_lit 201, o144 P) :: (nat_lit 227, o160 P) :: (nat_lit 228, o161 P) :: (nat_lit 230, o162 P) :: (nat_lit 231, o163 P) :: (nat_lit 232, o164 P) :: (nat_lit 257, o180 P) :: (nat_lit 258, o324 P) :: (nat_lit 488, o319 P) :: (nat_lit 498, o330 P) :: (nat_lit 504, o333 P) :: (nat_lit 505, o334 P) :: (nat_lit 511, o337 P) :: (nat_lit 512, o338 P) :: (nat_lit 518, o341 P) :: (nat_lit 519, o342 P) :: (nat_lit 674, o433 P) :: (nat_lit 680, o436 P) :: (nat_lit 681, o437 P) :: (nat_lit 734, o469 P) :: (nat_lit 735, o470 P) :: (nat_lit 787, o505 P) :: (nat_lit 793, o508 P) :: (nat_lit 794, o509 P) :: (nat_lit 800, o512 P) :: (nat_lit 801, o513 P) :: (nat_lit 802, o514 P) :: (nat_lit 830, o529 P) :: (nat_lit 831, o530 P) :: (nat_lit 837, o533 P) :: (nat_lit 838, o534 P) :: (nat_lit 859, o546 P) :: (nat_lit 860, o547 P) :: (nat_lit 866, o550 P) :: (nat_lit 867, o551 P) :: (nat_lit 869, o553 P) :: (nat_lit 870, o554 P) :: (nat_lit 875, o561 P) :: (nat_lit 881, o564 P) :: (nat_lit 882, o565 P) :: (nat_lit 883, o566 P) :: (nat_lit 889, o569 P) :: (nat_lit 890, o570 P) :: (nat_lit 896, o573 P) :: (nat_lit 897, o574 P) :: (nat_lit 903, o577 P) :: (nat_lit 904, o578 P) :: (nat_lit 910, o581 P) :: (nat_lit 911, o582 P) :: (nat_lit 917, o585 P) :: (nat_lit 918, o586 P) :: (nat_lit 924, o589 P) :: (nat_lit 925, o590 P) :: (nat_lit 929, o592 P) :: (nat_lit 930, o593 P) :: (nat_lit 934, o595 P) :: (nat_lit 935, o596 P) :: []
abbrev ka : List Addr := [0, 2, 3, 53, 54, 78, 79, 87, 88, 94, 95, 167, 168, 174, 175, 181, 182, 186, 187, 200, 201, 227, 228, 230, 231, 232, 257, 258, 488, 498, 504, 505, 511, 512, 518, 519, 674, 680, 681, 734, 735, 787, 793, 794, 800, 801, 802, 830, 831, 837, 838, 859, 860, 866, 867, 869, 870, 875, 881, 882, 883, 889, 890, 896, 897, 903, 904, 910, 911, 917, 918, 924, 925, 929, 930, 934, 935]
theorem ke (P : Params) : ka = (kk P).map (·.1) := by kernel_rfl
noncomputable abbrev HH : Hook := kHook kk ka ke
noncomputable abbrev im0 : { x : Stmt // (Challenge.pw_ny0344_01).main.body.getD 0 (.Pass ⟨0,0,0,0⟩) = x } := ⟨_, by conv => { lhs; whnf }⟩
noncomputable abbrev im1 : { x : Stmt // (Challenge.pw_ny0344_01).main.body.getD 1 (.Pass ⟨0,0,0,0⟩) = x } := ⟨_, by conv => { lhs; whnf }⟩
noncomputable abbrev lawS : Stmt := (Stmt.FunctionDef (Str.ofString "law") as_935 bd_935 [] none [] sc_935 none (Str.ofString "law") ⟨880,0,895,15⟩)
noncomputable def vq : Program := { Challenge.pw_ny0344_01 with main := { (Challenge.pw_ny0344_01).main with body := [im0.1, im1.1, lawS] } }
abbrev lo : List Str := [(Str.ofString "_wall"), (Str.ofString "Error"), (Str.ofString "error_reply"), (Str.ofString "error_proto"), (Str.ofString "parse229"), (Str.ofString "_get_sep"), (Str.ofString "_plain_name"), (Str.ofString "ABCMeta"), (Str.ofString "_ABCLike"), (Str.ofString "_abc_plain_meta"), (Str.ofString "fspath"), (Str.ofString "basename"), (Str.ofString "dirname"), (Str.ofString "dirname_posixpath"), (Str.ofString "_twin_re_1"), (Str.ofString "_whence"), (Str.ofString "_index"), (Str.ofString "UnsupportedOperation"), (Str.ofString "IOBase"), (Str.ofString "BufferedIOBase"), (Str.ofString "TextIOBase"), (Str.ofString "BytesIO"), (Str.ofString "StringIO"), (Str.ofString "_kind"), (Str.ofString "_fspath"), (Str.ofString "_check_arg_types"), (Str.ofString "isabs"), (Str.ofString "join"), (Str.ofString "dirname_path"), (Str.ofString "shlex"), (Str.ofString "split"), (Str.ofString "_find_unsafe"), (Str.ofString "quote"), (Str.ofString "_law_sign"), (Str.ofString "_law_mark"), (Str.ofString "_law_fields"), (Str.ofString "_law_climbed"), (Str.ofString "_law_told"), (Str.ofString "_law_due")]
noncomputable abbrev Xt0 : Shared → Bool := fun s => xlAt vq [] s && recOk (Challenge.rw_ny0344_01.row.toRowW.records) s
theorem look1 (w : World) : (fun os : OsState => (staticsOk (importedModules (Challenge.pw_ny0344_01).main.body) (h0 w.params) (h1 w.params) && namesBound Challenge.pw_ny0344_01 (h1 w.params) && gensDone (⟨h1 w.params, ⟨[]⟩, dr, 1501, os⟩ : Shared) && laidKept (h0 w.params) (h1 w.params))) = fun _ => true := by kernel_rfl
theorem look2 (w : World) : (fun os : OsState => openSeen vq lo (importedModules (Challenge.pw_ny0344_01).main.body) Xt0 true (⟨h1 w.params, ⟨[]⟩, dr, 1501, os⟩ : Shared)) = fun _ => openGood vq lo := by kernel_rfl
theorem look3 (w : World) : (fun os : OsState => HH.obs (⟨h1 w.params, ⟨[]⟩, dr, 1501, os⟩ : Shared)) = fun _ => HH.val w := by kernel_rfl
end Mine
end
section
open PySem PySem.W PyProof.Rows PySem.Calls PySem.Spec
namespace Mine
theorem looks0 (w : World) : (fun os : OsState => ((staticsOk (importedModules (Challenge.pw_ny0344_01).main.body) (h0 w.params) (h1 w.params) && namesBound Challenge.pw_ny0344_01 (h1 w.params) && gensDone (⟨h1 w.params, ⟨[]⟩, dr, 1501, os⟩ : Shared) && laidKept (h0 w.params) (h1 w.params)),
    openSeen vq lo (importedModules (Challenge.pw_ny0344_01).main.body) Xt0 true (⟨h1 w.params, ⟨[]⟩, dr, 1501, os⟩ : Shared), HH.obs (⟨h1 w.params, ⟨[]⟩, dr, 1501, os⟩ : Shared))) = fun _ => (true, openGood vq lo, HH.val w) :=
  funext fun os => looks_pair (congrFun (look1 w) os) (looks_pair (congrFun (look2 w) os) (congrFun (look3 w) os))
theorem left0 : LeftO Challenge.pw_ny0344_01 vq lo Xt0 HH.obs HH.val 13148 := LeftO.of_pieces opens size0 run (by decide) looks0
theorem said1 : PySem.W.Fast.tw9446332074065402090 Challenge.rw_ny0344_01 = true := by kernel_rfl
theorem said : Challenge.rw_ny0344_01.wellSaid = true := by rw [PySem.W.Fast.te9446332074065402090]; exact said1
noncomputable abbrev dLaw : DefRec := ⟨Str.ofString "law", as_935, bd_935, sc_935, ⟨880,0,895,15⟩⟩
theorem hok : (chainsOk vq && opensWell Challenge.rw_ny0344_01.row.prog && (frees Challenge.rw_ny0344_01.row.toRowW && Challenge.rw_ny0344_01.row.within.isEmpty)) = true := by kernel_rfl
theorem hbare : Challenge.rw_ny0344_01.row.prog.bare := ⟨rfl, rfl, rfl, rfl, rfl, by decide +kernel⟩
theorem hdef : defOf vq Challenge.rw_ny0344_01.row.name = some (dLaw, []) := by kernel_rfl
theorem htd : Challenge.rw_ny0344_01.row.prog.theDef Challenge.rw_ny0344_01.row.name = some (dLaw.params, dLaw.body, dLaw.scope) := by kernel_rfl
theorem hd (hw : Challenge.rw_ny0344_01.row.toRowW.promised) (walk : WalkO vq lo (XL vq []) HH.says Challenge.rw_ny0344_01.row.toRowW dLaw [] fun f vs => PySem.call f vs) : Challenge.rw_ny0344_01.Holds :=
  holds_law said fun k1 => holds_open (q := vq) (loose := lo) (Xt := Xt0) (XP := XL vq []) (Yf := HH.obs) (Ya := HH.val) (YP := HH.says) (N := 13148) left0 HH.of HH.keeps
    (fun s e => xl_of s (Bool.and_eq_true_iff.mp e).1) XL.keeps hdef htd rfl (fun s e => recFacts_of (Bool.and_eq_true_iff.mp e).2) rfl k1 hok hbare hw walk
end Mine
end
section
open PySem PySem.W PyProof.Rows PySem.Spec PySem.Calls
namespace Mine
noncomputable abbrev pg : Program := Challenge.rw_ny0344_01.row.prog
end Mine
end
section
open PySem PySem.W PyProof.Rows PySem.Spec PySem.Calls
namespace Mine
noncomputable abbrev wl838 : { x : Stmt // bd_838.getD 2 (.Pass ⟨0,0,0,0⟩) = x } := ⟨_, by conv => { lhs; whnf }⟩
noncomputable abbrev wb838 : { x : List Stmt // (match wl838.1 with | .While _ b _ _ => b | _ => []) = x } := ⟨_, by conv => { lhs; whnf }⟩
abbrev wcS : Str := Str.ofString "abcdfeghijklmnopqrstuvwxyzABCDEFGHIJKLMNOPQRSTUVWXYZ0123456789_" ++ Str.ofString "ßàáâãäåæçèéêëìíîïðñòóôõöøùúûüýþÿÀÁÂÃÄÅÆÇÈÉÊËÌÍÎÏÐÑÒÓÔÕÖØÙÚÛÜÝÞ"
def lexD (hs : Nat → Int) (ts : Nat → Tok) (y q1 q2 : Nat) (st : Value) (tok : Str) (tk : Tok) (vt : Nat → Tok) : List DictEntry :=
  [⟨hs 0, .str (Str.ofString "instream") (ts 0), .ref y⟩, ⟨hs 1, .str (Str.ofString "infile") (ts 1), .none⟩, ⟨hs 2, .str (Str.ofString "posix") (ts 2), .bool true⟩,
   ⟨hs 3, .str (Str.ofString "eof") (ts 3), .none⟩, ⟨hs 4, .str (Str.ofString "commenters") (ts 4), .str (Str.ofString "") (vt 0)⟩, ⟨hs 5, .str (Str.ofString "wordchars") (ts 5), .str wcS (vt 1)⟩,
   ⟨hs 6, .str (Str.ofString "whitespace") (ts 6), .str (Str.ofString " \t\r\n") (vt 2)⟩, ⟨hs 7, .str (Str.ofString "whitespace_split") (ts 7), .bool true⟩,
   ⟨hs 8, .str (Str.ofString "quotes") (ts 8), .str (Str.ofString "'\"") (vt 3)⟩, ⟨hs 9, .str (Str.ofString "escape") (ts 9), .str (Str.ofString "\\") (vt 4)⟩,
   ⟨hs 10, .str (Str.ofString "escapedquotes") (ts 10), .str (Str.ofString "\"") (vt 5)⟩, ⟨hs 11, .str (Str.ofString "state") (ts 11), st⟩,
   ⟨hs 12, .str (Str.ofString "pushback") (ts 12), .ref q1⟩, ⟨hs 13, .str (Str.ofString "lineno") (ts 13), .int 1 (vt 6)⟩, ⟨hs 14, .str (Str.ofString "debug") (ts 14), .int 0 (vt 7)⟩,
   ⟨hs 15, .str (Str.ofString "token") (ts 15), .str tok tk⟩, ⟨hs 16, .str (Str.ofString "filestack") (ts 16), .ref q2⟩, ⟨hs 17, .str (Str.ofString "source") (ts 17), .none⟩,
   ⟨hs 18, .str (Str.ofString "_punctuation_chars") (ts 18), .str (Str.ofString "") (vt 8)⟩]
abbrev lcl (m u : Str → Option Value) (x : Nat) (q : Value) (t3 : Tok) : Str → Option Value :=
  kstB (fun z => if [Str.ofString "nextchar", Str.ofString "quoted", Str.ofString "escapedstate"].contains z then u z else m z) [(Str.ofString "self", .ref x), (Str.ofString "quoted", q), (Str.ofString "escapedstate", .str (Str.ofString " ") t3)]
def sioD (hs : Nat → Int) (ts : Nat → Tok) (nl : Value) (buf : Str) (tb : Tok) (pos : Int) (tp : Tok) : List DictEntry :=
  [⟨hs 20, .str (Str.ofString "_StringIO__newline") (ts 20), nl⟩, ⟨hs 21, .str (Str.ofString "_StringIO__buf") (ts 21), .str buf tb⟩, ⟨hs 22, .str (Str.ofString "_StringIO__pos") (ts 22), .int pos tp⟩]
def Halt (P : Prop) : Prop := P
theorem halt_in {P : Prop} (h : Halt P) : P := h
def LocOk (m m' : Str → Option Value) (x : Nat) (q : Bool) (t3 : Tok) : Prop :=
  m' (Str.ofString "self") = some (.ref x) ∧ m' (Str.ofString "quoted") = some (.bool q) ∧ m' (Str.ofString "escapedstate") = some (.str (Str.ofString " ") t3) ∧
  ∀ z, z ≠ Str.ofString "self" → z ≠ Str.ofString "quoted" → z ≠ Str.ofString "escapedstate" → z ≠ Str.ofString "nextchar" → m' z = m z
theorem kst_else {m u : Str → Option Value} {x : Nat} {q : Value} {t3 : Tok} {z : Str} (h1 : z ≠ Str.ofString "self") (h2 : z ≠ Str.ofString "quoted") (h3 : z ≠ Str.ofString "escapedstate") (h4 : z ≠ Str.ofString "nextchar") : lcl m u x q t3 z = m z := by
  simp [lcl, kstB, h1, h2, h3, h4]
theorem locA (m u : Str → Option Value) (x : Nat) (q : Bool) (t3 : Tok) (v : Value) : LocOk m (fun y => if y = Str.ofString "nextchar" then some v else lcl m u x (.bool q) t3 y) x q t3 := by
  refine ⟨rfl, rfl, rfl, fun z h1 h2 h3 h4 => ?_⟩
  show (if z = Str.ofString "nextchar" then some v else lcl m u x (.bool q) t3 z) = m z
  rw [if_neg h4, kst_else h1 h2 h3 h4]
theorem locB (m u : Str → Option Value) (x : Nat) (q q' : Bool) (t3 : Tok) (v : Value) : LocOk m (fun y => if y = Str.ofString "quoted" then some (.bool q') else if y = Str.ofString "nextchar" then some v else lcl m u x (.bool q) t3 y) x q' t3 := by
  refine ⟨rfl, rfl, rfl, fun z h1 h2 h3 h4 => ?_⟩
  show (if z = Str.ofString "quoted" then some (.bool q') else if z = Str.ofString "nextchar" then some v else lcl m u x (.bool q) t3 z) = m z
  rw [if_neg h2, if_neg h4, kst_else h1 h2 h3 h4]
theorem ite_f {b : Bool} {A B : Prop} (h : b = false) (x : B) : if b = true then A else B := by rw [h]; exact x
theorem ite_t {b : Bool} {A B : Prop} (h : b = true) (x : A) : if b = true then A else B := by rw [h]; exact x
open Builtin.Str in
theorem dig_nl (c : Nat) (h : 48 ≤ c ∧ c ≤ 57) : ((⟨#[c]⟩ : Str) == Str.ofString "\n") = false := (by decide +kernel : ∀ c, c < 58 → 48 ≤ c → ((⟨#[c]⟩ : Str) == Str.ofString "\n") = false) c (by omega) h.1
open Builtin.Str in
theorem dig_in (c : Nat) (h : 48 ≤ c ∧ c ≤ 57) : (!(occurrences (Str.ofString " \t\r\n") ⟨#[c]⟩ 0 (Str.length (Str.ofString " \t\r\n")) 1).isEmpty) = false ∧ (!(occurrences (Str.ofString "") ⟨#[c]⟩ 0 (Str.length (Str.ofString "")) 1).isEmpty) = false ∧ (!(occurrences (Str.ofString "\\") ⟨#[c]⟩ 0 (Str.length (Str.ofString "\\")) 1).isEmpty) = false ∧ (!(occurrences (Str.ofString "'\"") ⟨#[c]⟩ 0 (Str.length (Str.ofString "'\"")) 1).isEmpty) = false ∧ ((⟨#[c]⟩ : Str) == Str.ofString "'") = false ∧ ((⟨#[c]⟩ : Str) == Str.ofString "\"") = false ∧ (!(occurrences wcS ⟨#[c]⟩ 0 (Str.length wcS) 1).isEmpty) = true := (by decide +kernel : ∀ c, c < 58 → 48 ≤ c → (!(occurrences (Str.ofString " \t\r\n") ⟨#[c]⟩ 0 (Str.length (Str.ofString " \t\r\n")) 1).isEmpty) = false ∧ (!(occurrences (Str.ofString "") ⟨#[c]⟩ 0 (Str.length (Str.ofString "")) 1).isEmpty) = false ∧ (!(occurrences (Str.ofString "\\") ⟨#[c]⟩ 0 (Str.length (Str.ofString "\\")) 1).isEmpty) = false ∧ (!(occurrences (Str.ofString "'\"") ⟨#[c]⟩ 0 (Str.length (Str.ofString "'\"")) 1).isEmpty) = false ∧ ((⟨#[c]⟩ : Str) == Str.ofString "'") = false ∧ ((⟨#[c]⟩ : Str) == Str.ofString "\"") = false ∧ (!(occurrences wcS ⟨#[c]⟩ 0 (Str.length wcS) 1).isEmpty) = true) c (by omega) h.1
end Mine
end
section
open PySem PySem.W PyProof.Rows PySem.Spec PySem.Calls
open Sem (wp)
namespace Mine
def hasC (l : List (Code × Pos)) : Prop := ∃ x ∈ l, ∃ a, x.1 = Code.builtin "claim.caller" a
def wpC {α : Type} (M : Model) (A : Around) (t : Sem α) (Q : α → Shared → Prop) (E : Value → Shared → Prop) (s : Shared) : Prop :=
  ∀ Γ p, Γ.In A → (∀ q, hasC ((Γ.code, q) :: Γ.below)) → wp M Γ t (fun a _ s' => Q a s') (fun e _ s' => E e s') p s
def codeC (M : Model) (A : Around) (c : Code) (R : Result → Shared → Prop) (s : Shared) : Prop :=
  ∀ Γ p, Γ.code = c → Γ.Below A → hasC Γ.below → wpCode M Γ R p s
section
variable {α β : Type} {M : Model} {A : Around} {E : Value → Shared → Prop} {s : Shared}
theorem hasC_cons {x : Code × Pos} {l : List (Code × Pos)} (h : hasC l) : hasC (x :: l) := by
  obtain ⟨y, hy, r⟩ := h
  exact ⟨y, List.mem_cons_of_mem _ hy, r⟩
theorem wpC_of_any {t : Sem α} {Q : α → Shared → Prop} (h : wpAny M A t Q E s) : wpC M A t Q E s := fun Γ p hΓ _ => h Γ p hΓ
theorem codeC_of_any {c : Code} {R : Result → Shared → Prop} (h : codeAny M A c R s) : codeC M A c R s := fun Γ p hc hΓ _ => h Γ p hc hΓ
theorem wpC_mono {t : Sem α} {Q Q' : α → Shared → Prop} {E' : Value → Shared → Prop} (h : wpC M A t Q E s)
    (hQ : ∀ a s, Q a s → Q' a s) (hE : ∀ e s, E e s → E' e s) : wpC M A t Q' E' s :=
  fun Γ p hΓ hc => Sem.wp_mono M Γ t (fun a _ s => hQ a s) (fun e _ s => hE e s) p s (h Γ p hΓ hc)
theorem codeC_mono {c : Code} {R R' : Result → Shared → Prop} (h : codeC M A c R s) (hR : ∀ r s, R r s → R' r s) : codeC M A c R' s :=
  fun Γ p hc hΓ hC => wpCode_mono hR (h Γ p hc hΓ hC)
theorem wpC_bind {m : Sem α} {f : α → Sem β} {Q : β → Shared → Prop} (h : wpC M A m (fun a s' => wpC M A (f a) Q E s') E s) :
    wpC M A (m >>= f) Q E s := fun Γ p hΓ hc => by
  rw [Sem.wp_bind']
  exact Sem.wp_mono M Γ m (fun a p' s' h' => h' Γ p' hΓ hc) (fun _ _ _ h' => h') p s (h Γ p hΓ hc)
theorem wpC_abind {m : Sem α} {f : α → Sem β} {Q : β → Shared → Prop} (h : wpAny M A m (fun a s' => wpC M A (f a) Q E s') E s) :
    wpC M A (m >>= f) Q E s := wpC_bind (wpC_of_any h)
theorem wpC_pure {a : α} {Q : α → Shared → Prop} (h : Q a s) : wpC M A (pure a) Q E s := fun _ _ _ _ => h
theorem wpC_holding {vs : List Value} {m : Sem α} {Q : α → Shared → Prop} (h : wpC M A m Q E s) : wpC M A (holding vs m) Q E s :=
  fun Γ p hΓ hc => by rw [Sem.wp_holding]; exact h Γ p hΓ hc
theorem wpC_keep {vs : List Value} {m : Sem α} {Q : α → Shared → Prop} (h : wpC M A m Q E s) : wpC M A (m.keep vs) Q E s :=
  fun Γ p hΓ hc => by rw [Sem.wp_keep]; exact h Γ p hΓ hc
theorem wpC_operate {vs : List Value} {m : Sem Value} {Q : Value → Shared → Prop} (h : wpC M A m Q E s) : wpC M A (operate vs m) Q E s :=
  fun Γ p hΓ hc => by rw [Sem.wp_operate]; exact h Γ p hΓ hc
theorem wpC_onRaise {m : Sem α} {k : Value → Sem Unit} {Q : α → Shared → Prop}
    (h : wpC M A m Q (fun e s' => wpAny M A (k e) (fun _ s'' => E e s'') E s') s) : wpC M A (m.onRaise k) Q E s := fun Γ p hΓ hc => by
  rw [Sem.wp_onRaise]
  exact Sem.wp_mono M Γ m (fun _ _ _ h' => h') (fun e p' s' h' => h' Γ p' hΓ) p s (h Γ p hΓ hc)
theorem wpC_attempt {m : Sem α} {Q : Except Value α → Shared → Prop} (h : wpC M A m (fun a => Q (.ok a)) (fun e => Q (.error e)) s) :
    wpC M A m.attempt Q E s := fun Γ p hΓ hc => by rw [Sem.wp_attempt]; exact h Γ p hΓ hc
theorem wpC_run {c : Code} {h : Option Value} {Q : Flow → Shared → Prop}
    (hc : codeC M (A.mark h) c (fun r s' => match r with | .ok f => Q f s' | .error e => E e s') s) (hnb : h ≠ some byPass := by intro x; cases x) :
    wpC M A (PySem.run c h) Q E s :=
  fun Γ p hΓ hC => by rw [Sem.wp_run]; exact hc _ p rfl (hΓ.enter c h p hnb) (hC p)
theorem wpC_runValue {c : Code} {Q : Value → Shared → Prop}
    (hc : codeC M A c (fun r s' => match r with | .ok (.ret v) => Q v s' | .ok _ => False | .error e => E e s') s) :
    wpC M A (runValue c) Q E s := fun Γ p hΓ hC => by rw [Sem.wp_runValue]; exact hc _ p rfl (hΓ.enter c none p (by intro x; cases x)) (hC p)
theorem wpC_call {f : Value} {pos : List Value} {kw : List (Str × Value)} {Q : Value → Shared → Prop}
    (hc : codeC M A (.call f ⟨pos, kw⟩) (fun r s' => match r with | .ok (.ret v) => Q v s' | .ok _ => False | .error e => E e s') s) :
    wpC M A (call f pos kw) Q E s := wpC_runValue hc
theorem codeC_of_tree {c : Code} {R : Result → Shared → Prop}
    (h : wpC M (A.under c) (M.den c) (fun fin s' => match fin with | .done f => R (.ok f) s' | .again c' => c'.quiet = true ∧ codeC M A c' R s')
      (fun e s' => R (.error e) s') s) : codeC M A c R s := fun Γ p hc hΓ hC => by
  rw [wpCode_iff_wp, hc]
  refine Sem.wp_mono M Γ _ (fun fin p' s' h' => ?_) (fun _ _ _ h' => h') p s (h Γ p (hc ▸ hΓ.in) (fun q => hasC_cons hC))
  cases fin with
  | done f => exact h'
  | again c' => exact ⟨h'.1, h'.2 (Γ.goto c') p' rfl (hΓ.goto c') hC⟩
theorem codeC_loop' {c : Code} {R : Result → Shared → Prop} (hq : c.quiet = true) (I : Nat → Shared → Prop)
    (turn : ∀ n s, I n s → wpC M (A.under c) (M.den c)
      (fun fin s' => match fin with
        | .done f => R (.ok f) s'
        | .again c' => (c' = c ∧ ∃ m, m < n ∧ I m s') ∨ (c'.quiet = true ∧ codeC M A c' R s')) (fun e s' => R (.error e) s') s)
    (n : Nat) (h : I n s) : codeC M A c R s := by
  induction n using Nat.strongRecOn generalizing s with
  | ind n ih =>
    refine codeC_of_tree (wpC_mono (turn n s h) (fun fin s' hf => ?_) fun _ _ h' => h')
    cases fin with
    | done f => exact hf
    | again c' =>
      rcases hf with ⟨rfl, m, hm, hI⟩ | hf
      · exact ⟨hq, ih m hm hI⟩
      · exact hf
end
section
variable {α : Type} {M : Model} {A : Around} {E : Value → Shared → Prop} {s : Shared} {env : Env}
theorem wpC_noted {m : Sem α} {Q : α → Shared → Prop} (h : wpC M A m Q (notedBy M A env E) s) : wpC M A (m.onRaise fun x => do noteFrame x env; theTreesLotGoes x) Q E s :=
  wpC_onRaise (wpC_mono h (fun _ _ q => q) fun _ _ hx => wpAny_bind (wpAny_mono hx (fun _ _ e => wpAny_theTreesLotGoes e) fun _ _ e => e))
theorem wpC_execs_cons {st : Stmt} {rest : List Stmt} {Q : Flow → Shared → Prop}
    (h : wpC M A (exec st env) (fun f s' => match f with | .next => wpC M A (execs rest env) Q E s' | f => Q f s') E s) :
    wpC M A (execs (st :: rest) env) Q E s := by
  rw [execs_cons]
  refine wpC_bind (wpC_mono h (fun f s' h' => ?_) fun _ _ x => x)
  cases f <;> first | exact h' | exact wpC_pure h'
theorem wpC_execs_append {l₁ l₂ : List Stmt} {Q : Flow → Shared → Prop}
    (h : wpAny M A (execs l₁ env) (fun f s' => match f with | .next => wpC M A (execs l₂ env) Q E s' | f => Q f s') E s) :
    wpC M A (execs (l₁ ++ l₂) env) Q E s := by
  have e : ∀ l₁ : List Stmt, execs (l₁ ++ l₂) env = (do match ← execs l₁ env with | .next => execs l₂ env | f => pure f) := by
    intro l₁
    induction l₁ with
    | nil => rfl
    | cons st l ih =>
      rw [List.cons_append, execs_cons, execs_cons, ih]
      rw [bind_assoc]
      congr 1
      funext f
      cases f <;> rfl
  rw [e]
  refine wpC_abind (wpAny_mono h (fun f s' h' => ?_) fun _ _ x => x)
  cases f <;> first | exact h' | exact wpC_pure h'
theorem wpC_Assign_Name {x pos' value pos} {Q : Flow → Shared → Prop}
    (h : wpC M A (eval value env) (fun v s₁ => wpC M A (storeName env x v) (fun _ => Q .next) E s₁) E s)
    (hs : swapsWith value (some (.Name x pos')) pos.line env = pure false := by rfl) :
    wpC M A (exec (.Assign [.Name x pos'] value pos) env) Q E s := fun Γ p hΓ hc => by
  simp only [exec_Assign_Name env x pos' value pos hs, Sem.wp_bind', Sem.wp_cmd_standAt, Sem.wp_bindName, Sem.wp_pure']
  exact Sem.wp_mono M Γ _ (fun v _ s₁ h₁ => h₁ Γ _ hΓ hc) (fun _ _ _ h' => h') _ _ (h Γ _ hΓ hc)
theorem wpC_Return_some {e pos} {Q : Flow → Shared → Prop} (h : wpC M A (eval e env) (fun v => Q (.ret v)) E s) :
    wpC M A (exec (.Return (some e) pos) env) Q E s := fun Γ p hΓ hc => by
  simp only [exec_Return_some, Sem.wp_bind', Sem.wp_cmd_standAt, Sem.wp_pure']; exact h Γ _ hΓ hc
theorem wpC_If {test body orelse pos} {Q : Flow → Shared → Prop}
    (h : wpC M A (isTrue test env (eval test env))
      (fun b s₂ => if b then wpC M A (execs body env) Q E s₂ else wpC M A (execs orelse env) Q E s₂) E s) :
    wpC M A (exec (.If test body orelse pos) env) Q E s := fun Γ p hΓ hc => by
  simp only [exec_If, Sem.wp_bind', Sem.wp_cmd_standAt]
  refine Sem.wp_mono M Γ _ (fun b p₂ s₂ h₂ => ?_) (fun _ _ _ h' => h') _ _ (h Γ _ hΓ hc)
  cases b <;> exact h₂ Γ p₂ hΓ hc
theorem wpC_or {x rest pos whole} {Q : Bool → Shared → Prop}
    (h : wpC M A (isTrue x env (eval x env)) (fun c s' => if c then Q true s' else wpC M A (isTrue (.BoolOp .Or rest pos) env whole) Q E s') E s) :
    wpC M A (isTrue (.BoolOp .Or (x :: rest) pos) env whole) Q E s := by
  show wpC M A (do
    match BoolOp.Or, ← isTrue x env (eval x env) with
    | .And, false => pure false
    | .Or, true => pure true
    | _, _ => allTrue .Or rest env) Q E s
  refine wpC_bind (wpC_mono h (fun c s' h' => ?_) fun _ _ x => x)
  cases c with
  | false => exact h'
  | true => exact wpC_pure h'
theorem wpC_Compare1 {l op r pos whole} {Q : Bool → Shared → Prop}
    (h : wpC M A (eval l env) (fun a s₁ => wpAny M A (eval r env) (fun b s₂ => wpAny M A (compareOp op a b)
      (fun c s₃ => wpAny M A (truthy c) Q E s₃) E s₂) E s₁) E s)
    (hm : behindInMarks op r = false := by with_unfolding_all rfl) : wpC M A (isTrue (.Compare l [op] [r] pos) env whole) Q E s := fun Γ p hΓ hc => by
  simp only [isTrue_Compare1, markedBehindIn_of_false hm, Sem.wp_bind', Sem.wp_holding, Sem.wp_cmd_standAt, Sem.wp_operate]
  exact Sem.wp_mono M Γ _ (fun a p₁ s₁ h₁ => Sem.wp_mono M Γ _ (fun b _ s₂ h₂ => Sem.wp_mono M Γ _ (fun c p₃ s₃ h₃ => h₃ Γ p₃ hΓ)
    (fun _ _ _ h' => h') _ _ (h₂ Γ _ hΓ)) (fun _ _ _ h' => h') _ _ (h₁ Γ p₁ hΓ)) (fun _ _ _ h' => h') _ _ (h Γ p hΓ hc)
theorem wpC_callWith_function {pos : Pos} {a : Addr} {o : Obj} {fd : FuncData} {first : List Value} {args : List (Bool × Sem Value)} {Q : Value → Shared → Prop}
    (h : wpAny M A (evalArgs (.ref a) true args []) (fun x s₁ => (s₁.heap.get? a = some o ∧ o.data = .func fd) ∧ wpC M A (call (.ref a) (first ++ x.pos) x.kw) Q E s₁) E s) :
    wpC M A (callWith pos (.ref a) first args []) Q E s := by
  unfold callWith
  refine wpC_abind (wpAny_holding (wpAny_mono h (fun x s₁ h₁ => wpC_abind (wpAny_standAt ?_)) fun _ _ x => x))
  have tail : ∀ {t : Sem Value}, wpC M A t Q E s₁ → wpC M A (t >>= fun r => holding [r] point >>= fun _ => pure r) Q E s₁ :=
    fun ht => wpC_bind (wpC_mono ht (fun r s₂ hr => wpC_abind (wpAny_holding (wpAny_point (wpC_pure hr)))) fun _ _ x => x)
  cases hs : args.any (·.1) <;> simp only [List.any_nil, Bool.or_false] <;>
    refine wpC_abind (m := keeperOf (.ref a)) ?_ <;> unfold keeperOf <;>
    refine wpAny_bind (wpAny_load h₁.1.1 ?_) <;> rw [h₁.1.2] <;> refine wpAny_pure ?_
  · show wpC M A (if _ then _ else _) Q E s₁
    split
    · exact tail h₁.2
    · exact tail (wpC_keep h₁.2)
  · exact tail (wpC_keep h₁.2)
theorem wpC_callWith_type {pos : Pos} {T : String} {args : List (Bool × Sem Value)} {Q : Value → Shared → Prop} (hplain : args.any (·.1) = false)
    (h : wpAny M A (evalArgs (.type T) true args []) (fun x s₁ => wpC M A (call (.type T) x.pos x.kw) Q E s₁) E s) :
    wpC M A (callWith pos (.type T) [] args []) Q E s := by
  unfold callWith
  refine wpC_abind (wpAny_holding (wpAny_mono h (fun x s₁ h₁ => wpC_abind (wpAny_standAt ?_)) fun _ _ x => x))
  have tail : ∀ {t : Sem Value}, wpC M A t Q E s₁ → wpC M A (t >>= fun r => holding [r] point >>= fun _ => pure r) Q E s₁ :=
    fun ht => wpC_bind (wpC_mono ht (fun r s₂ hr => wpC_abind (wpAny_holding (wpAny_point (wpC_pure hr)))) fun _ _ x => x)
  simp only [hplain, List.any_nil, Bool.or_false]
  refine wpC_abind (wpAny_pure ?_)
  exact tail h₁
theorem wpC_Call {func : Expr} {args : List Expr} {pos : Pos} {Q : Value → Shared → Prop}
    (h : wpAny M A (eval func env) (fun f s₁ => wpC M A (callWith pos f [] (backTo pos (starEach args env)) []) Q E s₁) E s)
    (he : eval (.Call func args [] pos) env = (do callWith pos (← eval func env) [] (backTo pos (starEach args env)) (backToKw pos (keywordEach [] env))) := by rfl) :
    wpC M A (eval (.Call func args [] pos) env) Q E s := by
  rw [he]; exact wpC_abind h
theorem wpC_runOwn {c : Code} {h : Option Value} {Q : Flow → Shared → Prop}
    (hc : codeC M (A.mark h) c (fun r s' => match r with | .ok f => Q f s' | .error e => cameBackBy M A env E e s') s) (hnb : h ≠ some byPass := by intro x; cases x) :
    wpC M A (runOwn c env h) Q E s := by
  unfold runOwn
  exact wpC_onRaise (wpC_run hc hnb)
theorem wpC_For {target iter body orelse pos} {Q : Flow → Shared → Prop}
    (h : wpAny M A (eval iter env) (fun x s₁ => wpAny M A (pyIter x) (fun it s₂ =>
      codeC M A (.forLoop target it body orelse env) (fun r s' => match r with | .ok f => Q f s' | .error e => cameBackBy M A env E e s') s₂) E s₁) E s)
    (hs : ∀ x, foldedSetIterable iter env x = pure x := by intro _; rfl) :
    wpC M A (exec (.For target iter body orelse pos) env) Q E s := by
  rw [exec_For]
  exact wpC_abind (wpAny_standAt (wpC_abind (wpAny_mono h (fun x s₁ h₁ => wpC_abind (wpAny_of_eq (hs x) (wpC_abind (wpAny_standAt (wpC_abind (wpAny_holding
    (wpAny_mono h₁ (fun it s₂ h₂ => wpC_runOwn h₂) fun _ _ h' => h'))))))) fun _ _ h' => h')))
theorem wpC_tryStmt_except {body orelse : Sem Flow} {h₀ : ExceptHandler} {hs : List ExceptHandler} {Q : Flow → Shared → Prop}
    (h : wpC M A body (fun f s₁ => match f with | .next => wpC M A orelse Q E s₁ | f => Q f s₁)
      (fun e s₁ => wpAny M A (noteFrame e env) (fun _ s₂ => wpAny M A (setFlight e none) (fun _ s₃ => wpAny M A (handleBy e env (h₀ :: hs)) Q E s₃) E s₂) E s₁) s) :
    wpC M A (tryStmt false body (h₀ :: hs) orelse [] env) Q E s := by
  unfold tryStmt
  simp only [List.isEmpty_nil, if_true, List.isEmpty_cons, Bool.false_and, Bool.false_eq_true, if_false]
  refine wpC_bind (wpC_attempt (wpC_mono h (fun f s₁ h₁ => ?_) fun e s₁ h₁ => ?_))
  · cases f <;> first | exact h₁ | exact wpC_pure h₁
  · exact wpC_of_any (wpAny_bind (wpAny_mono h₁ (fun _ _ h₂ => wpAny_bind h₂) fun _ _ x => x))
theorem wpC_Try_except {body orelse : List Stmt} {h₀ : ExceptHandler} {hs : List ExceptHandler} {pos : Pos} {Q : Flow → Shared → Prop}
    (h : wpC M A (execs body env) (fun f s₁ => match f with | .next => wpC M A (execs orelse env) Q E s₁ | f => Q f s₁)
      (fun e s₁ => wpAny M A (noteFrame e env) (fun _ s₂ => wpAny M A (setFlight e none) (fun _ s₃ => wpAny M A (handleBy e env (h₀ :: hs)) Q E s₃) E s₂) E s₁) s) :
    wpC M A (exec (.Try body (h₀ :: hs) orelse [] pos) env) Q E s := by
  rw [arm_exec_Try]
  exact wpC_abind (wpAny_standAt (wpC_tryStmt_except h))
end
section
variable {prog : Program} {w : World} {A : Around} {E : Value → Shared → Prop} {R : Result → Shared → Prop} {s : Shared}
theorem codeC_func {body env}
    (h : wpC (model prog w) (A.deeper env) (execs body env) (fun f s' => R (.ok (.ret (match f with | .ret v => v | _ => .none))) s')
      (fun e s' => wpAny (model prog w) (A.deeper env) (leaving env e) (fun _ s'' => R (.error e) s'') (fun e' s'' => R (.error e') s'') s') s) :
    codeC (model prog w) A (.func body env) R s := by
  refine codeC_of_tree ?_
  show wpC _ (A.deeper env) (do point; match ← (execs body env).onRaise (leaving env) with | .ret v => ret v | _ => ret .none) _ _ s
  refine wpC_abind (wpAny_point (wpC_bind (wpC_onRaise (wpC_mono h (fun f s' h' => ?_) fun _ _ h' => h'))))
  cases f <;> exact wpC_pure h'
theorem codeC_call_function {a : Addr} {args : Args} {o : Obj} {fd : FuncData} {body : List Stmt} (hroom : A.depth < recursionLimit)
    (ho : s.heap.get? a = some o)
    (hd' : o.data = .func fd) (hco : fd.scope.isCoroutine = false) (hgen : fd.scope.isGenerator = false) (hbody : fd.body = .stmts body) (hcd : s.heap.CodeRec fd.code fd.qualname)
    (h : wpAny (model prog w) A.in1 (bindArgs fd args) (fun binds s₁ =>
      wpAny (model prog w) A.in1 (newFunctionEnv fd.scope fd.globals fd.closure binds (fd.qualname ++ ".<locals>.") (some a) fd.code none fd.builtins)
        (fun env s₂ => s₂.heap.NoLimit ∧ codeC (model prog w) A (.func body env) R s₂) (fun e s' => R (.error e) s') s₁) (fun e s' => R (.error e) s') s) :
    codeC (model prog w) A (.call (.ref a) args) R s := by
  refine codeC_of_tree ?_
  show wpC _ A.in1 (callAny (.ref a) args) _ _ s
  simp only [callAny]
  refine wpC_abind (wpAny_load ho ?_)
  obtain ⟨c, oc, vs, tq, hc, hoc, hdc, hq⟩ := hcd
  simp only [hd', callFunction, hco, hgen, hbody, hc]
  rw [hc] at h
  refine wpC_abind (m := field (.ref c) 1) (wpAny_field hoc hdc hq (wpC_abind (wpAny_pure ?_)))
  exact wpC_abind (wpAny_mono h (fun binds s₁ h₁ => wpC_abind (wpAny_mono h₁ (fun env s₂ h₂ => wpC_abind (wpAny_enterFrame h₂.1 hroom
    (wpC_pure (And.intro rfl h₂.2)))) fun _ _ h' => h')) fun _ _ h' => h')
theorem codeC_call_def {a : Addr} {o : Obj} {fd : FuncData} {body : List Stmt} {args : Args} {binds : List (Str × Value)}
    (hroom : A.depth < recursionLimit) (ho : s.heap.get? a = some o) (hdata : o.data = .func fd) (hlim : s.heap.NoLimit) (hcd : s.heap.CodeRec fd.code fd.qualname)
    (hbody : fd.body = .stmts body) (hbind : BindsTo s fd args binds)
    (hcell : ∀ x ∈ fd.scope.names, x.2 ≠ .cell) (hloc : ∀ x ∈ binds, fd.scope.names.lookup x.1 = some .local)
    (h : ∀ h₀, h₀.Ns s.heap.objs.size (fun x => binds.reverse.lookup x) → (∀ b o, s.heap.get? b = some o → h₀.get? b = some o) →
      wpC (model prog w) (A.deeper (callEnv fd s.heap.objs.size a)) (execs body (callEnv fd s.heap.objs.size a)) (fun f s' => R (.ok (.ret (match f with | .ret v => v | _ => .none))) s')
        (fun e s' => wpAny (model prog w) (A.deeper (callEnv fd s.heap.objs.size a)) (leaving (callEnv fd s.heap.objs.size a) e) (fun _ s'' => R (.error e) s'') (fun e' s'' => R (.error e') s'') s')
        { s with heap := h₀, toks := s.toks + binds.length })
    (hco : fd.scope.isCoroutine = false := by rfl) (hgen : fd.scope.isGenerator = false := by rfl) (hk : fd.scope.kind = .function := by rfl) :
    codeC (model prog w) A (.call (.ref a) args) R s := by
  refine codeC_call_function hroom ho hdata hco hgen hbody hcd (hbind _ _ _ _ ?_)
  refine wpAny_newFunctionEnv hcell hloc (fun h₀ hns₀ hsb₀ => ⟨hlim.fresh _ hsb₀, codeC_func (h h₀ hns₀ fun b o e => ?_)⟩) hk
  exact hsb₀.extBut b o (Nat.ne_of_lt (Heap.lt_size e)) (Heap.get?_push_of_some _ e)
theorem codeC_forLoop {target it body env} (I : Nat → Shared → Prop)
    (turn : ∀ n s, I n s → wpAny (model prog w) A (pyNext it) (fun r s₁ => match r with
      | none => R (.ok .next) s₁
      | some v => wpAny (model prog w) A (assign target env v) (fun _ s₂ => wpC (model prog w) A (execs body env) (fun f s₃ => match f with
          | .next | .cont => ∃ m, m < n ∧ I m s₃
          | .brk => R (.ok .next) s₃
          | .ret v => R (.ok (.ret v)) s₃) (notedBy (model prog w) A env fun e s' => R (.error e) s') s₂) (notedBy (model prog w) A env fun e s' => R (.error e) s') s₁) (notedBy (model prog w) A env fun e s' => R (.error e) s') s)
    (n : Nat) (h : I n s) (ht : ∀ v, letOwnedTupleGo target it v = pure () := by intro _; rfl) : codeC (model prog w) A (.forLoop target it body [] env) R s := by
  refine codeC_loop' rfl I (fun n s hI => ?_) n h
  show wpC _ _ ((forTurn target it body [] env).onRaise (fun x => do noteFrame x env; theTreesLotGoes x)) _ _ s
  refine wpC_noted ?_
  simp only [forTurn]
  refine wpC_abind (wpAny_standAt (wpC_abind (wpAny_onRaise (wpAny_mono (turn n s hI) (fun r s₁ h₁ => ?_) fun _ _ h' => wpAny_standAt h'))))
  cases r with
  | none => exact wpC_pure (.inr ⟨rfl, codeC_of_any (codeAny_block (wpAny_execs_nil h₁))⟩)
  | some v =>
    refine wpC_abind (wpAny_of_eq (ht v) ?_)
    refine wpC_abind (wpAny_mono h₁ (fun _ s₂ h₂ => wpC_bind (wpC_mono h₂ (fun f s₃ h₃ => ?_) fun _ _ h' => h')) fun _ _ h' => h')
    cases f with
    | next => exact wpC_pure (.inl ⟨rfl, h₃⟩)
    | cont => exact wpC_pure (.inl ⟨rfl, h₃⟩)
    | brk => exact wpC_pure h₃
    | ret v => exact wpC_pure h₃
end
end Mine
end
section
open PySem PySem.W PyProof.Rows PySem.Calls PySem.Spec
open Sem (wp)
namespace Mine
theorem thread_C {prog : Program} {w : World} {t : Sem Fin} {s : Shared} {R : Result → Shared → Prop} (hreg : s.asleep)
    (h : wpC (model prog w) callerA t (fun fin s' => ∃ f, fin = .done f ∧ (R (.ok f) s' ∧ leftWithCleanup s'.gens = false)) (fun e s' => R (.error e) s' ∧ leftWithCleanup s'.gens = false) s) :
    ∃ n r s' s'', runN (denote table) prog w n s ⟨t, .builtin "claim.caller" {}, default, []⟩ = .halted (outcomeOf r) s' ∧
      schedN (denote table) prog w n (.single s ⟨t, .builtin "claim.caller" {}, default, []⟩) = .halted (outcomeOf r) s' ∧ s'.forget = s''.forget ∧ R r s'' := by
  have hw : wp (model prog w) ⟨.builtin "claim.caller" {}, none, none, [], none⟩ t (Sem.finPost (model prog w) ⟨.builtin "claim.caller" {}, none, none, [], none⟩ fun r s' => R r s' ∧ leftWithCleanup s'.gens = false)
      (fun e _ s' => R (.error e) s' ∧ leftWithCleanup s'.gens = false) default s := by
    refine Sem.wp_mono _ _ t (fun fin p' s' h' => ?_) (fun _ _ _ h' => h') default s (h _ default caller_in fun q => ⟨_, List.mem_cons_self, _, rfl⟩)
    obtain ⟨f, rfl, hf⟩ := h'
    exact hf
  obtain ⟨n, r, s₁, s₂, hs, hn, hfo, hR⟩ := wp_halts_full (M := model prog w) (R := R) hreg hw
  exact ⟨n, r, s₂, s₁, hn, hs, hfo, hR⟩
theorem callFrom_C {c : ClaimW} {tree : List Value → Sem Fin} {w : World} {s : Shared} {free : Addr → Prop} {gens : Prop} {kept : Heap → Prop} (hz : s.asleep) (hgens : s.gens = #[])
    (hspec : ∀ args, c.pre args = true → WData.layableAll args = true → ∀ ord : List DictEntry → List DictEntry, (∀ l, (ord l).Perm l) →
      ∃ vs s₁, layAllW c.records (classAt s.heap) w.params ord args s = some (vs, s₁) ∧
        wpC (model c.prog w) callerA (tree vs) (fun fin s' => ∃ f, fin = .done f ∧ (c.Ends s args vs s₁ (.ok f) s' ∧ s'.os = s.os ∧ AllBare s'.gens ∧ kept s'.heap))
          (fun e s' => c.Ends s args vs s₁ (.error e) s' ∧ s'.os = s.os ∧ AllBare s'.gens ∧ kept s'.heap) s₁) :
    c.CallFrom (fun vs => ⟨tree vs, .builtin "claim.caller" {}, default, []⟩) w free gens kept s := by
  intro args hpre hlay ord hord
  obtain ⟨vs, s₁, hlaid, hcode⟩ := hspec args hpre hlay ord hord
  have hal := layAllW_rest _ _ _ hlaid
  obtain ⟨k, r, s', s'', hrun, hsched, hfo, hcase, hos, hkp⟩ := thread_C (prog := c.prog) (w := w) (t := tree vs) (s := s₁)
    (R := fun r s' => c.Ends s args vs s₁ r s' ∧ s'.os = s.os ∧ kept s'.heap) (Shared.asleep_of_life hal.2.2.2 hz)
    (wpC_mono hcode (fun fin s' ⟨f, e, h1, h2, h3, h4⟩ => ⟨f, e, ⟨h1, h2, h4⟩, leftWithCleanup_false_of_bare h3⟩) fun e s' ⟨h1, h2, h3, h4⟩ => ⟨⟨h1, h2, h4⟩, leftWithCleanup_false_of_bare h3⟩)
  obtain ⟨eh, _, _, eo, _⟩ := Shared.forget_eq hfo
  have hcase := hcase.congr eh
  have hkp : kept s'.heap := eh ▸ hkp
  rw [← eo] at hos
  have hlife : s'.heap.life = s.heap.life := (runN_life _ _ _ hrun).trans hal.2.2.2
  refine ⟨vs, s₁, hlaid, k, _, s', hsched, ?_, (fun _ i x hx => by rw [hgens] at hx; simp at hx), hkp, by rw [hlife], Shared.rest_eq hos⟩
  rcases hcase with ⟨v, rfl, d1, d2, d3, d4, d5⟩ | ⟨e, ob, cls, rfl, d1, d2, d3, d4, d5⟩
  · exact .inl ⟨v, rfl, d1, d2, d3, fun b o y _ => d4 b o y, d5⟩
  · exact .inr ⟨e, ob, cls, rfl, d1, d2, d3, d4, fun b o y _ => d5 b o y⟩
abbrev WalkC (q : Program) (loose : List Str) (XP : (Str → Option Value) → Heap → Prop) (YP : World → Heap → Prop) (r : RowW) (d : DefRec) (kwd : List (Str × Expr)) : Prop :=
  ∀ (w : World) (s₀ s₁ : Shared) (mg mb : Str → Option Value), Ground q loose r.records XP w s₀ mg mb s₁.heap → YP w s₁.heap → ∀ (a : Addr) (o : Obj) (pm cd doc dV kV : Value), s₁.heap.get? a = some o →
    o.data = .func { docDef d.name d.params d.body d.scope pm cd doc with defaults := dV, kwdefaults := kV } → s₁.heap.CodeRec cd d.name → Dflts mg s₁.heap d.params kwd dV kV → mg d.name = some (.ref a) → s₁.gens = #[] →
    ∀ (args : List WData) (vals : List Value) (as : List Addr), r.claim.pre args = true → WData.layableAll args = true → ReadsAllW r.records (classAt s₀.heap) s₁.heap vals args as → WellAll w.params s₁.heap vals args → (∀ a ∈ as, (a == sysModules) = false) →
      wpC (model r.prog w) callerA (PySem.call (.ref a) vals) (fun v s' => GoodWG r.claim (classAt s₀.heap) (ExcName.means s₀.heap) args s₁ (.ok (.ret v)) s')
        (fun e s' => GoodWG r.claim (classAt s₀.heap) (ExcName.means s₀.heap) args s₁ (.error e) s') s₁
theorem holds_C {r : OpenRow} {q : Program} {loose : List Str} {Xt : Shared → Bool} {XP : (Str → Option Value) → Heap → Prop} {α : Type} {Yf : Shared → α} {Ya : World → α} {YP : World → Heap → Prop} {d : DefRec} {kwd : List (Str × Expr)} {N : Nat}
    (left : LeftO r.prog q loose Xt Yf Ya N) (hY : ∀ w s, Yf s = Ya w → YP w s.heap) (hYk : ∀ w h h', YP w h → (∀ b o, h.get? b = some o → h'.get? b = some o) → YP w h')
    (hX : ∀ s, Xt s = true → XP (s.heap.nsMap mainGlobals) s.heap) (hXk : ∀ mg h h', XP mg h → (∀ b o, h.get? b = some o → h'.get? b = some o) → XP mg h')
    (hdef : defOf q r.name = some (d, kwd)) (hp : r.prog.theDef r.name = some (d.params, d.body, d.scope)) (hk : kwWritten? d.params.kwonlyargs d.params.kw_defaults = some kwd) (hRf : ∀ s, Xt s = true → RecFacts r.records s.heap) (hwr : (!r.writes || r.records.isEmpty) = true)
    (k1 : r.wellSaid = true) (ok : (chainsOk q && opensWell r.prog && (frees r.toRowW && r.within.isEmpty)) = true) (hb : r.prog.bare) (hw : r.toRowW.promised)
    (walk : WalkC q loose XP YP r.toRowW d kwd) : r.Holds := by
  refine ⟨k1, hw, ?_⟩
  obtain ⟨ok, k5⟩ := Bool.and_eq_true_iff.mp ok
  obtain ⟨hch, o1⟩ := Bool.and_eq_true_iff.mp ok
  obtain ⟨k5, k6⟩ := Bool.and_eq_true_iff.mp k5
  obtain ⟨hsame, hu, ha, hap, hm⟩ := frees_parts k5
  have hl := left.behind (XP := fun mg h => XP mg h ∧ RecFacts r.records h) (fun s hs => ⟨hX s hs, hRf s hs⟩) hch
  refine ⟨⟨hb, o1, by show r.toRowW.makers.map _ = []; rw [hm]; rfl⟩, hw.witness, fun w => ⟨(hl w).1, fun s' hs' => ?_⟩⟩
  obtain ⟨s₀, hf, hg0, s, hT, hz, hgens, hg, G00, y⟩ := (hl w).2 s' hs'
  have G0 : Ground q loose [] XP w s (s.heap.nsMap mainGlobals) (s.heap.nsMap builtinsNs) s.heap := ⟨G00.T, G00.B, G00.D, G00.TE, G00.TD, G00.W, G00.X.1, G00.cls, G00.has, G00.apart, G00.once, G00.K⟩
  have RF := G00.X.2
  refine ⟨s₀, hf, hg0, s, hT, ?_, RF.1, RF.2.1, ?_⟩
  · intro n hn
    obtain rfl : n = r.name := by split at hn <;> simp_all
    exact pinned_of_view hg G0 hdef hp hk
  have hgens : s.gens = #[] := Array.eq_empty_of_size_eq_zero (beq_iff_eq.mp hgens)
  have G : Ground q loose r.records XP w s _ _ s.heap := RF.ground G0
  refine callFrom_C (c := r.toRowW.claim) hz hgens fun args hpre hlay ord hord => ?_
  obtain ⟨⟨vs, s₁⟩, hlaid⟩ := Option.isSome_iff_exists.mp (layAllW_isSome (P := w.params) (ord := ord) G.has args r.args s (pre_splitW hpre).1)
  have keeps := layAllW_keeps _ _ _ hlaid
  have hal := layAllW_rest _ _ _ hlaid
  obtain ⟨as, hrd, hin, hold⟩ := reads_layAllW hord _ _ _ hlaid hlay s₁.heap (fun _ _ e => e)
  have L : Laid r.records w s s₁ args vs as := ⟨⟨ord, hord, hlaid⟩, hrd, hin, hold, keeps, hal.1.trans hgens, hal.2.2.1⟩
  have G₁ := G.keeps hXk keeps
  have Y₁ := hYk _ _ _ (hY w s y) keeps
  obtain ⟨a, o, pm, cd, doc, dV, kV, h1, h2, h3, h4, h5⟩ := G₁.fn hdef
  have h := walk w s s₁ _ _ G₁ Y₁ a o pm cd doc dV kV h2 h3 h4 h5 (defOf_name hdef ▸ h1) L.gens args vs as hpre hlay L.reads L.well (L.low G.low)
  have hi := ident_freeW hu ha hap
  have hwi : r.toRowW.claim.within = [] := List.isEmpty_iff.mp k6
  refine ⟨vs, s₁, hlaid, ?_⟩
  refine wpC_abind (wpAny_nsGet G₁.T.g ?_)
  rw [h1]
  refine wpC_bind (wpC_mono h (fun v s' g => wpC_pure ⟨_, rfl, ?_⟩) fun e s' g => ?_)
  · have z := g.laid (c := r.toRowW.claim) hsame hwi hi L
    exact ⟨z.1, z.2.1, z.2.2, fun q => ⟨namesKept_of hT hg _ keeps g.2.1.old, noTable hwr q⟩⟩
  · have z := g.laid (c := r.toRowW.claim) hsame hwi hi L
    exact ⟨z.1, z.2.1, z.2.2, fun q => ⟨namesKept_of hT hg _ keeps g.2.1.old, noTable hwr q⟩⟩
theorem hdC (hw : Challenge.rw_ny0344_01.row.toRowW.promised) (walk : WalkC vq lo (XL vq []) HH.says Challenge.rw_ny0344_01.row.toRowW dLaw []) : Challenge.rw_ny0344_01.Holds :=
  holds_law said fun k1 => holds_C (q := vq) (loose := lo) (Xt := Xt0) (XP := XL vq []) (Yf := HH.obs) (Ya := HH.val) (YP := HH.says) (N := 13148) left0 HH.of HH.keeps
    (fun s e => xl_of s (Bool.and_eq_true_iff.mp e).1) XL.keeps hdef htd rfl (fun s e => recFacts_of (Bool.and_eq_true_iff.mp e).2) rfl k1 hok hbare hw walk
end Mine
end
section
open PySem PySem.W PyProof.Rows PySem.Spec PySem.Calls
namespace Mine
theorem slice_nat (x : Str) (i j : Nat) (h : i ≤ j) (h2 : j ≤ x.cps.toList.length) : Txt.slice x (some (i : Int)) (some (j : Int)) = ⟨((x.cps.toList.drop i).take (j - i)).toArray⟩ := by
  have e := slice_closes (x := x) (i := i) (j := j) ⟨by omega, by omega, by omega⟩
  have e2 := eq_of_beq e
  rw [e2]
  have h1 : ((j : Int) - (i : Int)).toNat = j - i := by omega
  rw [h1, Int.toNat_natCast]
theorem len_cps (x : Str) : x.length = x.cps.toList.length := by rw [Array.length_toList]; rfl
theorem slice_one {x : Str} {i c : Nat} {r : List Nat} (h : x.cps.toList.drop i = c :: r) : Txt.slice x (some (i : Int)) (some ((i : Int) + 1)) = ⟨#[c]⟩ := by
  have hl : i < x.cps.toList.length := by
    by_cases q : i < x.cps.toList.length
    · exact q
    · rw [List.drop_of_length_le (by omega)] at h; cases h
  have e := slice_nat x i (i + 1) (by omega) (by omega)
  rw [show ((i : Int) + 1) = ((i + 1 : Nat) : Int) by omega, e, h, show i + 1 - i = 1 by omega]
  rfl
theorem drop_len {x : Str} {i c : Nat} {r : List Nat} (h : x.cps.toList.drop i = c :: r) : i < x.length := by
  rw [len_cps]
  by_cases q : i < x.cps.toList.length
  · exact q
  · rw [List.drop_of_length_le (by omega)] at h; cases h
theorem drop_nil_len {x : Str} {i : Nat} (h : x.cps.toList.drop i = []) : x.length ≤ i := by
  rw [len_cps]
  exact List.drop_eq_nil_iff.mp h
end Mine
end
example : True ∧ True := by (w_top off; walk1 <;> exact True.intro)
section
local macro_rules | `(tactic| walk_at "zz") => `(tactic| skip)
example : True ∧ True := by (w_top off; walk1 <;> exact True.intro)
end
section
open PySem PySem.W PyProof.Rows PySem.Spec PySem.Calls
local macro_rules | `(tactic| walk_at "my enter") => `(tactic| (refine' code_def ?k1 ?k2 ?k3 ?k4 ?k5 ?kA ?kF ?kK ?k6 ?k7 ?k8 ?k9 ?kB ?_ ?c2 ?c3 ?c4 ?c5; (case kA => exact rfl); (case kF => exact rfl); (case kK => first | exact rfl | assumption); (case k1 => k_asm); (case k2 => k_asm); (case k3 => k_asm); (case k4 => k_asm); (case k5 => k_asm); (case k6 => k_is); (case k7 => k_is); (case k8 => ktr_room); (case k9 => first | exact BindsTo.of_eq rfl | exact binds_K (by k_in) rfl (by k_is) rfl rfl rfl); (case c5 => decide); (case kB => exact locs rfl); (case c2 => exact rfl); (case c3 => exact rfl); (case c4 => exact rfl); k_whole; intro g' L' h' FG' F' N' B' X' T'; (try dsimp only); (try k_lift B'); (try k_fold)))
local macro_rules | `(tactic| k_room) => `(tactic| ktr_room)
local macro_rules | `(tactic| k_units) => `(tactic| ktr_units)
local macro_rules | `(tactic| k_all) => `(tactic| assumption)
example : PySem.Challenge.rw_ny0344_01 = PySem.Challenge.rw_ny0344_01 ∧ Mine.kk = Mine.kk := by k_fill; exact ⟨rfl, rfl⟩
example : True ∧ True := by (w_top off; walk1 <;> exact True.intro)
section
local macro_rules | `(tactic| walk_at "zz") => `(tactic| skip)
example : True ∧ True := by (w_top off; walk1 <;> exact True.intro)
end
section
namespace Mine
local macro_rules | `(tactic| walk_at "ite") => `(tactic| first | with_reducible refine ite_neg (by with_reducible assumption) ?_ | with_reducible refine ite_pos (by with_reducible assumption) ?_  | (k_closed; first | refine ite_pos (by decide +kernel) ?_ | refine ite_neg (by decide +kernel) ?_))
abbrev SignOk (c : Nat) : Prop := c = 47 ∨ c = 39 ∨ c = 34 ∨ (48 ≤ c ∧ c ≤ 57)
abbrev MarkOk (c : Nat) : Prop := 33 ≤ c ∧ c ≤ 126 ∧ ¬ (48 ≤ c ∧ c ≤ 57) ∧ c ≠ 39 ∧ c ≠ 34 ∧ c ≠ 41
theorem item_dig (i : Int) (h0 : 0 ≤ i) (h1 : i < 10) : Txt.item (Str.ofString "0123456789") i = ⟨#[48 + i.toNat]⟩ := by
  have : i = 0 ∨ i = 1 ∨ i = 2 ∨ i = 3 ∨ i = 4 ∨ i = 5 ∨ i = 6 ∨ i = 7 ∨ i = 8 ∨ i = 9 := by omega
  rcases this with rfl | rfl | rfl | rfl | rfl | rfl | rfl | rfl | rfl | rfl <;> decide +kernel
theorem mark_ok (c : Nat) (h0 : 33 ≤ c) (h1 : c ≤ 126) (he : (Builtin.Str.occurrences (Str.ofString "0123456789'\")") ⟨#[c]⟩ 0 (Str.length (Str.ofString "0123456789'\")")) 1).isEmpty = true) : MarkOk c := by
  have key : ∀ c, c < 127 → (Builtin.Str.occurrences (Str.ofString "0123456789'\")") ⟨#[c]⟩ 0 (Str.length (Str.ofString "0123456789'\")")) 1).isEmpty = true → ¬ (48 ≤ c ∧ c ≤ 57) ∧ c ≠ 39 ∧ c ≠ 34 ∧ c ≠ 41 := by decide +kernel
  exact ⟨h0, h1, key c (by omega) he⟩
theorem cvtS {Q : Value → Shared → Prop} {x y : Str} {t : Tok} {s : Shared} (e : x = y) (h : Q (.str y t) s) : Q (.str x t) s := e ▸ h
theorem sg_1 (w : World) (mean : ExcName → Option Value) (mg mb : Str → Option Value) (n : Int) (tn : Tok) (rest : List (Addr × Obj))
   (dp un : Nat) (gd : Option (List Code)) (cn : Str) (cs : Scope) (a : Addr) (ccd : Value) (cl : List (Str × Addr)) (outer : List Env) (A₀ : Around) (base h₀ : Heap) (L : Addr) (m : Str → Option Value) (s : Shared) (Q E : Value → Shared → Prop)
    (B : Below A₀ base outer h₀) (F : Fr h₀ L s.heap m) (X : (Mine.kk w.params).In h₀) (T : Top Mine.vq (looseW Mine.vq Mine.lo) mean mg mb h₀) (hcs : cs.kind = .function)
    (N : News h₀ L s.heap rest)
    (hdp : dp + 60 < recursionLimit) (hun : un + 250 < cLine)
    (hret : ∀ h' tk' t' c, SignOk c → Fr h₀ L h' m → News h₀ L h' rest → Q (.str ⟨#[c]⟩ t') { s with heap := h', toks := tk' }) :
      wpAny (model pg w) (ktrTop dp un gd cn cs L a ccd cl outer) (call (.ref 897) [.int n tn]) Q E s := by
  refine wpAny_call ?_; k_dflt (walk_at "my enter")
  k_steps
  · exact cvtS (by decide : Str.ofString "/" = ⟨#[47]⟩) (hret _ _ _ 47 (.inl rfl) (by k_asm) (by k_asm))
  · exact cvtS (by decide : Str.ofString "'" = ⟨#[39]⟩) (hret _ _ _ 39 (.inr (.inl rfl)) (by k_asm) (by k_asm))
  · exact cvtS (by decide : Str.ofString "\"" = ⟨#[34]⟩) (hret _ _ _ 34 (.inr (.inr (.inl rfl))) (by k_asm) (by k_asm))
  · have g0 := Int.fmod_nonneg_of_pos (n.fdiv 8) (show (0 : Int) < 10 by decide)
    have g1 := Int.fmod_lt_of_pos (n.fdiv 8) (show (0 : Int) < 10 by decide)
    exact cvtS (item_dig _ g0 g1) (hret _ _ _ _ (.inr (.inr (.inr ⟨by omega, by omega⟩))) (by k_asm) (by k_asm))
theorem mk_1 (w : World) (mean : ExcName → Option Value) (mg mb : Str → Option Value) (n : Int) (tn : Tok) (rest : List (Addr × Obj))
   (dp un : Nat) (gd : Option (List Code)) (cn : Str) (cs : Scope) (a : Addr) (ccd : Value) (cl : List (Str × Addr)) (outer : List Env) (A₀ : Around) (base h₀ : Heap) (L : Addr) (m : Str → Option Value) (s : Shared) (Q E : Value → Shared → Prop)
    (B : Below A₀ base outer h₀) (F : Fr h₀ L s.heap m) (X : (Mine.kk w.params).In h₀) (T : Top Mine.vq (looseW Mine.vq Mine.lo) mean mg mb h₀) (hcs : cs.kind = .function)
    (N : News h₀ L s.heap rest)
    (hdp : dp + 60 < recursionLimit) (hun : un + 250 < cLine)
    (hret : ∀ h' tk' t' c, MarkOk c → Fr h₀ L h' m → News h₀ L h' rest → Q (.str ⟨#[c]⟩ t') { s with heap := h', toks := tk' }) :
      wpAny (model pg w) (ktrTop dp un gd cn cs L a ccd cl outer) (call (.ref 904) [.int n tn]) Q E s := by
  refine wpAny_call ?_; k_dflt (walk_at "my enter")
  k_steps
  · have g0 := Int.fmod_nonneg_of_pos n (show (0 : Int) < 94 by decide)
    have g1 := Int.fmod_lt_of_pos n (show (0 : Int) < 94 by decide)
    exact hret _ _ _ _ (mark_ok _ (by omega) (by omega) (by with_reducible assumption)) (by k_asm) (by k_asm)
  · exact cvtS (by decide : Str.ofString "|" = ⟨#[124]⟩) (hret _ _ _ 124 (by decide) (by k_asm) (by k_asm))
end Mine
end
example : True ∧ True := by (w_top off; walk1 <;> exact True.intro)
section
local macro_rules | `(tactic| walk_at "zz") => `(tactic| skip)
example : True ∧ True := by (w_top off; walk1 <;> exact True.intro)
end
section
namespace Mine
local macro_rules | `(tactic| walk_at "ite") => `(tactic| first | with_reducible refine ite_neg (by with_reducible assumption) ?_ | with_reducible refine ite_pos (by with_reducible assumption) ?_  | (k_closed; first | refine ite_pos (by decide +kernel) ?_ | refine ite_neg (by decide +kernel) ?_))
local macro_rules | `(tactic| walk_at "execs cons") => `(tactic| ((with_reducible refine wpAny_execs_cons ?_); (try dsimp only)))
theorem mk_t (w : World) (mean : ExcName → Option Value) (mg mb : Str → Option Value) (n : Int) (tn : Tok) (rest : List (Addr × Obj))
   (dp un : Nat) (gd : Option (List Code)) (cn : Str) (cs : Scope) (a : Addr) (ccd : Value) (cl : List (Str × Addr)) (outer : List Env) (A₀ : Around) (base h₀ : Heap) (L : Addr) (m : Str → Option Value) (s : Shared) (Q E : Value → Shared → Prop)
    (B : Below A₀ base outer h₀) (F : Fr h₀ L s.heap m) (X : (Mine.kk w.params).In h₀) (T : Top Mine.vq (looseW Mine.vq Mine.lo) mean mg mb h₀) (hcs : cs.kind = .function)
    (N : News h₀ L s.heap rest)
    (hdp : dp + 60 < recursionLimit) (hun : un + 250 < cLine)
    (hret : ∀ h' tk' t' c, MarkOk c → (1 ≤ t' ∧ t' < tk') → Fr h₀ L h' m → News h₀ L h' rest → Q (.str ⟨#[c]⟩ t') { s with heap := h', toks := tk' }) :
      wpAny (model pg w) (ktrTop dp un gd cn cs L a ccd cl outer) (call (.ref 904) [.int n tn]) Q E s := by
  refine wpAny_call ?_; k_dflt (walk_at "my enter")
  k_steps
  · have g0 := Int.fmod_nonneg_of_pos n (show (0 : Int) < 94 by decide)
    have g1 := Int.fmod_lt_of_pos n (show (0 : Int) < 94 by decide)
    refine hret _ _ _ _ (mark_ok _ (by omega) (by omega) (by with_reducible assumption)) ?_ (by k_asm) (by k_asm)
    exact ⟨Nat.le_add_left _ _, Nat.lt_add_of_pos_right (k := 3) (by decide)⟩
  · refine cvtS (by decide : Str.ofString "|" = ⟨#[124]⟩) (hret _ _ _ 124 (by decide) ?_ (by k_asm) (by k_asm))
    exact ⟨Nat.le_add_left _ _, Nat.lt_succ_self _⟩
end Mine
end
section
open Sem (wp)
namespace Mine
section
variable {M : Model} {A : Around} {E : Value → Shared → Prop} {s : Shared} {K : Frag} {env : Env} {pos : Pos} {f : Value} {first : List Value} {Q : Value → Shared → Prop}
theorem callC_of {args : List (Bool × Sem Value)} (hplain : (args.any (·.1) || ([] : List (Option Str × Sem Value)).any (·.1.isNone)) = false) (hk : keepIn K f = true)
    (h : wpAny M A (evalArgs f true args []) (fun a s₁ => K.In s₁.heap ∧ wpC M A (call f (first ++ a.pos) a.kw) Q E s₁) E s) : wpC M A (callWith pos f first args []) Q E s := by
  unfold callWith
  refine wpC_abind (wpAny_holding (wpAny_mono h (fun a s₁ h₁ => wpC_abind (wpAny_standAt ?_)) fun _ _ x => x))
  obtain ⟨k, hk', L⟩ := keeps_K (M := M) hk _ h₁.1
  simp only [hplain]
  refine wpC_abind (L.here ?_)
  have tail : ∀ {t : Sem Value}, wpC M A t Q E s₁ → wpC M A (t >>= fun r => holding [r] point >>= fun _ => pure r) Q E s₁ :=
    fun ht => wpC_bind (wpC_mono ht (fun r s₂ hr => wpC_abind (wpAny_holding (wpAny_point (wpC_pure hr)))) fun _ _ x => x)
  have marked (mk : Value) : wpC M A (callMarked mk f (first ++ a.pos) a.kw) Q E s₁ := by
    unfold callMarked
    exact wpC_keep h₁.2
  rcases hk' with rfl | rfl | rfl <;> dsimp only <;> first | exact tail h₁.2 | (split <;> first | exact tail h₁.2 | exact tail (marked _))
theorem callT {T : String} {e : Expr} {rest : List Expr} (h : wpAny M A (spliced (backTo pos (starEach (e :: rest) env))) (fun vs s₁ => wpC M A (call (.type T) vs) Q E s₁) E s)
    (he : starEach (e :: rest) env = (false, eval e env) :: starEach rest env := by rfl) (hplain : (backTo pos (starEach rest env)).any (·.1) = false := by rfl) :
    wpC M A (callWith pos (.type T) [] (backTo pos (starEach (e :: rest) env)) []) Q E s := by
  rw [he] at h ⊢
  exact wpC_callWith_type (by show (false || (backTo pos (starEach rest env)).any (·.1)) = false; rw [hplain]; rfl) (evalArgs_plain h)
theorem callC {h₀ : Heap} {e : Expr} {rest : List Expr} (_X : K.In h₀) (hk : keepIn K f = true) (h : wpAny M A (spliced (backTo pos (starEach (e :: rest) env))) (fun vs s₁ => K.In s₁.heap ∧ wpC M A (call f (first ++ vs)) Q E s₁) E s)
    (he : starEach (e :: rest) env = (false, eval e env) :: starEach rest env := by rfl) (hplain : (backTo pos (starEach rest env)).any (·.1) = false := by rfl) :
    wpC M A (callWith pos f first (backTo pos (starEach (e :: rest) env)) []) Q E s := by
  rw [he] at h ⊢
  exact callC_of (by show ((false || (backTo pos (starEach rest env)).any (·.1)) || false) = false; rw [hplain]; rfl) hk (evalArgs_plain h)
end
section
variable {prog : Program} {w : World} {A₀ A : Around} {s : Shared} {base h₀ g₀ : Heap} {outer : List Env} {L a : Addr} {m : Str → Option Value} {cn : Str} {cs : Scope} {ccd : Value} {news : List (Addr × Obj)} {K : Frag} {p : Program} {loose : List Str} {mean : ExcName → Option Value} {mg mb : Str → Option Value}
    {R : Result → Shared → Prop} {name qual : Str} {params : Arguments} {body : List Stmt} {scope : Scope} {dV kV doc pm cdv ct oc : Value} {an od : Option Addr} {osl : Array (Option Value)} {f : Addr} {args : Args} {binds : List (Str × Value)}
theorem defC0 (B : Below A₀ base [] h₀) (F : Fr h₀ L s.heap m) (X₀ : K.In h₀) (N : News h₀ L s.heap news) (T : Top p loose mean mg mb h₀) (hA : A.frames = some [envOf cn cs L a ccd])
    (ho : K.lookup f = some ⟨oc, od, .func (fnOf name qual params body scope dV kV doc pm an cdv ct), osl⟩) (hcd : codeIn K cdv qual = true) (hroom : A.depth < recursionLimit)
    (hbind : BindsTo s (fnOf name qual params body scope dV kV doc pm an cdv ct) args binds) (hloc : ∀ y ∈ binds, scope.names.lookup y.1 = some .local)
    (h : ∀ g L' h₁, Fr h₀ L g m → Fr g L' h₁ (fun y => binds.reverse.lookup y) → News g L' h₁ news → Below A base [envOf cn cs L a ccd] g → K.In g → Top p loose mean mg mb g → KtsDicts ([envOf cn cs L a ccd].filterMap (·.frame)) g →
      wpC (model prog w) (A.deeper (envOf qual scope L' f cdv)) (execs body (envOf qual scope L' f cdv))
        (fun fl s' => LeaveS0 ([envOf cn cs L a ccd].filterMap (·.frame)) h₀ L m g R (match fl with | .ret v => v | _ => .none) s')
        (fun e s' => wpAny (model prog w) (A.deeper (envOf qual scope L' f cdv)) (leaving (envOf qual scope L' f cdv) e) (fun _ s'' => R (.error e) s'') (fun e' s'' => R (.error e') s'') s')
        { s with heap := h₁, toks := s.toks + binds.length })
    (hck : cs.kind = .function) (hco : scope.isCoroutine = false) (hgen : scope.isGenerator = false) (hk : scope.kind = .function)
    (hcell : ∀ x ∈ scope.names, x.2 ≠ .cell) : codeC (model prog w) A (.call (.ref f) args) R s := by
  have X := X₀.keeps F.keep
  refine codeC_call_def (fd := fnOf name qual params body scope dV kV doc pm an cdv ct) (body := body) (binds := binds) hroom (X _ _ ho) rfl (T.nolimit.keeps F.keep) (codeRec_of X hcd) rfl hbind hcell hloc (fun h₁ hns hk₁ => ?_) hco hgen hk
  obtain ⟨oL, es, ep, hLg, hLd, hN, hNs, st, B₂⟩ := kts_enter B F N hA hck
  refine wpC_mono (h _ s.heap.objs.size h₁ ⟨hN _ hLg, st, F.above⟩ ⟨hns, fun b o e => hk₁ b o (of_hideAll _ e), Nat.le_of_eq (hideAll_size _ _)⟩
    (fun q hq => ⟨hk₁ _ _ (N q hq).1, Nat.ne_of_lt (Heap.lt_size (N q hq).1), hideAll_none _ (List.mem_map_of_mem hq)⟩) B₂ (X₀.keeps st) (T.keeps st) (fun b hb => by
      rcases kts_mem hb with rfl | z
      · exact ⟨oL, es, ep, hLg, hLd⟩
      · simp at z)) (fun fl s' hl => ?_) fun _ _ y => y
  obtain ⟨g', L', m', news', T', F', N', k⟩ := hl
  have nL₀ : h₀.get? L = none := kts_self F
  obtain ⟨sl, hs⟩ := T'.up hLg
  refine k ⟨hNs sl _ (F'.keep _ _ hs), fun b o e => F'.keep b o (T'.other b o (st b o e) fun q => ?_), F.above⟩ fun q hq => ⟨(N' q hq).1, fun z => ?_, ?_⟩
  · rcases kts_mem q with z | z
    · rw [z, nL₀] at e
      cases e
    · simp at z
  · have := (N' q hq).2.2
    rw [z, hs] at this
    cases this
  · cases z : h₀.get? q.1 with
    | none => rfl
    | some o =>
      obtain ⟨sl', hs'⟩ := T'.up (st _ _ z)
      have := (N' q hq).2.2
      rw [hs'] at this
      cases this
theorem enterX {env : Env} (hf : env.frame = some L) (hk : env.scope.kind = .function) (B : Below A₀ base [] h₀) (F : Fr h₀ L s.heap m) (N : News h₀ L s.heap news) (hA : A.frames = some [env]) :
    ∃ oL es ep, (hideAll s.heap (news.map (·.1))).get? L = some oL ∧ oL.data = .dict es ep ∧ (∀ h', h'.get? L = some oL → Heap.Ns h' L m) ∧ (∀ (sl : Array (Option Value)) h', h'.get? L = some { oL with slots := sl } → Heap.Ns h' L m) ∧
      h₀.StaysIn (hideAll s.heap (news.map (·.1))) ∧ Below A base [env] (hideAll s.heap (news.map (·.1))) := by
  have nm : ∀ b o, h₀.get? b = some o → b ∉ news.map (·.1) := fun b o e q => by
    obtain ⟨q', hq, rfl⟩ := List.mem_map.mp q
    rw [(N q' hq).2.2] at e
    cases e
  have st : h₀.StaysIn (hideAll s.heap (news.map (·.1))) := fun b o e => hideAll_get _ (F.keep b o e) (nm b o e)
  obtain ⟨oL, es, ep, hL, hLd, hLk, hLf⟩ := F.ns
  have nL : L ∉ news.map (·.1) := fun q => by
    obtain ⟨q', hq, e⟩ := List.mem_map.mp q
    exact (N q' hq).2.1 e
  have hLg := hideAll_get (news.map (·.1)) hL nL
  have B₁ := pushX B F hf hk
  refine ⟨oL, es, ep, hLg, hLd, fun h' e => ⟨oL, es, ep, e, hLd, hLk, hLf⟩, fun sl h' e => ⟨_, es, ep, e, hLd, hLk, hLf⟩, st, ⟨hA, fun b o e => st b o (B.stays b o e), funFrames_hideAll B₁.frames fun e' he b hb hf' => ?_⟩⟩
  rcases List.mem_cons.mp he with rfl | he
  · rw [hf] at hf'
    exact nL ((Option.some.inj hf' : L = b) ▸ hb)
  · simp at he
theorem mem_frame {env : Env} {b : Addr} (hf : env.frame = some L) (hb : b ∈ [env].filterMap (·.frame)) : b = L := by
  simp [hf] at hb
  exact hb
theorem defX0 {env : Env} (hf : env.frame = some L) (hkf : env.scope.kind = .function) (B : Below A₀ base [] h₀) (F : Fr h₀ L s.heap m) (X₀ : K.In h₀) (N : News h₀ L s.heap news) (T : Top p loose mean mg mb h₀) (hA : A.frames = some [env])
    (ho : K.lookup f = some ⟨oc, od, .func (fnOf name qual params body scope dV kV doc pm an cdv ct), osl⟩) (hcd : codeIn K cdv qual = true) (hroom : A.depth < recursionLimit)
    (hbind : BindsTo s (fnOf name qual params body scope dV kV doc pm an cdv ct) args binds) (hloc : ∀ y ∈ binds, scope.names.lookup y.1 = some .local)
    (h : ∀ g L' h₁, Fr h₀ L g m → Fr g L' h₁ (fun y => binds.reverse.lookup y) → News g L' h₁ news → Below A base [env] g → K.In g → Top p loose mean mg mb g → KtsDicts ([env].filterMap (·.frame)) g →
      wpC (model prog w) (A.deeper (envOf qual scope L' f cdv)) (execs body (envOf qual scope L' f cdv))
        (fun fl s' => LeaveS0 ([env].filterMap (·.frame)) h₀ L m g R (match fl with | .ret v => v | _ => .none) s')
        (fun e s' => wpAny (model prog w) (A.deeper (envOf qual scope L' f cdv)) (leaving (envOf qual scope L' f cdv) e) (fun _ s'' => R (.error e) s'') (fun e' s'' => R (.error e') s'') s')
        { s with heap := h₁, toks := s.toks + binds.length })
    (hco : scope.isCoroutine = false) (hgen : scope.isGenerator = false) (hk : scope.kind = .function)
    (hcell : ∀ x ∈ scope.names, x.2 ≠ .cell) : codeC (model prog w) A (.call (.ref f) args) R s := by
  have X := X₀.keeps F.keep
  refine codeC_call_def (fd := fnOf name qual params body scope dV kV doc pm an cdv ct) (body := body) (binds := binds) hroom (X _ _ ho) rfl (T.nolimit.keeps F.keep) (codeRec_of X hcd) rfl hbind hcell hloc (fun h₁ hns hk₁ => ?_) hco hgen hk
  obtain ⟨oL, es, ep, hLg, hLd, hN, hNs, st, B₂⟩ := enterX hf hkf B F N hA
  refine wpC_mono (h _ s.heap.objs.size h₁ ⟨hN _ hLg, st, F.above⟩ ⟨hns, fun b o e => hk₁ b o (of_hideAll _ e), Nat.le_of_eq (hideAll_size _ _)⟩
    (fun q hq => ⟨hk₁ _ _ (N q hq).1, Nat.ne_of_lt (Heap.lt_size (N q hq).1), hideAll_none _ (List.mem_map_of_mem hq)⟩) B₂ (X₀.keeps st) (T.keeps st) (fun b hb => by
      rw [mem_frame hf hb]
      exact ⟨oL, es, ep, hLg, hLd⟩)) (fun fl s' hl => ?_) fun _ _ y => y
  obtain ⟨g', L', m', news', T', F', N', k⟩ := hl
  have nL₀ : h₀.get? L = none := kts_self F
  obtain ⟨sl, hs⟩ := T'.up hLg
  refine k ⟨hNs sl _ (F'.keep _ _ hs), fun b o e => F'.keep b o (T'.other b o (st b o e) fun q => ?_), F.above⟩ fun q hq => ⟨(N' q hq).1, fun z => ?_, ?_⟩
  · rw [mem_frame hf q, nL₀] at e
    cases e
  · have := (N' q hq).2.2
    rw [z, hs] at this
    cases this
  · cases z : h₀.get? q.1 with
    | none => rfl
    | some o =>
      obtain ⟨sl', hs'⟩ := T'.up (st _ _ z)
      have := (N' q hq).2.2
      rw [hs'] at this
      cases this
theorem defA0 {env : Env} (hf : env.frame = some L) (hkf : env.scope.kind = .function) (B : Below A₀ base [] h₀) (F : Fr h₀ L s.heap m) (X₀ : K.In h₀) (N : News h₀ L s.heap news) (T : Top p loose mean mg mb h₀) (hA : A.frames = some [env])
    (ho : K.lookup f = some ⟨oc, od, .func (fnOf name qual params body scope dV kV doc pm an cdv ct), osl⟩) (hcd : codeIn K cdv qual = true) (hroom : A.depth < recursionLimit)
    (hbind : BindsTo s (fnOf name qual params body scope dV kV doc pm an cdv ct) args binds) (hloc : ∀ y ∈ binds, scope.names.lookup y.1 = some .local)
    (h : ∀ g L' h₁, Fr h₀ L g m → Fr g L' h₁ (fun y => binds.reverse.lookup y) → News g L' h₁ news → Below A base [env] g → K.In g → Top p loose mean mg mb g → KtsDicts ([env].filterMap (·.frame)) g →
      wpAny (model prog w) (A.deeper (envOf qual scope L' f cdv)) (execs body (envOf qual scope L' f cdv))
        (fun fl s' => LeaveS0 ([env].filterMap (·.frame)) h₀ L m g R (match fl with | .ret v => v | _ => .none) s')
        (fun e s' => wpAny (model prog w) (A.deeper (envOf qual scope L' f cdv)) (leaving (envOf qual scope L' f cdv) e) (fun _ s'' => R (.error e) s'') (fun e' s'' => R (.error e') s'') s')
        { s with heap := h₁, toks := s.toks + binds.length })
    (hco : scope.isCoroutine = false) (hgen : scope.isGenerator = false) (hk : scope.kind = .function)
    (hcell : ∀ x ∈ scope.names, x.2 ≠ .cell) : codeAny (model prog w) A (.call (.ref f) args) R s := by
  have X := X₀.keeps F.keep
  refine codeAny_call_def (fd := fnOf name qual params body scope dV kV doc pm an cdv ct) (body := body) (binds := binds) hroom (X _ _ ho) rfl (T.nolimit.keeps F.keep) (codeRec_of X hcd) rfl hbind hcell hloc (fun h₁ hns hk₁ => ?_) hco hgen hk
  obtain ⟨oL, es, ep, hLg, hLd, hN, hNs, st, B₂⟩ := enterX hf hkf B F N hA
  refine wpAny_mono (h _ s.heap.objs.size h₁ ⟨hN _ hLg, st, F.above⟩ ⟨hns, fun b o e => hk₁ b o (of_hideAll _ e), Nat.le_of_eq (hideAll_size _ _)⟩
    (fun q hq => ⟨hk₁ _ _ (N q hq).1, Nat.ne_of_lt (Heap.lt_size (N q hq).1), hideAll_none _ (List.mem_map_of_mem hq)⟩) B₂ (X₀.keeps st) (T.keeps st) (fun b hb => by
      rw [mem_frame hf hb]
      exact ⟨oL, es, ep, hLg, hLd⟩)) (fun fl s' hl => ?_) fun _ _ y => y
  obtain ⟨g', L', m', news', T', F', N', k⟩ := hl
  have nL₀ : h₀.get? L = none := kts_self F
  obtain ⟨sl, hs⟩ := T'.up hLg
  refine k ⟨hNs sl _ (F'.keep _ _ hs), fun b o e => F'.keep b o (T'.other b o (st b o e) fun q => ?_), F.above⟩ fun q hq => ⟨(N' q hq).1, fun z => ?_, ?_⟩
  · rw [mem_frame hf q, nL₀] at e
    cases e
  · have := (N' q hq).2.2
    rw [z, hs] at this
    cases this
  · cases z : h₀.get? q.1 with
    | none => rfl
    | some o =>
      obtain ⟨sl', hs'⟩ := T'.up (st _ _ z)
      have := (N' q hq).2.2
      rw [hs'] at this
      cases this
theorem defX0_1 {x0 : Value} (n0 : Str) {env : Env} (hf : env.frame = some L) (hkf : env.scope.kind = .function) (B : Below A₀ base [] h₀) (F : Fr h₀ L s.heap m) (X₀ : K.In h₀) (N : News h₀ L s.heap news) (T : Top p loose mean mg mb h₀) (hA : A.frames = some [env])
    (ho : K.lookup f = some ⟨oc, od, .func (fnOf name qual params body scope dV kV doc pm an cdv ct), osl⟩) (hcd : codeIn K cdv qual = true) (hroom : A.depth < recursionLimit)
    (hbind : bindArgs (fnOf name qual params body scope dV kV doc pm an cdv ct) ⟨[x0], []⟩ = pure [(n0, x0)]) (hloc : ∀ y ∈ ([(n0, x0)] : List (Str × Value)), scope.names.lookup y.1 = some .local)
    (h : ∀ g L' h₁, Fr h₀ L g m → Fr g L' h₁ (fun y => ([(n0, x0)] : List (Str × Value)).reverse.lookup y) → News g L' h₁ news → Below A base [env] g → K.In g → Top p loose mean mg mb g → KtsDicts ([env].filterMap (·.frame)) g →
      wpC (model prog w) (A.deeper (envOf qual scope L' f cdv)) (execs body (envOf qual scope L' f cdv))
        (fun fl s' => LeaveS0 ([env].filterMap (·.frame)) h₀ L m g R (match fl with | .ret v => v | _ => .none) s')
        (fun e s' => wpAny (model prog w) (A.deeper (envOf qual scope L' f cdv)) (leaving (envOf qual scope L' f cdv) e) (fun _ s'' => R (.error e) s'') (fun e' s'' => R (.error e') s'') s')
        { s with heap := h₁, toks := s.toks + 1 })
    (hco : scope.isCoroutine = false) (hgen : scope.isGenerator = false) (hk : scope.kind = .function)
    (hcell : ∀ x ∈ scope.names, x.2 ≠ .cell) : codeC (model prog w) A (.call (.ref f) ⟨[x0], []⟩) R s :=
  defX0 (binds := [(n0, x0)]) hf hkf B F X₀ N T hA ho hcd hroom (BindsTo.of_eq hbind) hloc h hco hgen hk hcell
theorem defC1 (B : Below A₀ base outer h₀) (F : Fr h₀ L s.heap m) (X₀ : K.In h₀) (N : News h₀ L s.heap news) (T : Top p loose mean mg mb h₀) (XB : K.In base) (TB : Top p loose mean mg mb base) (D : KtsDicts (outer.filterMap (·.frame)) h₀)
    (T0 : KtsTurn (outer.filterMap (·.frame)) g₀ h₀) (hA : A.frames = some (envOf cn cs L a ccd :: outer))
    (ho : K.lookup f = some ⟨oc, od, .func (fnOf name qual params body scope dV kV doc pm an cdv ct), osl⟩) (hcd : codeIn K cdv qual = true) (hroom : A.depth < recursionLimit)
    (hbind : BindsTo s (fnOf name qual params body scope dV kV doc pm an cdv ct) args binds) (hloc : ∀ y ∈ binds, scope.names.lookup y.1 = some .local)
    (h : ∀ g L' h₁, Fr h₀ L g m → Fr g L' h₁ (fun y => binds.reverse.lookup y) → News g L' h₁ news → Below A base (envOf cn cs L a ccd :: outer) g → K.In g → Top p loose mean mg mb g → KtsDicts ((envOf cn cs L a ccd :: outer).filterMap (·.frame)) g →
      wpC (model prog w) (A.deeper (envOf qual scope L' f cdv)) (execs body (envOf qual scope L' f cdv))
        (fun fl s' => LeaveS ((envOf cn cs L a ccd :: outer).filterMap (·.frame)) A₀ base outer K p loose mean mg mb g₀ h₀ L m g R (match fl with | .ret v => v | _ => .none) s')
        (fun e s' => wpAny (model prog w) (A.deeper (envOf qual scope L' f cdv)) (leaving (envOf qual scope L' f cdv) e) (fun _ s'' => R (.error e) s'') (fun e' s'' => R (.error e') s'') s')
        { s with heap := h₁, toks := s.toks + binds.length })
    (hck : cs.kind = .function) (hco : scope.isCoroutine = false) (hgen : scope.isGenerator = false) (hk : scope.kind = .function)
    (hcell : ∀ x ∈ scope.names, x.2 ≠ .cell) : codeC (model prog w) A (.call (.ref f) args) R s := by
  have X := X₀.keeps F.keep
  refine codeC_call_def (fd := fnOf name qual params body scope dV kV doc pm an cdv ct) (body := body) (binds := binds) hroom (X _ _ ho) rfl (T.nolimit.keeps F.keep) (codeRec_of X hcd) rfl hbind hcell hloc (fun h₁ hns hk₁ => ?_) hco hgen hk
  obtain ⟨oL, es, ep, hLg, hLd, hN, hNs, st, B₂⟩ := kts_enter B F N hA hck
  refine wpC_mono (h _ s.heap.objs.size h₁ ⟨hN _ hLg, st, F.above⟩ ⟨hns, fun b o e => hk₁ b o (of_hideAll _ e), Nat.le_of_eq (hideAll_size _ _)⟩
    (fun q hq => ⟨hk₁ _ _ (N q hq).1, Nat.ne_of_lt (Heap.lt_size (N q hq).1), hideAll_none _ (List.mem_map_of_mem hq)⟩) B₂ (X₀.keeps st) (T.keeps st) (fun b hb => by
      rcases kts_mem hb with rfl | hb
      · exact ⟨oL, es, ep, hLg, hLd⟩
      · obtain ⟨o, es', n', ho', hd'⟩ := D b hb
        exact ⟨o, es', n', st b o ho', hd'⟩)) (fun fl s' hl => ?_) fun _ _ y => y
  have nL₀ : h₀.get? L = none := kts_self F
  rcases hl with ⟨L', m', news', F', N', k⟩ | ⟨g', L', m', news', T', F', N', k⟩
  · refine k ⟨hN _ (F'.keep _ _ hLg), fun b o e => F'.keep b o (st b o e), F.above⟩ fun q hq => ⟨(N' q hq).1, fun z => ?_, ?_⟩
    · have := (N' q hq).2.2
      rw [z, hLg] at this
      cases this
    · cases z : h₀.get? q.1 with
      | none => rfl
      | some o =>
        have := (N' q hq).2.2
        rw [st _ _ z] at this
        cases this
  obtain ⟨sl, hs⟩ := T'.up hLg
  obtain ⟨T₁, S₁⟩ := kts_turn_at (h := s'.heap) (fs := outer.filterMap (·.frame)) (g := h₀)
    (fun b hb => by
      obtain ⟨_, o, ho', _⟩ := B.frames.mem hb
      exact ⟨o, ho'⟩)
    (fun b o e nmem => F'.keep b o (T'.other b o (st b o e) (fun q => by
      rcases kts_mem q with z | z
      · rw [z, nL₀] at e
        cases e
      · exact nmem z)))
    (fun b o e hm => by
      obtain ⟨sl', hs'⟩ := T'.up (st b o e)
      exact ⟨sl', F'.keep _ _ hs'⟩)
  have B₃ : Below A₀ base outer (ktsHeap s'.heap (outer.filterMap (·.frame)) h₀) := ⟨B.stack, fun b o e => T₁.other b o (B.stays b o e) (fun hm => by
    rw [(B.frames.mem hm).1] at e
    cases e), B.frames.of_keeps fun b o e _ => by
    obtain ⟨sl', hs'⟩ := T₁.up e
    exact ⟨_, hs', rfl⟩⟩
  refine k _ (T0.trans T₁) ⟨hNs sl _ (F'.keep _ _ hs), S₁, by rw [T₁.size]; exact F.above⟩ (fun q hq => ⟨(N' q hq).1, fun z => ?_, ?_⟩) B₃ (XB.keeps B₃.stays) (TB.keeps B₃.stays) (D.turn T₁)
  · have := (N' q hq).2.2
    rw [z, hs] at this
    cases this
  · refine T₁.none_ _ ?_
    cases z : h₀.get? q.1 with
    | none => rfl
    | some o =>
      obtain ⟨sl', hs'⟩ := T'.up (st _ _ z)
      have := (N' q hq).2.2
      rw [hs'] at this
      cases this
theorem defC0_1 {x0 : Value} (n0 : Str) (B : Below A₀ base [] h₀) (F : Fr h₀ L s.heap m) (X₀ : K.In h₀) (N : News h₀ L s.heap news) (T : Top p loose mean mg mb h₀) (hA : A.frames = some [envOf cn cs L a ccd])
    (ho : K.lookup f = some ⟨oc, od, .func (fnOf name qual params body scope dV kV doc pm an cdv ct), osl⟩) (hcd : codeIn K cdv qual = true) (hroom : A.depth < recursionLimit)
    (hbind : bindArgs (fnOf name qual params body scope dV kV doc pm an cdv ct) ⟨[x0], []⟩ = pure [(n0, x0)]) (hloc : ∀ y ∈ ([(n0, x0)] : List (Str × Value)), scope.names.lookup y.1 = some .local)
    (h : ∀ g L' h₁, Fr h₀ L g m → Fr g L' h₁ (fun y => ([(n0, x0)] : List (Str × Value)).reverse.lookup y) → News g L' h₁ news → Below A base [envOf cn cs L a ccd] g → K.In g → Top p loose mean mg mb g → KtsDicts ([envOf cn cs L a ccd].filterMap (·.frame)) g →
      wpC (model prog w) (A.deeper (envOf qual scope L' f cdv)) (execs body (envOf qual scope L' f cdv))
        (fun fl s' => LeaveS0 ([envOf cn cs L a ccd].filterMap (·.frame)) h₀ L m g R (match fl with | .ret v => v | _ => .none) s')
        (fun e s' => wpAny (model prog w) (A.deeper (envOf qual scope L' f cdv)) (leaving (envOf qual scope L' f cdv) e) (fun _ s'' => R (.error e) s'') (fun e' s'' => R (.error e') s'') s')
        { s with heap := h₁, toks := s.toks + 1 })
    (hck : cs.kind = .function) (hco : scope.isCoroutine = false) (hgen : scope.isGenerator = false) (hk : scope.kind = .function)
    (hcell : ∀ x ∈ scope.names, x.2 ≠ .cell) : codeC (model prog w) A (.call (.ref f) ⟨[x0], []⟩) R s :=
  defC0 (binds := [(n0, x0)]) B F X₀ N T hA ho hcd hroom (BindsTo.of_eq hbind) hloc h hck hco hgen hk hcell
theorem defC1_2 {x0 x1 : Value} (n0 n1 : Str) (B : Below A₀ base outer h₀) (F : Fr h₀ L s.heap m) (X₀ : K.In h₀) (N : News h₀ L s.heap news) (T : Top p loose mean mg mb h₀) (XB : K.In base) (TB : Top p loose mean mg mb base) (D : KtsDicts (outer.filterMap (·.frame)) h₀)
    (T0 : KtsTurn (outer.filterMap (·.frame)) g₀ h₀) (hA : A.frames = some (envOf cn cs L a ccd :: outer))
    (ho : K.lookup f = some ⟨oc, od, .func (fnOf name qual params body scope dV kV doc pm an cdv ct), osl⟩) (hcd : codeIn K cdv qual = true) (hroom : A.depth < recursionLimit)
    (hbind : bindArgs (fnOf name qual params body scope dV kV doc pm an cdv ct) ⟨[x0, x1], []⟩ = pure [(n0, x0), (n1, x1)]) (hloc : ∀ y ∈ ([(n0, x0), (n1, x1)] : List (Str × Value)), scope.names.lookup y.1 = some .local)
    (h : ∀ g L' h₁, Fr h₀ L g m → Fr g L' h₁ (fun y => ([(n0, x0), (n1, x1)] : List (Str × Value)).reverse.lookup y) → News g L' h₁ news → Below A base (envOf cn cs L a ccd :: outer) g → K.In g → Top p loose mean mg mb g → KtsDicts ((envOf cn cs L a ccd :: outer).filterMap (·.frame)) g →
      wpC (model prog w) (A.deeper (envOf qual scope L' f cdv)) (execs body (envOf qual scope L' f cdv))
        (fun fl s' => LeaveS ((envOf cn cs L a ccd :: outer).filterMap (·.frame)) A₀ base outer K p loose mean mg mb g₀ h₀ L m g R (match fl with | .ret v => v | _ => .none) s')
        (fun e s' => wpAny (model prog w) (A.deeper (envOf qual scope L' f cdv)) (leaving (envOf qual scope L' f cdv) e) (fun _ s'' => R (.error e) s'') (fun e' s'' => R (.error e') s'') s')
        { s with heap := h₁, toks := s.toks + 2 })
    (hck : cs.kind = .function) (hco : scope.isCoroutine = false) (hgen : scope.isGenerator = false) (hk : scope.kind = .function)
    (hcell : ∀ x ∈ scope.names, x.2 ≠ .cell) : codeC (model prog w) A (.call (.ref f) ⟨[x0, x1], []⟩) R s :=
  defC1 (binds := [(n0, x0), (n1, x1)]) B F X₀ N T XB TB D T0 hA ho hcd hroom (BindsTo.of_eq hbind) hloc h hck hco hgen hk hcell
end
theorem news_drop {h₀ h : Heap} {L : Addr} {x y z : Addr × Obj} {rest : List (Addr × Obj)} (N : News h₀ L h (x :: y :: z :: rest)) : News h₀ L h (x :: rest) := fun p hp => N p (by
  rcases List.mem_cons.mp hp with rfl | hp
  · exact List.mem_cons_self
  · exact List.mem_cons_of_mem _ (List.mem_cons_of_mem _ (List.mem_cons_of_mem _ hp)))
theorem allLt_all {d : Nat} : ∀ {l : List (Addr × Obj)}, AllLt d l → ∀ p ∈ l, p.1 < d
  | [], _, _, hp => nomatch hp
  | x :: r, h, p, hp => by
    rcases List.mem_cons.mp hp with rfl | hp
    · exact h.1
    · exact allLt_all h.2 p hp
theorem news_tail {h₀ h : Heap} {L : Addr} {x : Addr × Obj} {r : List (Addr × Obj)} (N : News h₀ L h (x :: r)) : News h₀ L h r := fun p hp => N p (List.mem_cons_of_mem _ hp)
theorem news_skip {h₀ h : Heap} {L : Addr} {x y : Addr × Obj} {rest : List (Addr × Obj)} (N : News h₀ L h (x :: y :: rest)) : News h₀ L h (x :: rest) := fun p hp => N p (by
  rcases List.mem_cons.mp hp with rfl | hp
  · exact List.mem_cons_self
  · exact List.mem_cons_of_mem _ (List.mem_cons_of_mem _ hp))
end Mine
end
section
namespace Mine
section
variable {prog : Program} {w : World} {A : Around} {h₀ : Heap} {L : Addr} {m : Str → Option Value} {env : Env} {elt : Expr} {x : Str} {scope : Scope} {cl : List (Str × Addr)} {s : Shared} {S : List (Addr × Obj) → Prop} {P : Nat → Value → Prop} {Fin : List Value → List (Addr × Obj) → Prop} {news : List (Addr × Obj)}
theorem cp_rest {n : Nat} (R : Nat → Value → Prop)
    (turn : ∀ i v I oI C oC D m₂ ys h tk (E' : Value → Shared → Prop), P i v → i < n → LCg.NsObj oC m₂ → m₂ x = some v → Fr h₀ L h m → News h₀ L h ((I, oI) :: (C, oC) :: (D, LCg.lst ys) :: news) → LCg.Off3 I C D news → ((@Ne Nat I C) ∧ (@Ne Nat I D) ∧ (@Ne Nat C D)) →
      wpAny (model prog w) A (eval elt (compEnvC scope cl C env)) (LCg.CompEnd h₀ L m { s with heap := h, toks := tk } I oI C oC D (LCg.lst ys) S (fun y news' => news' = news ∧ R i y)) E' { s with heap := h, toks := tk })
    (fin : ∀ ys, ys.length = n → (∀ i y, ys[i]? = some y → R i y) → Fin ys news) : LCg.CompRest prog w A h₀ L m env elt x scope cl s S P Fin n 0 [] news := by
  have key : ∀ (j i : Nat) (ys : List Value), i + j = n → ys.length = i → (∀ k y, ys[k]? = some y → R k y) → LCg.CompRest prog w A h₀ L m env elt x scope cl s S P Fin j i ys news := by
    intro j
    induction j with
    | zero =>
      intro i ys hi hl hy
      exact LCg.CompRest.zero (fin ys (by omega) hy)
    | succ j ih =>
      intro i ys hi hl hy
      refine LCg.CompRest.succ ?_
      intro v I oI C oC D m₂ h tk E' hv hC hx F N off ne
      refine wpAny_mono (turn i v I oI C oC D m₂ ys h tk E' hv (by omega) hC hx F N off ne) (fun y s₂ hq => ?_) fun _ _ e => e
      obtain ⟨h', tk', nw, e, F', N', off', hS, rfl, hr⟩ := hq
      refine ⟨h', tk', nw, e, F', N', off', hS, ih (i + 1) (ys ++ [y]) (by omega) (by simp [hl]) fun k z hz => ?_⟩
      by_cases hk : k < ys.length
      · rw [List.getElem?_append_left hk] at hz
        exact hy k z hz
      · have hk' := (List.getElem?_eq_some_iff.mp hz).1
        simp at hk'
        have hk2 : k = i := by omega
        subst hk2
        rw [List.getElem?_append_right (by omega)] at hz
        simp [hl] at hz
        rw [← hz]
        exact hr
  exact key n 0 [] (by omega) rfl (by intro k y hk; simp at hk)
theorem cp_end {I C D : Addr} {oI oC oD : Obj} {s₁ : Shared} {R : Value → Prop} {y : Value} {h' : Heap} {tk : Nat} {all : List (Addr × Obj)}
    (F : Fr h₀ L h' m) (N : News h₀ L h' all) (sub : ∀ p ∈ (I, oI) :: (C, oC) :: (D, oD) :: news, p ∈ all) (off : LCg.Off3 I C D news) (hS : S news) (r : R y) :
    LCg.CompEnd h₀ L m s₁ I oI C oC D oD S (fun y news' => news' = news ∧ R y) y { s₁ with heap := h', toks := tk } := LCg.CompEnd.intro F N news sub off hS ⟨rfl, r⟩
end
theorem strs_at {vs : List Value} {ss : List Str} (h : StrsAre vs ss) : ∀ (i : Nat) v, vs[i]? = some v → ∃ (x : Str) (t : Tok), ss[i]? = some x ∧ v = Value.str x t := by
  induction h with
  | nil => intro i v hv; simp at hv
  | cons y t r ih =>
    intro i v hv
    cases i with
    | zero => simp at hv; exact ⟨y, t, rfl, hv.symm⟩
    | succ i => simp at hv; obtain ⟨x, t', h1, h2⟩ := ih i v hv; exact ⟨x, t', by simpa using h1, h2⟩
theorem strs_of {ss : List Str} : ∀ {vs : List Value}, vs.length = ss.length → (∀ (i : Nat) v, vs[i]? = some v → ∃ (x : Str) (t : Tok), ss[i]? = some x ∧ v = Value.str x t) → StrsAre vs ss := by
  induction ss with
  | nil => intro vs h _; cases vs with | nil => exact .nil | cons _ _ => simp at h
  | cons x ss ih =>
    intro vs h h2
    cases vs with
    | nil => simp at h
    | cons v vs =>
      obtain ⟨y, t, h3, h4⟩ := h2 0 v rfl
      simp at h3
      subst h3; subst h4
      exact .cons _ t (ih (by simpa using h) fun i v hv => by
        obtain ⟨y, t, a, b⟩ := h2 (i + 1) v (by simpa using hv)
        exact ⟨y, t, by simpa using a, b⟩)
theorem ints_of {ns : List Int} : ∀ {vs : List Value}, vs.length = ns.length → (∀ (i : Nat) v, vs[i]? = some v → ∃ (x : Int) (t : Tok), ns[i]? = some x ∧ v = Value.int x t) → IntsAre vs ns := by
  induction ns with
  | nil => intro vs h _; cases vs with | nil => exact .nil | cons _ _ => simp at h
  | cons x ns ih =>
    intro vs h h2
    cases vs with
    | nil => simp at h
    | cons v vs =>
      obtain ⟨y, t, h3, h4⟩ := h2 0 v rfl
      simp at h3
      subst h3; subst h4
      exact .cons _ t (ih (by simpa using h) fun i v hv => by
        obtain ⟨y, t, a, b⟩ := h2 (i + 1) v (by simpa using hv)
        exact ⟨y, t, by simpa using a, b⟩)
end Mine
end
example : True ∧ True := by (w_top off; walk1 <;> exact True.intro)
section
local macro_rules | `(tactic| walk_at "zz") => `(tactic| skip)
example : True ∧ True := by (w_top off; walk1 <;> exact True.intro)
end
section
namespace Mine
noncomputable abbrev lenv (L c : Addr) : Env := envX (Str.ofString "law") sc_935 L 935 (.ref 934) [(Str.ofString "signs", c)]
theorem ld_loc {M : Model} {A : Around} {E : Value → Shared → Prop} {s : Shared} {h₀ : Heap} {L c : Addr} {m : Str → Option Value} {x : Str} {pos : Pos} {v : Value} {Q : Value → Shared → Prop} (F : Fr h₀ L s.heap m) (hx : m x = some v) (h : Q v s)
    (hl : (lenv L c).kindOf x = some .local := by rfl) (hd : (x == ("__debug__" : Str)) = false := by decide) : wpAny M A (eval (.Name x pos) (lenv L c)) Q E s := wpAny_Name (wpAny_loadName_local rfl hl F.ns hx h) hd
theorem st_loc {prog : Program} {w : World} {A : Around} {E : Value → Shared → Prop} {s : Shared} {h₀ : Heap} {L c : Addr} {m : Str → Option Value} {x : Str} {v : Value} {news : List (Addr × Obj)} {Q : Unit → Shared → Prop} (F : Fr h₀ L s.heap m) (N : News h₀ L s.heap news)
    (h : ∀ h', Fr h₀ L h' (fun y => if y = x then some v else m y) → News h₀ L h' news → Q () { s with heap := h', toks := s.toks + 1 })
    (hl : (lenv L c).kindOf x = some .local := by rfl) : wpAny (model prog w) A (storeName (lenv L c) x v) Q E s :=
  wpAny_storeName_local hl F.ns (fun h' hn hs => h h' (F.set hn hs) (fun p hp => ⟨(hs.2 p.1 (N p hp).2.1).trans (N p hp).1, (N p hp).2⟩)) (by rfl)
theorem st_cell {prog : Program} {w : World} {A : Around} {E : Value → Shared → Prop} {s : Shared} {h₀ : Heap} {L c : Addr} {m : Str → Option Value} {v : Value} {oC : Obj} {v₀ : Option Value} {news : List (Addr × Obj)} {Q : Unit → Shared → Prop} (F : Fr h₀ L s.heap m) (N : News h₀ L s.heap ((c, oC) :: news)) (hd : oC.data = .cell v₀) (hne : ∀ p ∈ news, p.1 ≠ c)
    (h : ∀ h' oC', oC'.data = .cell (some v) → Fr h₀ L h' m → News h₀ L h' ((c, oC') :: news) → Q () { s with heap := h' }) : wpAny (model prog w) A (storeName (lenv L c) (Str.ofString "signs") v) Q E s := by
  have hc := N _ (.head _)
  refine wpAny_storeName_cell (c := c) (v₀ := v₀) rfl rfl rfl ⟨oC, hc.1, hd⟩ fun h' hv hs => ?_
  obtain ⟨o', ho', hd'⟩ := hv
  refine h h' o' hd' ⟨F.ns.sameBut hs (Ne.symm hc.2.1), fun b ob e => (hs.2 b (fun q => ?_)).trans (F.keep b ob e), F.above⟩ (News.setHead N hne hs ho')
  rw [q, hc.2.2] at e
  cases e
local macro_rules | `(tactic| walk_at "ite") => `(tactic| first | with_reducible refine ite_neg (by with_reducible assumption) ?_ | with_reducible refine ite_pos (by with_reducible assumption) ?_  | (k_closed; first | refine ite_pos (by decide +kernel) ?_ | refine ite_neg (by decide +kernel) ?_))
local macro_rules | `(tactic| walk_at "pyIter str") => `(tactic| (refine halt_in ?_))
local macro_rules | `(tactic| walk_at "exec For") => `(tactic| (k_here; (rename Fr _ _ _ _ => lF'); (with_unfolding_all refine' For_invVF lF' ?k1 ?k2 ?_; (case k1 => exact rfl); (case k2 => exact rfl); k_whole)))
local macro_rules | `(tactic| walk_at "exec For Name BinOp cons nil") => `(tactic| (k_here; (rename Fr _ _ _ _ => lF'); (with_unfolding_all refine' For_invVF lF' ?k1 ?k2 ?_; (case k1 => exact rfl); (case k2 => exact rfl); k_whole)))
local macro_rules | `(tactic| walk_at "exec Assign cons ListComp") => `(tactic| (k_here; k_dflt (refine LCg.Assign_ListComp_U (F₀ := by k_asm) (by rfl) (by with_unfolding_all rfl) (by with_unfolding_all rfl) (by decide) (by rfl) (by decide) (by rfl) (by rfl) (by rfl) ?_)))
local macro_rules | `(tactic| walk_at "eval ListComp") => `(tactic| (k_here; k_dflt (refine LCg.ListComp_U (F₀ := by k_asm) (by with_unfolding_all rfl) (by decide) (by rfl) (by decide) (by rfl) ?_)))
local macro_rules | `(tactic| walk_at "CompSrc") => `(tactic| (refine halt_in ?_))
local macro_rules | `(tactic| walk_at "CompEnd") => `(tactic| (refine halt_in ?_))
local macro_rules | `(tactic| walk_at "call ref") => `(tactic| (refine halt_in ?_))
local macro_rules | `(tactic| walk_at "eval Name") => `(tactic| (k_here; (with_reducible show wpAny _ _ (eval (Expr.Name _ _) (lenv _ _)) _ _ _); refine ld_loc (by k_asm) (by with_reducible assumption) ?_ (by rfl) (by decide)))
local macro_rules | `(tactic| walk_at "storeName") => `(tactic| (k_here; k_dflt (refine' st_loc ?F ?N ?_ ?hl; (case F => k_asm); (case N => k_asm); (case hl => rfl); k_whole); intro h7' F7' N7'; (try dsimp only)))
noncomputable abbrev ls0 : { x : Stmt // bd_935.getD 0 (.Pass ⟨0,0,0,0⟩) = x } := ⟨_, by conv => { lhs; whnf }⟩
noncomputable abbrev ls1 : { x : Stmt // bd_935.getD 1 (.Pass ⟨0,0,0,0⟩) = x } := ⟨_, by conv => { lhs; whnf }⟩
abbrev sg1 (c : Nat) : Str := ⟨#[c]⟩
theorem signs_of {R : Nat → Prop} : ∀ (ys : List Value), (∀ (i : Nat) y, ys[i]? = some y → ∃ c t, R c ∧ y = .str (sg1 c) t) → ∃ cs : List Nat, (∀ c ∈ cs, R c) ∧ StrsAre ys (List.map sg1 cs)
  | [], _ => ⟨[], by simp, .nil⟩
  | y :: ys, h => by
    obtain ⟨c, t, hc, rfl⟩ := h 0 y rfl
    obtain ⟨cs, h1, h2⟩ := signs_of ys fun i z hz => h (i + 1) z (by simpa using hz)
    exact ⟨c :: cs, fun d hd => by rcases List.mem_cons.mp hd with rfl | hd; exact hc; exact h1 d hd, .cons _ t h2⟩
theorem ints_at {vs : List Value} {ns : List Int} (h : IntsAre vs ns) : ∀ (i : Nat) v, vs[i]? = some v → ∃ (x : Int) (t : Tok), ns[i]? = some x ∧ v = Value.int x t := by
  induction h with
  | nil => intro i v hv; simp at hv
  | cons y t r ih =>
    intro i v hv
    cases i with
    | zero => simp at hv; exact ⟨y, t, rfl, hv.symm⟩
    | succ i => simp at hv; obtain ⟨x, t', h1, h2⟩ := ih i v hv; exact ⟨x, t', by simpa using h1, h2⟩
theorem law_0 (w : World) (mean : ExcName → Option Value) (mg mb : Str → Option Value) (l : Addr) (vs : List Value) (ns : List Int)
   (dp un : Nat) (gd : Option (List Code)) (A₀ : Around) (base h₀ : Heap) (L c : Nat) (m : Str → Option Value) (s : Shared) (Q : Flow → Shared → Prop) (E : Value → Shared → Prop)
    (B : Below A₀ base [] h₀) (F : Fr h₀ L s.heap m) (X : (Mine.kk w.params).In h₀) (T : Top Mine.vq (looseW Mine.vq Mine.lo) mean mg mb h₀)
    (hl : h₀.IsList l vs.toArray) (hi : IntsAre vs ns) (hn : ns.length ≤ 63) (hm : m (Str.ofString "script") = some (.ref l))
    (hdp : dp + 300 < recursionLimit) (hun : un + 700 < cLine)
    (oC : Obj) (hoC : oC.data = .cell none) (N : News h₀ L s.heap [(c, oC)])
    (hQ : ∀ (D : Nat) (ys : List Value) (cs : List Nat) oC' h' tk', (∀ c ∈ cs, SignOk c) → StrsAre ys (List.map sg1 cs) → cs.length ≤ 8 → oC'.data = .cell (some (.ref D)) → Fr h₀ L h' m → News h₀ L h' [(c, oC'), (D, LCg.lst ys)] → Q .next { s with heap := h', toks := tk' }) :
    wpAny (model pg w) (ktrTop dp un gd (Str.ofString "law") sc_935 L 935 (.ref 934) [(Str.ofString "signs", c)] []) (exec ls0.1 (lenv L c)) Q E s := by
  k_steps
  unfold Halt
  rename_i D1 ws1 h1 F1 N1 hI1 hC1 hL1 l1
  have hwl : ws1.length ≤ 8 := by rw [hI1.length, hC1]; omega
  refine LCg.CompSrc.ledger rfl F1 N1 (.head _) ?hsz ?_
  case hsz => rw [sizeLine_eq, List.size_toArray]; omega
  intro gg
  refine cp_rest (fun i y => ∃ c t, SignOk c ∧ y = .str (sg1 c) t) ?turn ?fin
  case turn =>
    intro i v9 I oI C oC D9 m₂ ys h9 tk9 E9 hv9 hi9 hC9 hx9 F9 N9 off9 ne9
    obtain ⟨z, tz, hz, rfl⟩ := ints_at hI1 i v9 (by simpa using hv9)
    k_steps
    unfold Halt
    k_dflt (refine' sg_1 w mean mg mb _ _ _ _ _ _ _ _ _ _ _ _ _ _ _ _ _ _ _ _ ?B ?F ?X ?T ?hcs ?N ?hdp ?hun ?_; (case B => k_asm); (case F => k_asm); (case X => k_asm); (case T => k_asm); (case hcs => exact rfl); (case N => k_asm); (case hdp => ktr_room); (case hun => ktr_units); k_whole)
    intro h8 tk8 t8 c8 hc8 F8 N8
    try dsimp only
    k_steps
    unfold Halt
    exact cp_end F8 N8 (fun p hp => hp) off9 (.inr ⟨_, .head _, rfl, _, rfl⟩) ⟨c8, _, hc8, rfl⟩
  case fin =>
    intro ys hlen hy
    obtain ⟨cs, hcs, hst⟩ := signs_of ys hy
    have hcl : cs.length ≤ 8 := by have h1 := StrsAre.len_eq hst; rw [List.length_map] at h1; rw [← h1, hlen, List.size_toArray]; exact hwl
    unfold LCg.FinE
    intro D9 h9 tk9 F9 N9 o9
    refine st_cell F9 (oC := oC) (v₀ := none) (news := [(D9, LCg.lst ys)]) (fun p hp => N9 p ?_) hoC (fun p hp => ?_) ?_
    · simp only [List.mem_cons, List.not_mem_nil, or_false] at hp ⊢
      rcases hp with rfl | rfl
      · exact .inr (.inr rfl)
      · exact .inl rfl
    · simp only [List.mem_cons, List.not_mem_nil, or_false] at hp
      subst hp
      exact fun e => o9.2.1 e.symm
    intro h7 oC7 hd7 F7 N7
    exact hQ D9 ys cs oC7 _ _ hcs hst hcl hd7 F7 N7
end Mine
end
example : True ∧ True := by (w_top off; walk1 <;> exact True.intro)
section
local macro_rules | `(tactic| walk_at "zz") => `(tactic| skip)
example : True ∧ True := by (w_top off; walk1 <;> exact True.intro)
end
section
namespace Mine
local macro_rules | `(tactic| walk_at "ite") => `(tactic| first | with_reducible refine ite_neg (by with_reducible assumption) ?_ | with_reducible refine ite_pos (by with_reducible assumption) ?_  | (k_closed; first | refine ite_pos (by decide +kernel) ?_ | refine ite_neg (by decide +kernel) ?_))
local macro_rules | `(tactic| walk_at "pyIter str") => `(tactic| (refine halt_in ?_))
local macro_rules | `(tactic| walk_at "exec For") => `(tactic| (k_here; (rename Fr _ _ _ _ => lF'); (with_unfolding_all refine' For_invVF lF' ?k1 ?k2 ?_; (case k1 => exact rfl); (case k2 => exact rfl); k_whole)))
local macro_rules | `(tactic| walk_at "exec For Name BinOp cons nil") => `(tactic| (k_here; (rename Fr _ _ _ _ => lF'); (with_unfolding_all refine' For_invVF lF' ?k1 ?k2 ?_; (case k1 => exact rfl); (case k2 => exact rfl); k_whole)))
local macro_rules | `(tactic| walk_at "exec Assign cons ListComp") => `(tactic| (k_here; k_dflt (refine LCg.Assign_ListComp_U (F₀ := by k_asm) (by rfl) (by with_unfolding_all rfl) (by with_unfolding_all rfl) (by decide) (by rfl) (by decide) (by rfl) (by rfl) (by rfl) ?_)))
local macro_rules | `(tactic| walk_at "eval ListComp") => `(tactic| (k_here; k_dflt (refine LCg.ListComp_U (F₀ := by k_asm) (by with_unfolding_all rfl) (by decide) (by rfl) (by decide) (by rfl) ?_)))
local macro_rules | `(tactic| walk_at "CompSrc") => `(tactic| (refine halt_in ?_))
local macro_rules | `(tactic| walk_at "CompEnd") => `(tactic| (refine halt_in ?_))
local macro_rules | `(tactic| walk_at "call ref") => `(tactic| (refine halt_in ?_))
local macro_rules | `(tactic| walk_at "eval Name") => `(tactic| (k_here; (with_reducible show wpAny _ _ (eval (Expr.Name _ _) (lenv _ _)) _ _ _); refine ld_loc (by k_asm) (by with_reducible assumption) ?_ (by rfl) (by decide)))
local macro_rules | `(tactic| walk_at "storeName") => `(tactic| (k_here; k_dflt (refine' st_loc ?F ?N ?_ ?hl; (case F => k_asm); (case N => k_asm); (case hl => rfl); k_whole); intro h7' F7' N7'; (try dsimp only)))
theorem law_1t (w : World) (mean : ExcName → Option Value) (mg mb : Str → Option Value) (l : Addr) (vs : List Value) (ns : List Int)
   (dp un : Nat) (gd : Option (List Code)) (A₀ : Around) (base h₀ : Heap) (L c : Nat) (m : Str → Option Value) (s : Shared) (Q : Flow → Shared → Prop) (E : Value → Shared → Prop)
    (B : Below A₀ base [] h₀) (F : Fr h₀ L s.heap m) (X : (Mine.kk w.params).In h₀) (T : Top Mine.vq (looseW Mine.vq Mine.lo) mean mg mb h₀)
    (hl : h₀.IsList l vs.toArray) (hi : IntsAre vs ns) (hn : ns.length ≤ 63) (hm : m (Str.ofString "script") = some (.ref l))
    (hdp : dp + 300 < recursionLimit) (hun : un + 700 < cLine) (rest : List (Addr × Obj))
    (N : News h₀ L s.heap rest)
    (hQ : ∀ k t' h' tk', MarkOk k → 1 ≤ t' ∧ t' < tk' → Fr h₀ L h' (fun y => if y = Str.ofString "mark" then some (.str ⟨#[k]⟩ t') else m y) → News h₀ L h' rest → Q .next { s with heap := h', toks := tk' }) :
    wpAny (model pg w) (ktrTop dp un gd (Str.ofString "law") sc_935 L 935 (.ref 934) [(Str.ofString "signs", c)] []) (exec ls1.1 (lenv L c)) Q E s := by
  k_steps
  unfold Halt
  k_dflt (refine' mk_t w mean mg mb _ _ _ _ _ _ _ _ _ _ _ _ _ _ _ _ _ _ _ _ ?B ?F ?X ?T ?hcs ?N ?hdp ?hun ?_; (case B => k_asm); (case F => k_asm); (case X => k_asm); (case T => k_asm); (case hcs => exact rfl); (case N => k_asm); (case hdp => ktr_room); (case hun => ktr_units); k_whole)
  intro h8 tk8 t8 k8 hk8 b8 F8 N8
  dsimp only
  refine storeX_L F8 N8 ?_ rfl rfl
  intro h7 F7 N7
  exact hQ k8 _ _ _ hk8 ⟨b8.1, Nat.lt_succ_of_lt b8.2⟩ F7 (news_tail N7)
end Mine
end
example : True ∧ True := by (w_top off; walk1 <;> exact True.intro)
section
local macro_rules | `(tactic| walk_at "zz") => `(tactic| skip)
example : True ∧ True := by (w_top off; walk1 <;> exact True.intro)
end
section
namespace Mine
local macro_rules | `(tactic| walk_at "ite") => `(tactic| first | with_reducible refine ite_neg (by with_reducible assumption) ?_ | with_reducible refine ite_pos (by with_reducible assumption) ?_  | (k_closed; first | refine ite_pos (by decide +kernel) ?_ | refine ite_neg (by decide +kernel) ?_))
local macro_rules | `(tactic| walk_at "pyIter str") => `(tactic| (refine halt_in ?_))
local macro_rules | `(tactic| walk_at "exec For") => `(tactic| (k_here; (rename Fr _ _ _ _ => lF'); (with_unfolding_all refine' For_invVF lF' ?k1 ?k2 ?_; (case k1 => exact rfl); (case k2 => exact rfl); k_whole)))
local macro_rules | `(tactic| walk_at "exec For Name BinOp cons nil") => `(tactic| (k_here; (rename Fr _ _ _ _ => lF'); (with_unfolding_all refine' For_invVF lF' ?k1 ?k2 ?_; (case k1 => exact rfl); (case k2 => exact rfl); k_whole)))
local macro_rules | `(tactic| walk_at "exec Assign cons ListComp") => `(tactic| (k_here; k_dflt (refine LCg.Assign_ListComp_U (F₀ := by k_asm) (by rfl) (by with_unfolding_all rfl) (by with_unfolding_all rfl) (by decide) (by rfl) (by decide) (by rfl) (by rfl) (by rfl) ?_)))
local macro_rules | `(tactic| walk_at "eval ListComp") => `(tactic| (k_here; k_dflt (refine LCg.ListComp_U (F₀ := by k_asm) (by with_unfolding_all rfl) (by decide) (by rfl) (by decide) (by rfl) ?_)))
local macro_rules | `(tactic| walk_at "CompSrc") => `(tactic| (refine halt_in ?_))
local macro_rules | `(tactic| walk_at "CompEnd") => `(tactic| (refine halt_in ?_))
local macro_rules | `(tactic| walk_at "call ref") => `(tactic| (refine halt_in ?_))
local macro_rules | `(tactic| walk_at "eval Name") => `(tactic| (k_here; (with_reducible show wpAny _ _ (eval (Expr.Name _ _) (lenv _ _)) _ _ _); refine ld_loc (by k_asm) (by with_reducible assumption) ?_ (by rfl) (by decide)))
local macro_rules | `(tactic| walk_at "storeName") => `(tactic| (k_here; k_dflt (refine' st_loc ?F ?N ?_ ?hl; (case F => k_asm); (case N => k_asm); (case hl => rfl); k_whole); intro h7' F7' N7'; (try dsimp only)))
noncomputable abbrev ls2 : { x : Stmt // bd_935.getD 2 (.Pass ⟨0,0,0,0⟩) = x } := ⟨_, by conv => { lhs; whnf }⟩
noncomputable abbrev li2 : { x : Expr // (match ls2.1 with | .For _ i _ _ _ => i | _ => .Constant .none 0 ⟨0,0,0,0⟩) = x } := ⟨_, by conv => { lhs; whnf }⟩
theorem pick_take (ys : List Value) (i : Nat) : (slicePick ys.toArray none (some ((0 : Int) + (i : Int))) none).toList = ys.take i := by
  have e : sliceBounds none (some ((0 : Int) + (i : Int))) none ys.toArray.size = (((0 : Nat) : Int), ((min i ys.toArray.size : Nat) : Int), 1) := by
    simp only [sliceBounds, Option.getD_none, show (1 : Int) > 0 by decide, if_true, if_neg (show ¬ ((0 : Int) + (i : Int) < 0) by omega)]
    congr 1
    congr 1
    omega
  rw [kmk_pick_nat _ e]
  show (ys.drop 0).take (min i ys.toArray.size - 0) = _
  rw [List.drop_zero, Nat.sub_zero, List.size_toArray, kmk_take_min]
theorem strs_take : ∀ {vs : List Value} {ss : List Str}, StrsAre vs ss → ∀ k : Nat, StrsAre (vs.take k) (ss.take k)
  | _, _, _, 0 => .nil
  | _, _, .nil, _ + 1 => .nil
  | _, _, .cons y t h, k + 1 => .cons y t (strs_take h k)
theorem txt_join (x : Str) (l : List Str) : Txt.join x l = Str.join x l := StrLaws.glued_eq_join ..
theorem join_sg0 : ∀ cs : List Nat, Str.join (Str.ofString "") (cs.map sg1) = ⟨cs.toArray⟩
  | [] => rfl
  | [c] => rfl
  | c :: d :: r => by
    have e := join_sg0 (d :: r)
    show Str.join (Str.ofString "") (sg1 c :: sg1 d :: r.map sg1) = _
    rw [show Str.join (Str.ofString "") (sg1 c :: sg1 d :: r.map sg1) = sg1 c ++ Str.ofString "" ++ Str.join (Str.ofString "") ((d :: r).map sg1) from rfl, e]
    show (⟨(#[c] ++ #[]) ++ (d :: r).toArray⟩ : Str) = _
    congr 1
    simp
theorem join_sg (cs : List Nat) : Txt.join (Str.ofString "") (cs.map sg1) = ⟨cs.toArray⟩ := (txt_join _ _).trans (join_sg0 cs)
def rowsOf (cs : List Nat) : List Str := Str.ofString "1//21" :: (List.range (cs.length + 1)).map fun i => ⟨(cs.take i).toArray⟩
theorem news_first {h₀ h : Heap} {L : Addr} {x : Addr × Obj} {r : List (Addr × Obj)} (N : News h₀ L h (x :: r)) : News h₀ L h [x] := fun p hp => N p (by simp at hp; subst hp; simp)
theorem sg_len (cs : List Nat) : ((cs.map sg1).map (·.length)).sum = cs.length := by
  induction cs with
  | nil => rfl
  | cons c r ih => simp only [List.map_cons, List.sum_cons, ih, List.length_cons]; show 1 + _ = _; omega
theorem law_rows (w : World) (mean : ExcName → Option Value) (mg mb : Str → Option Value)
   (dp un : Nat) (gd : Option (List Code)) (A₀ : Around) (base h₀ : Heap) (L c : Nat) (m : Str → Option Value) (s : Shared) (Q E : Value → Shared → Prop)
    (B : Below A₀ base [] h₀) (F : Fr h₀ L s.heap m) (X : (Mine.kk w.params).In h₀) (T : Top Mine.vq (looseW Mine.vq Mine.lo) mean mg mb h₀)
    (hdp : dp + 300 < recursionLimit) (hun : un + 700 < cLine) (D : Nat) (ys : List Value) (cs : List Nat) (oC : Obj) (hoC : oC.data = .cell (some (.ref D))) (hst : StrsAre ys (cs.map sg1)) (hcl : cs.length ≤ 8)
    (N : News h₀ L s.heap [(c, oC), (D, LCg.lst ys)])
    (hQ : ∀ (R : Nat) (arr : Array Value) ep h' tk', StrsAre arr.toList (rowsOf cs) → Fr h₀ L h' m → News h₀ L h' [(R, W.listOf arr ep)] → Q (.ref R) { s with heap := h', toks := tk' }) :
    wpAny (model pg w) (ktrTop dp un gd (Str.ofString "law") sc_935 L 935 (.ref 934) [(Str.ofString "signs", c)] []) (eval li2.1 (lenv L c)) Q E s := by
  have hyl : ys.toArray.size = cs.length := by rw [List.size_toArray, StrsAre.len_eq hst, List.length_map]
  k_steps
  unfold Halt
  rename_i h8 tk8 t1 u1 v1 R8 F8 N8 K8
  have e8 : ((cs.length : Int) + 1) = ((cs.length + 1 : Nat) : Int) := by omega
  rw [e8] at R8
  refine LCg.CompSrc.range (n := cs.length + 1) rfl F8 N8 R8 ?hsm ?hn ?hsz ?_
  case hsm => exact small_one (by omega) (by omega) (by omega) (by omega)
  case hn => rw [rangeSize_nat]; omega
  case hsz => rw [sizeLine_eq]; omega
  intro gg
  refine cp_rest (fun i y => ∃ t, y = .str ⟨(cs.take i).toArray⟩ t) ?turn ?fin
  case turn =>
    intro i v9 I oI C oC9 D9 m₂ zs h6 tk6 E9 hv9 hi9 hC9 hx9 F6 N6 off9 ne9
    obtain ⟨t9, rfl⟩ := hv9
    k_steps
    have hl6 : h6.IsList D ys.toArray := ⟨_, (N6 (D, LCg.lst ys) (by simp)).1, rfl, _, rfl⟩
    k_dflt (refine' kmk_slice_lit (zs := ys.take i) ?F ?N ?hl .none (.int _ _) (pick_take ys i) ?_ ?hs ?ht ?hz; (case F => exact F6); (case N => exact N6); (case hl => exact hl6); (case hs => with_unfolding_all rfl); (case ht => intro _; with_unfolding_all rfl); (case hz => rw [hyl, sizeLine_eq]; omega); k_whole)
    intro D5 h5 F5 N5 o5
    try dsimp only
    k_steps
    have hl5 : h5.IsList D5 (ys.take i).toArray := ⟨_, (N5 _ (.head _)).1, rfl, _, rfl⟩
    have hst5 := strs_take hst i
    rw [← List.map_take] at hst5
    have hlen5 : (cs.take i).length ≤ 8 := by rw [List.length_take]; omega
    refine join_list hl5 hst5 ?_ ?_
    · rw [sg_len, List.length_map]
      show _ + _ * 0 ≤ _
      omega
    intro t4 k4
    rw [join_sg]
    try dsimp only
    k_steps
    unfold Halt
    exact cp_end F5 N5 (fun p hp => List.mem_cons_of_mem _ hp) off9 trivial ⟨_, rfl⟩
  case fin =>
    intro zs hlen hz
    unfold LCg.FinE
    intro D9 h6 tk6 F6 N6 o6
    k_steps
    rename_i h4 F4 N4
    refine hQ _ _ _ _ _ ?_ F4 (news_first N4)
    have hz2 : StrsAre zs ((List.range (cs.length + 1)).map fun i => (⟨(cs.take i).toArray⟩ : Str)) := strs_of (by rw [hlen, List.length_map, List.length_range]) (fun i v hv => by
      obtain ⟨t, rfl⟩ := hz i v hv
      have hi := (List.getElem?_eq_some_iff.mp hv).1
      rw [hlen] at hi
      exact ⟨_, t, by rw [List.getElem?_map, List.getElem?_range hi]; rfl, rfl⟩)
    exact .cons _ _ (by simpa using hz2)
end Mine
end
example : True ∧ True := by (w_top off; walk1 <;> exact True.intro)
section
local macro_rules | `(tactic| walk_at "zz") => `(tactic| skip)
example : True ∧ True := by (w_top off; walk1 <;> exact True.intro)
end
section
namespace Mine
theorem sio_c (w : World) (mean : ExcName → Option Value) (mg mb : Str → Option Value) (y dy : Nat) (hs : Nat → Int) (ts : Nat → Tok) (tb tp t1' : Tok) (nl : Value) (buf : Str) (pos c : Nat) (r : List Nat) (rest : List (Addr × Obj)) (a1 a2 : Nat) (o1 o2 : Obj)
   (ha1 : a1 ≠ dy) (ha2 : a2 ≠ dy) (hy : dy < y) (hr : ∀ p ∈ rest, p.1 ≠ dy)
   (hb : buf.length ≤ 1000) (hc : buf.cps.toList.drop pos = c :: r)
   (dp un : Nat) (gd : Option (List Code)) (cn : Str) (cs : Scope) (a : Addr) (ccd : Value) (cl : List (Str × Addr)) (outer : List Env) (A₀ : Around) (base h₀ : Heap) (L : Addr) (m : Str → Option Value) (s : Shared) (Q E : Value → Shared → Prop)
    (B : Below A₀ base outer h₀) (F : Fr h₀ L s.heap m) (X : (Mine.kk w.params).In h₀)
    (N : News h₀ L s.heap ((a1, o1) :: (a2, o2) :: (y, instObj 735 dy) :: (dy, dictOf (sioD hs ts nl buf tb pos tp) 3) :: rest))
    (T : Top Mine.vq (looseW Mine.vq Mine.lo) mean mg mb h₀) (hcs : cs.kind = .function)
    (hdp : dp + 10 < recursionLimit) (hun : un + 20 < cLine)
    (hret : ∀ t' tp' h' tk', Fr h₀ L h' m → News h₀ L h' ((a1, o1) :: (a2, o2) :: (y, instObj 735 dy) :: (dy, dictOf (sioD hs ts nl buf tb (pos + 1 : Nat) tp') 3) :: rest) → Q (.str ⟨#[c]⟩ t') { s with heap := h', toks := tk' }) :
      wpAny (model pg w) (ktrTop dp un gd cn cs L a ccd cl outer) (call (.ref 681) [.ref y, .int 1 t1']) Q E s := by
  have hl := drop_len hc
  have h1 := slice_one hc
  refine wpAny_call ?_; k_dflt (walk_at "my enter")
  k_steps
  · rw [h1]
    exact hret _ _ _ _ (by k_asm) (by k_asm)
  · have e : (buf.length : Int) = ((pos + 1 : Nat) : Int) := by omega
    have e2 : (((pos + 1 : Nat) : Int)) = (pos : Int) + 1 := by omega
    simp only [e] at *
    rw [e2, h1]
    exact hret _ _ _ _ (by k_asm) (by k_asm)
theorem sio_e (w : World) (mean : ExcName → Option Value) (mg mb : Str → Option Value) (y dy : Nat) (hs : Nat → Int) (ts : Nat → Tok) (tb tp t1' : Tok) (nl : Value) (buf : Str) (pos : Nat) (rest : List (Addr × Obj)) (a1 a2 : Nat) (o1 o2 : Obj)
   (ha1 : a1 ≠ dy) (ha2 : a2 ≠ dy) (hy : dy < y) (hr : ∀ p ∈ rest, p.1 ≠ dy)
   (hb : buf.length ≤ 1000) (hc : buf.cps.toList.drop pos = [])
   (dp un : Nat) (gd : Option (List Code)) (cn : Str) (cs : Scope) (a : Addr) (ccd : Value) (cl : List (Str × Addr)) (outer : List Env) (A₀ : Around) (base h₀ : Heap) (L : Addr) (m : Str → Option Value) (s : Shared) (Q E : Value → Shared → Prop)
    (B : Below A₀ base outer h₀) (F : Fr h₀ L s.heap m) (X : (Mine.kk w.params).In h₀)
    (N : News h₀ L s.heap ((a1, o1) :: (a2, o2) :: (y, instObj 735 dy) :: (dy, dictOf (sioD hs ts nl buf tb pos tp) 3) :: rest))
    (T : Top Mine.vq (looseW Mine.vq Mine.lo) mean mg mb h₀) (hcs : cs.kind = .function)
    (hdp : dp + 10 < recursionLimit) (hun : un + 20 < cLine)
    (hret : ∀ t' h' tk', Fr h₀ L h' m → News h₀ L h' ((a1, o1) :: (a2, o2) :: (y, instObj 735 dy) :: (dy, dictOf (sioD hs ts nl buf tb pos tp) 3) :: rest) → Q (.str (Str.ofString "") t') { s with heap := h', toks := tk' }) :
      wpAny (model pg w) (ktrTop dp un gd cn cs L a ccd cl outer) (call (.ref 681) [.ref y, .int 1 t1']) Q E s := by
  have hl := drop_nil_len hc
  refine wpAny_call ?_; k_dflt (walk_at "my enter")
  k_steps
  exact hret _ _ _ (by k_asm) (by k_asm)
end Mine
end
section
set_option maxHeartbeats 4000000
namespace Mine
section
variable {w : World} {A : Around} {C : Addr} {R : Result → Shared → Prop} {h : Heap} {g : Array GenState} {d : Drawn} {t : Nat} {os : OsState}
theorem onew_code {oc : Value} {od : Option Addr} {cd : ClassData} {sl : Array (Option Value)} (hC : h.get? C = some ⟨oc, od, .cls cd, sl⟩) (e1 : cd.abstract = false) (e2 : cd.hasDel = false)
    (base : Looks (model pg w) h (Bind.staticBase (.ref C)) (.type "object")) (here : Looks (model pg w) h (Bind.madeHere "object.__new__" (.ref C)) ()) (top : Looks (model pg w) h (isSubtype (.ref C) (.type "object")) true)
    (typ : Looks (model pg w) h (isInstance (.ref C) (.type "type")) true)
    (hq : R (.ok (.ret (.ref (h.objs.size + 1)))) ⟨(h.push emptyDict).push (instObj C h.objs.size), g, d, t, os⟩) :
    codeAny (model pg w) A (.call (.builtin "object.__new__") ⟨[.ref C], []⟩) R ⟨h, g, d, t, os⟩ := by
  have F := PySem.F.objNew
  have made : Looks (model pg w) h (Bind.madeBy (.type "object")) (some "object.__new__") := Looks.of_peek (K := []) (fun _ _ e => nomatch e) (by kernel_rfl)
  refine codeAny_call_builtin_code (Code.quiet_builtin _ F.quiet) ?_
  simp only [checkBuiltinCall, F.kind, F.split, F.row]
  have args : Bind.checkArgs "object.__new__" ⟨.hand, "object.__new__", "__new__", .cls, []⟩ ⟨[.ref C], []⟩ = pure () := by kernel_rfl
  rw [args]
  repeat (first | simp only [bne_self_eq_false, Bool.false_eq_true, if_false] | lk)
  refine codeAny_builtin F.entry ?_
  unfold Builtin.«object.__new__»
  have fin : ∀ A', wpAny (model pg w) A' (do
      let d ← if typeHasDict (.ref C) then some <$> alloc { cls := .type "dict", data := .dict #[] } else pure none
      ret (← newObj (.ref C) .plain d)) (fun fin s' => match fin with | .done f => R (.ok f) s' | .again c' => c'.quiet = true ∧ codeAny (model pg w) A c' R s') (fun e s' => R (.error e) s') ⟨h, g, d, t, os⟩ := by
    intro A'
    show wpAny _ _ ((alloc emptyDict >>= fun x => pure (some x)) >>= _) _ _ _
    refine wpAny_bind (wpAny_bind (wpAny_alloc (wpAny_pure (wpAny_bind ?_))))
    show wpAny _ _ (newObjAsIs _ _ _) _ _ _
    unfold newObjAsIs classHasDel
    refine wpAny_bind (wpAny_alloc (wpAny_bind (wpAny_bind (wpAny_load (Heap.get?_push_of_some _ (Heap.get?_push_of_some _ hC)) (wpAny_pure ?_)))))
    rw [e2]
    refine wpAny_pure (wpAny_pure ?_)
    show R _ _
    rw [Heap.size_push]
    exact hq
  repeat (first | simp only [e1, Bool.false_eq_true, if_false] | exact fin _ | lk)
end
theorem onew_K {w : World} {A : Around} {Q : Value → Shared → Prop} {E : Value → Shared → Prop} {s : Shared} {h₀ : Heap} {L : Addr} {m : Str → Option Value} {news : List (Addr × Obj)} (F : Fr h₀ L s.heap m) (X : (Mine.kk w.params).In h₀) (N : News h₀ L s.heap news)
    (h : ∀ x dx h', Fr h₀ L h' m → News h₀ L h' ((x, instObj 735 dx) :: (dx, emptyDict) :: news) → (∀ p ∈ news, p.1 < dx) → dx < x → Q (.ref x) { s with heap := h' }) :
    wpAny (model pg w) A (call (.builtin "object.__new__") [.ref 735]) Q E s := by
  have X' := X.keeps F.keep
  obtain ⟨hh, g, d, t, os⟩ := s
  refine wpAny_call (onew_code (X' 735 _ rfl) rfl rfl (Looks.of_peek X' (by kernel_rfl)) (Looks.of_peek X' (by kernel_rfl)) (Looks.of_peek X' (by kernel_rfl)) (Looks.of_peek X' (by kernel_rfl)) (h _ hh.objs.size _ ((F.push _).push _) ?_ (fun p hp => Heap.lt_size (N p hp).1) (Nat.lt_succ_self _)))
  have := (N.push F emptyDict).push (F.push _) (instObj 735 hh.objs.size)
  rwa [Heap.size_push] at this
end Mine
end
example : True ∧ True := by (w_top off; walk1 <;> exact True.intro)
section
local macro_rules | `(tactic| walk_at "zz") => `(tactic| skip)
example : True ∧ True := by (w_top off; walk1 <;> exact True.intro)
end
section
namespace Mine
local macro_rules | `(tactic| walk_at "ite") => `(tactic| first | with_reducible refine ite_neg (by with_reducible assumption) ?_ | with_reducible refine ite_pos (by with_reducible assumption) ?_ | with_reducible refine ite_f (by with_reducible assumption) ?_ | with_reducible refine ite_t (by with_reducible assumption) ?_ | (k_closed; first | refine ite_pos (by decide +kernel) ?_ | refine ite_neg (by decide +kernel) ?_))
example : True := by ((k_with "enterboth" => (refine' kp_both ?k1enterboth ?k2enterboth ?k3enterboth ?k4enterboth ?k5enterboth ?kAenterboth ?kFenterboth ?kKenterboth ?k6enterboth ?k7enterboth ?k8enterboth ?kVenterboth ?kXenterboth ?kQenterboth ?kMenterboth ?kNenterboth ?kDenterboth ?kRenterboth ?kPenterboth ?kSenterboth ?kTenterboth ?kBenterboth ?_ ?c2enterboth ?c3enterboth ?c4enterboth ?c5enterboth; (case kAenterboth => exact rfl); (case kFenterboth => exact rfl); (case kKenterboth => first | exact rfl | assumption); (case k1enterboth => k_asm); (case k2enterboth => k_asm); (case k3enterboth => k_asm); (case k4enterboth => k_asm); (case k5enterboth => k_asm); (case k6enterboth => k_is); (case k7enterboth => k_is); (case k8enterboth => ktr_room); (case kVenterboth => first | kp_lit | exact rfl); (case kXenterboth => first | kp_lit | exact rfl); (case kQenterboth => exact rfl); (case kMenterboth => exact rfl); (case kNenterboth => exact rfl); (case kDenterboth => kp_flats); (case kRenterboth => exact rfl); (case kPenterboth => exact rfl); (case kSenterboth => exact fun _ => rfl); (case kTenterboth => exact fun _ _ => rfl); (case kBenterboth => exact fun _ _ => locs rfl); (case c5enterboth => decide); (case c2enterboth => exact rfl); (case c3enterboth => exact rfl); (case c4enterboth => exact rfl); k_whole; intro _ _ _ _ _ _ _ l1enterboth l2enterboth _ _ _ _ _ _ B'enterboth _ _; (try k_lt l1enterboth); (try k_lt2 l2enterboth); (try dsimp only); (try k_lift Bzenterboth); (try k_fold))); trivial)
local macro_rules | `(tactic| walk_at "my enter both") => `(tactic| k_extra "enterboth")
example : True := by ((k_with "onew" => (k_here; (with_reducible show wpAny _ _ (call (Value.builtin "object.__new__") [Value.ref 735] _) _ _ _); k_dflt (refine' onew_K ?Fonew ?Xonew ?Nonew ?_; (case Fonew => k_asm); (case Xonew => k_asm); (case Nonew => k_asm); k_whole); intro _ _ _ _ _ _ _; (try dsimp only); (try k_fold))); trivial)
local macro_rules | `(tactic| walk_at "call builtin:object.__new__") => `(tactic| k_extra "onew")
theorem news_sub4 {h₀ h : Heap} {L : Addr} {a b c d : Addr × Obj} {rest : List (Addr × Obj)} (N : News h₀ L h (a :: b :: c :: d :: rest)) : News h₀ L h (a :: b :: rest) := fun p hp => N p (by
  rcases List.mem_cons.mp hp with rfl | hp
  · exact .head _
  · rcases List.mem_cons.mp hp with rfl | hp
    · exact .tail _ (.head _)
    · exact .tail _ (.tail _ (.tail _ (.tail _ hp))))
theorem nw_1 (w : World) (mean : ExcName → Option Value) (mg mb : Str → Option Value) (v : Str) (tv : Tok) (rest : List (Addr × Obj))
   (dp un : Nat) (gd : Option (List Code)) (cn : Str) (cs : Scope) (a : Addr) (ccd : Value) (cl : List (Str × Addr)) (outer : List Env) (A₀ : Around) (base h₀ : Heap) (L : Addr) (m : Str → Option Value) (s : Shared) (Q E : Value → Shared → Prop)
    (B : Below A₀ base outer h₀) (F : Fr h₀ L s.heap m) (X : (Mine.kk w.params).In h₀) (T : Top Mine.vq (looseW Mine.vq Mine.lo) mean mg mb h₀) (hcs : cs.kind = .function)
    (N : News h₀ L s.heap rest)
    (hdp : dp + 60 < recursionLimit) (hun : un + 250 < cLine)
    (hret : ∀ x dx h' tk', (∀ p ∈ rest, p.1 < dx) → dx < x → Fr h₀ L h' m → News h₀ L h' ((x, instObj 735 dx) :: (dx, emptyDict) :: rest) → Q (.ref x) { s with heap := h', toks := tk' }) :
      wpAny (model pg w) (ktrTop dp un gd cn cs L a ccd cl outer) (call (.ref 228) [.ref 735, .str v tv]) Q E s := by
  refine wpAny_call ?_; k_dflt (walk_at "my enter both")
  k_steps
  all_goals exact hret _ _ _ _ (fun p hp => (by assumption : ∀ p ∈ (_ :: _ :: rest), p.1 < _) p (.tail _ (.tail _ hp))) (by assumption) (by k_asm) (news_sub4 (by assumption))
end Mine
end
example : True ∧ True := by (w_top off; walk1 <;> exact True.intro)
section
local macro_rules | `(tactic| walk_at "zz") => `(tactic| skip)
example : True ∧ True := by (w_top off; walk1 <;> exact True.intro)
end
section
namespace Mine
local macro_rules | `(tactic| walk_at "ite") => `(tactic| first | with_reducible refine ite_neg (by with_reducible assumption) ?_ | with_reducible refine ite_pos (by with_reducible assumption) ?_ | with_reducible refine ite_f (by with_reducible assumption) ?_ | with_reducible refine ite_t (by with_reducible assumption) ?_ | (k_closed; first | refine ite_pos (by decide +kernel) ?_ | refine ite_neg (by decide +kernel) ?_))
local macro_rules | `(tactic| walk_at "my enter both") => `(tactic| k_extra "enterboth")
abbrev sioE (w : World) (v : Str) (t20 t21 t22 tn tb tp : Tok) : List DictEntry :=
  [⟨PyData.keyHash w.params (Str.ofString "_StringIO__newline"), .str (Str.ofString "_StringIO__newline") t20, .str (Str.ofString "\n") tn⟩,
   ⟨PyData.keyHash w.params (Str.ofString "_StringIO__buf"), .str (Str.ofString "_StringIO__buf") t21, .str v tb⟩,
   ⟨PyData.keyHash w.params (Str.ofString "_StringIO__pos"), .str (Str.ofString "_StringIO__pos") t22, .int 0 tp⟩]
theorem si_1 (w : World) (mean : ExcName → Option Value) (mg mb : Str → Option Value) (v : Str) (tv : Tok) (y dy : Nat) (rest : List (Addr × Obj)) (hy : dy < y) (hr : ∀ p ∈ rest, p.1 < dy)
   (dp un : Nat) (gd : Option (List Code)) (cn : Str) (cs : Scope) (a : Addr) (ccd : Value) (cl : List (Str × Addr)) (outer : List Env) (A₀ : Around) (base h₀ : Heap) (L : Addr) (m : Str → Option Value) (s : Shared) (Q E : Value → Shared → Prop)
    (B : Below A₀ base outer h₀) (F : Fr h₀ L s.heap m) (X : (Mine.kk w.params).In h₀) (T : Top Mine.vq (looseW Mine.vq Mine.lo) mean mg mb h₀) (hcs : cs.kind = .function)
    (N : News h₀ L s.heap ((y, instObj 735 dy) :: (dy, emptyDict) :: rest))
    (hdp : dp + 40 < recursionLimit) (hun : un + 150 < cLine) (hb : v.length ≤ 1000)
    (hret : ∀ h' tk' t20 t21 t22 tn tb tp, Fr h₀ L h' m → News h₀ L h' ((y, instObj 735 dy) :: (dy, dictOf (sioE w v t20 t21 t22 tn tb tp) 3) :: rest) → Q .none { s with heap := h', toks := tk' }) :
      wpAny (model pg w) (ktrTop dp un gd cn cs L a ccd cl outer) (call (.ref 505) [.ref y, .str v tv]) Q E s := by
  refine wpAny_call ?_; k_dflt (walk_at "my enter")
  k_steps
  all_goals exact hret _ _ _ _ _ _ _ _ (by k_asm) (by k_asm)
theorem make735 (w : World) (mean : ExcName → Option Value) (mg mb : Str → Option Value) (v : Str) (tv : Tok) (rest : List (Addr × Obj))
   (dp un : Nat) (gd : Option (List Code)) (cn : Str) (cs : Scope) (a : Addr) (ccd : Value) (cl : List (Str × Addr)) (outer : List Env) (A₀ : Around) (base h₀ : Heap) (L : Addr) (m : Str → Option Value) (s : Shared) (Q E : Value → Shared → Prop)
    (B : Below A₀ base outer h₀) (F : Fr h₀ L s.heap m) (X : (Mine.kk w.params).In h₀) (T : Top Mine.vq (looseW Mine.vq Mine.lo) mean mg mb h₀) (hcs : cs.kind = .function)
    (N : News h₀ L s.heap rest)
    (hdp : dp + 70 < recursionLimit) (hun : un + 260 < cLine) (hb : v.length ≤ 1000)
    (hret : ∀ y dy h' tk' t20 t21 t22 tn tb tp, (∀ p ∈ rest, p.1 < dy) → dy < y → Fr h₀ L h' m → News h₀ L h' ((y, instObj 735 dy) :: (dy, dictOf (sioE w v t20 t21 t22 tn tb tp) 3) :: rest) → Q (.ref y) { s with heap := h', toks := tk' }) :
      wpAny (model pg w) (ktrTop dp un gd cn cs L a ccd cl outer) (call (.ref 735) [.str v tv]) Q E s := by
  have X' := X.keeps F.keep
  refine wpAny_call ?_
  have typ : Looks (model pg w) s.heap (isInstance (.ref 735) (.type "type")) true := Looks.of_peek X' (by kernel_rfl)
  have made : Looks (model pg w) s.heap (Bind.madeBy (.ref 735)) none := Looks.of_peek X' (by kernel_rfl)
  have hcall : Looks (model pg w) s.heap (specialOf (.ref 735) "__call__") (some (.builtin "type.__call__")) := Looks.of_peek X' (by kernel_rfl)
  have hC : ∃ oc od cd sl, s.heap.get? 735 = some ⟨oc, od, .cls cd, sl⟩ ∧ cd.mro.isEmpty = false := ⟨_, _, _, _, X' 735 _ rfl, rfl⟩
  obtain ⟨oc, od, cd, sl, hC, e4⟩ := hC
  refine codeAny_of_tree ?_
  show wpAny _ _ (callAny (.ref 735) _) _ _ _
  refine nd_load hC ?_
  show wpAny _ _ (callAny.viaDunder (.ref 735) _) _ _ _
  unfold callAny.viaDunder
  refine wpAny_bind (hcall.at ?_)
  dsimp only
  rw [tc_bind]
  refine wpAny_bind (wpAny_pure (wpAny_bind (wpAny_pure ?_)))
  refine wpAny_pure (a := Fin.again (.call (.builtin "type.__call__") ⟨[.ref 735, .str v tv], []⟩)) (And.intro rfl ?_)
  refine codeAny_call_builtin_at (Code.quiet_builtin _ (by decide +kernel)) entry_typeCall (check_slot tc_kind tc_split typ (tc_args _ _ _) ?_)
  unfold Builtin.«type.__call__»
  have hm : Looks (model pg w) s.heap (mroOf (.ref 735)) cd.mro := ((Looks.ld (part := none) hC).andThen .now).andThen .now
  repeat (first | ((with_reducible show wpAny _ _ (getAttr (Value.ref 735) _ _) _ _ _); refine cls_sm (mc := .type "type") (p := 232) (f := .ref 228) (rest := []) F X (by kernel_rfl) (by kernel_rfl) (by kernel_rfl) (by kernel_rfl) (by kernel_rfl) ?_; refine wpAny_bind (wpAny_holding ?_)) | simp only [e4, Bool.false_eq_true, if_false] | ((fail_if_success (with_reducible show wpAny _ _ (call (Value.ref 228) _ _) _ _ _)); lk))
  refine nw_1 w mean mg mb v tv rest (dp + 1) _ _ cn cs a ccd cl outer A₀ base h₀ L m _ _ _ B F X T hcs N (by omega) ?hu ?_
  case hu => show un + 1 + 250 < cLine; omega
  intro y dy h1 tk1 l1 l2 F1 N1
  have X1 := X.keeps F1.keep
  have I1 : InstAt h1 y (instObj 735 dy) 735 (some emptyDict) := ⟨(N1 (y, instObj 735 dy) (.head _)).1, rfl, rfl, (N1 (dy, emptyDict) (.tail _ (.head _))).1⟩
  have i1 : Looks (model pg w) h1 (isInstance (.ref y) (.ref 735)) true := I1.type.andThen (Looks.of_peek X1 (by kernel_rfl))
  refine wpAny_bind (i1.here ?_)
  simp only [Bool.not_true, Bool.false_eq_true, if_false]
  refine wpAny_bind (wpAny_holding (special_fn (f := 505) X1 I1 (by kernel_rfl) (by kernel_rfl) ?_))
  refine si_1 w mean mg mb v tv y dy rest l2 l1 (dp + 1) _ _ cn cs a ccd cl outer A₀ base h₀ L m _ _ _ B F1 X T hcs N1 (by omega) ?hu2 hb ?_
  case hu2 => show un + 1 + 150 < cLine; omega
  intro h2 tk2 t20 t21 t22 tn tb tp F2 N2
  show wpAny _ _ (pure _) _ _ _
  exact wpAny_pure (hret y dy h2 tk2 t20 t21 t22 tn tb tp l1 l2 F2 N2)
end Mine
end
section
namespace Mine
abbrev deqO : Obj := { cls := .type "collections.deque", data := .fields #[.none, rawInt 0] }
theorem dq_slot : Slot "collections.deque" "__len__" "collections.deque.__len__" :=
  .of (owner := "collections.deque") (n := "__len__") (by rw [typeLookup_type, builtinLookup_eq_fast]; kernel_rfl) (by decide +kernel) (by decide +kernel) (by decide +kernel)
    (by first | exact .inl (by decide +kernel) | exact .inr (by decide +kernel)) (by rw [isSubtype_type]; kernel_rfl)
theorem dq_entry : entryFor table "collections.deque.__len__" = some Builtin.«collections.deque.__len__» := entryFor_of_tree (by kernel_rfl)
theorem dq_args (a : Value) : argsOk "collections.deque.__len__" ⟨[a], []⟩ := by unfold argsOk; kernel_rfl
theorem dq_nobool : typeLookup (.type "collections.deque") "__bool__" = pure none := by rw [typeLookup_type, builtinLookup_eq_fast]; kernel_rfl
section
variable {prog : Program} {w : World} {A : Around} {E : Value → Shared → Prop} {s : Shared}
theorem dq_len {q : Addr} {Q : Value → Shared → Prop} (hq : s.heap.get? q = some deqO)
    (h : Q (.int 0 (s.toks + 1)) { s with toks := s.toks + 1 + 1 }) : wpAny (model prog w) A (Builtin.«len» ⟨[.ref q], []⟩) (fun fin s' => ∃ r, fin = .done (.ret r) ∧ Q r s') E s := by
  have hT : s.TypeIs (.ref q) "collections.deque" := ⟨_, hq, rfl⟩
  unfold Builtin.«len»
  refine wpAny_bind (m := oneArg "len" _) (wpAny_pure ?_)
  refine wpAny_bind (m := callSpecial? (.ref q) (Str.ofString "__len__")) (wpAny_callSpecial?_slot (name := Str.ofString "__len__") hT dq_slot
    (wpAny_call_entry dq_slot hT dq_entry ?_ (dq_args _)))
  show wpAny _ _ (do retInt ((← Builtin.Deque.size (.ref q)) : Nat)) _ _ s
  unfold Builtin.Deque.size
  refine wpAny_bind (wpAny_bind (m := fieldsOf (.ref q)) ?_)
  unfold fieldsOf
  refine wpAny_bind (wpAny_load hq ?_)
  refine wpAny_pure (wpAny_pure (wpAny_bind (wpAny_mkInt (wpAny_pure ⟨_, rfl, ?_⟩))))
  refine wpAny_bind (wpAny_holding (wpAny_pure ?_))
  refine wpAny_bind (wpAny_letGo ?_)
  exact wpAny_bind (wpAny_mkInt (wpAny_pure ⟨_, rfl, h⟩))
theorem dq_truthy {q : Addr} {Q : Bool → Shared → Prop} (hq : s.heap.get? q = some deqO)
    (h : Q false { s with toks := s.toks + 1 + 1 }) : wpAny (model prog w) A (truthy (.ref q)) Q E s := by
  have hT : s.TypeIs (.ref q) "collections.deque" := ⟨_, hq, rfl⟩
  have key : wpAny (model prog w) A (runValue (.builtin "len" ⟨[.ref q], []⟩)) (fun r s' => r = .int 0 (s.toks + 1) ∧ Q false s') E s := by
    refine wpAny_runValue (codeAny_builtin entry_len ?_)
    rw [Around.under_plainId plain_len _]
    exact wpAny_mono (dq_len (Q := fun r s' => r = .int 0 (s.toks + 1) ∧ Q false s') hq ⟨rfl, h⟩)
      (fun fin s' h' => by obtain ⟨r, rfl, hq⟩ := h'; exact hq) fun _ _ e => e
  unfold truthy
  first
    | refine wpAny_bind (wpAny_callSpecial?_none (name := Str.ofString "__bool__") hT dq_nobool ?_)
    | refine wpAny_bind (wpAny_pure (wpAny_bind (wpAny_callSpecial?_none (name := Str.ofString "__bool__") hT dq_nobool ?_)))
  first
    | refine wpAny_bind (wpAny_specialOf (name := Str.ofString "__len__") hT dq_slot.lookup ?_)
    | refine wpAny_bind (wpAny_pure (wpAny_bind (wpAny_specialOf (name := Str.ofString "__len__") hT dq_slot.lookup ?_)))
  first
    | exact wpAny_bind (wpAny_mono key (fun r s' h' => by obtain ⟨rfl, hq⟩ := h'; exact wpAny_pure hq) fun _ _ e => e)
    | exact wpAny_bind (wpAny_pure (wpAny_bind (wpAny_mono key (fun r s' h' => by obtain ⟨rfl, hq⟩ := h'; exact wpAny_pure hq) fun _ _ e => e)))
end
end Mine
end
section
namespace Mine
theorem dqi_slot : Slot "collections.deque" "__init__" "collections.deque.__init__" :=
  .of (owner := "collections.deque") (n := "__init__") (by rw [typeLookup_type, builtinLookup_eq_fast]; kernel_rfl) (by decide +kernel) (by decide +kernel) (by decide +kernel)
    (by first | exact .inl (by decide +kernel) | exact .inr (by decide +kernel)) (by rw [isSubtype_type]; kernel_rfl)
theorem dq_mro : mroOf (.type "collections.deque") = pure [.type "collections.deque", .type "object"] := by rw [mroOf_type]; kernel_rfl
theorem dq_lnew : typeLookup (.type "collections.deque") "__new__" = pure (some (.builtin "collections.deque.__new__")) := by rw [typeLookup_type, builtinLookup_eq_fast]; kernel_rfl
theorem dq_called : TypeCalled "collections.deque" "collections.deque.__new__" "collections.deque.__init__" :=
  ⟨by decide +kernel, by decide +kernel, ⟨_, _, dq_mro⟩, madeBy_type dq_mro dq_lnew (by decide +kernel), by decide +kernel, by rw [isSubtype_type]; kernel_rfl, dqi_slot⟩
theorem dq_tc : checkTypeCall "collections.deque" ⟨[], []⟩ = pure () := by kernel_rfl
theorem dq_nc : checkBuiltinCall "collections.deque.__new__" ⟨[.type "collections.deque"], []⟩ = pure () := by kernel_rfl
theorem dq_en : entryFor table "collections.deque.__new__" = some Builtin.«collections.deque.__new__» := entryFor_of_tree (by kernel_rfl)
theorem dq_ei : entryFor table "collections.deque.__init__" = some Builtin.«collections.deque.__init__» := entryFor_of_tree (by kernel_rfl)
theorem dq_pn : plainId "collections.deque.__new__" = true := by decide +kernel
theorem dqi_args (a : Value) : argsOk "collections.deque.__init__" ⟨[a], []⟩ := by unfold argsOk; kernel_rfl
theorem dq_self : isSubtype (.type "collections.deque") (.type "collections.deque") = pure true := by rw [isSubtype_type]; kernel_rfl
theorem dq_init (S : Addr) : Builtin.«collections.deque.__init__» ⟨[.ref S], []⟩ = (setField (.ref S) 0 .none >>= fun _ => Builtin.Deque.clear (.ref S) >>= fun _ => ret .none) := by kernel_rfl
section
variable {prog : Program} {w : World} {A : Around} {E : Value → Shared → Prop} {s : Shared}
theorem dq_cnew {Q₁ : Value → Shared → Prop} (h : Q₁ (.ref s.heap.objs.size) { s with heap := s.heap.push deqO }) :
    codeAny (model prog w) A (.call (.builtin "collections.deque.__new__") ⟨[.type "collections.deque"], []⟩) (wants Q₁ E) s := by
  refine codeAny_of_tree ?_
  show wpAny _ A.in1 (do checkBuiltinCall "collections.deque.__new__" ⟨[.type "collections.deque"], []⟩; again (.builtin "collections.deque.__new__" ⟨[.type "collections.deque"], []⟩)) _ _ s
  refine wpAny_bind (wpAny_of_eq dq_nc (wpAny_pure ⟨plainId_quiet dq_pn _, codeAny_builtin dq_en ?_⟩))
  rw [Around.under_plainId dq_pn _]
  have hsub := dq_self
  have hn : Builtin.Deque.newArgs Builtin.Deque.ty ⟨[.type "collections.deque"], []⟩ = pure (.type "collections.deque", []) := by kernel_rfl
  unfold Builtin.«collections.deque.__new__»
  obtain ⟨hp, g, d, tk, os⟩ := s
  rw [hn]
  refine wpAny_bind (wpAny_pure ?_)
  unfold Builtin.Deque.new
  dsimp only
  wp_walk
  exact h
theorem dq_new {Q : Value → Shared → Prop} {h₀ : Heap} {L : Addr} {m : Str → Option Value} {news : List (Addr × Obj)} (F : Fr h₀ L s.heap m) (N : News h₀ L s.heap news)
    (h : ∀ q h', Fr h₀ L h' m → News h₀ L h' ((q, deqO) :: news) → (∀ p ∈ news, p.1 < q) → Q (.ref q) { s with heap := h' }) :
    wpAny (model prog w) A (call (.type "collections.deque") []) Q E s := by
  refine callType_codes (Q₁ := fun obj s₁ => obj = .ref s.heap.objs.size ∧ s₁ = { s with heap := s.heap.push deqO }) dq_called dq_tc dq_ei
    (dq_cnew ⟨rfl, rfl⟩) fun obj s₁ h₁ => ?_
  obtain ⟨rfl, rfl⟩ := h₁
  have hlt : ∀ p ∈ news, p.1 < s.heap.objs.size := fun p hp => Heap.lt_size (N p hp).1
  have hS : (s.heap.push deqO).get? s.heap.objs.size = some deqO := Heap.get?_push_size _ rfl
  have F1 : Fr h₀ L (s.heap.push deqO) m := F.keeps fun b o e => Heap.get?_push_of_some _ e
  have N1 : News h₀ L (s.heap.push deqO) ((s.heap.objs.size, deqO) :: news) := news_pushed F N (fun b o e => Heap.get?_push_of_some _ e) hS rfl
  refine ⟨⟨_, hS, rfl⟩, dqi_args _, ?_⟩
  generalize hSS : s.heap.objs.size = S at *
  rw [dq_init]
  refine wpAny_bind (wpAny_setField hS rfl (by decide) ?_)
  have hp0 : ∀ p ∈ ([] : List (Addr × Obj)), p.1 ≠ S := fun p hp => nomatch hp
  have hp1 : ∀ p ∈ news, p.1 ≠ S := fun p hp => Nat.ne_of_lt (hlt p hp)
  obtain ⟨F2, N2⟩ := news_upd (pre := []) (f := Obj.mapFields (·.setIfInBounds 0 .none)) (o' := deqO) F1 N1 hp0 hp1 rfl rfl
  unfold Builtin.Deque.clear Builtin.Deque.items
  refine wpAny_bind (wpAny_bind (wpAny_bind (m := fieldsOf (.ref S)) ?_))
  unfold fieldsOf
  refine wpAny_bind (wpAny_load (N2 (S, deqO) (.head _)).1 ?_)
  refine wpAny_pure (wpAny_pure ?_)
  show wpAny _ _ (pure ()) _ _ _
  exact wpAny_pure (wpAny_pure ⟨rfl, h S _ F2 N2 hlt⟩)
end
end Mine
end
example : True ∧ True := by (w_top off; walk1 <;> exact True.intro)
section
local macro_rules | `(tactic| walk_at "zz") => `(tactic| skip)
example : True ∧ True := by (w_top off; walk1 <;> exact True.intro)
end
section
namespace Mine
local macro_rules | `(tactic| walk_at "ite") => `(tactic| first | with_reducible refine ite_neg (by with_reducible assumption) ?_ | with_reducible refine ite_pos (by with_reducible assumption) ?_ | with_reducible refine ite_f (by with_reducible assumption) ?_ | with_reducible refine ite_t (by with_reducible assumption) ?_ | (k_closed; first | refine ite_pos (by decide +kernel) ?_ | refine ite_neg (by decide +kernel) ?_))
example : True := by ((k_with "sioc" => (k_here; (with_reducible show wpAny _ _ (call (Value.ref 681) _ _) _ _ _); k_dflt (refine' sio_c _ _ _ _ _ _ _ _ _ _ _ _ _ _ _ _ _ _ _ _ _ ?ha1sioc ?ha2sioc ?hysioc ?hrsioc ?hbsioc ?hcsioc _ _ _ _ _ _ _ _ _ _ _ _ _ _ _ _ _ ?Bsioc ?Fsioc ?Xsioc ?Nsioc ?Tsioc ?hcssioc ?hdpsioc ?hunsioc ?_; (case Bsioc => k_asm); (case Fsioc => k_asm); (case Xsioc => k_asm); (case Nsioc => k_asm); (case Tsioc => k_asm); (case hcssioc => exact rfl); (case ha1sioc => k_ne); (case ha2sioc => k_ne); (case hysioc => assumption); (case hrsioc => assumption); (case hbsioc => assumption); (case hcsioc => assumption); (case hdpsioc => ktr_room); (case hunsioc => ktr_units); k_whole); intro _ _ _ _ _ _; (try dsimp only); (try k_fold))); trivial)
local macro_rules | `(tactic| walk_at "call ref") => `(tactic| k_extra "sioc")
example : True := by ((k_with "sioe" => (k_here; (with_reducible show wpAny _ _ (call (Value.ref 681) _ _) _ _ _); k_dflt (refine' sio_e _ _ _ _ _ _ _ _ _ _ _ _ _ _ _ _ _ _ _ ?ha1sioe ?ha2sioe ?hysioe ?hrsioe ?hbsioe ?hcsioe _ _ _ _ _ _ _ _ _ _ _ _ _ _ _ _ _ ?Bsioe ?Fsioe ?Xsioe ?Nsioe ?Tsioe ?hcssioe ?hdpsioe ?hunsioe ?_; (case Bsioe => k_asm); (case Fsioe => k_asm); (case Xsioe => k_asm); (case Nsioe => k_asm); (case Tsioe => k_asm); (case hcssioe => exact rfl); (case ha1sioe => k_ne); (case ha2sioe => k_ne); (case hysioe => assumption); (case hrsioe => assumption); (case hbsioe => assumption); (case hcsioe => assumption); (case hdpsioe => ktr_room); (case hunsioe => ktr_units); k_whole); intro _ _ _ _ _; (try dsimp only); (try k_fold))); trivial)
local macro_rules | `(tactic| walk_at "call ref") => `(tactic| k_extra "sioe")
theorem t_sp_b (w : World) (mean : ExcName → Option Value) (mg mb : Str → Option Value) (x dx y dy q1 q2 : Nat) (hs : Nat → Int) (ts vt : Nat → Tok) (tb : Tok) (nl : Value) (buf : Str) (rest : List (Addr × Obj))
   (pos : Nat) (tp t1 t2 t3 : Tok) 
   (hx : dx < x) (hxy : x < dy) (hy : dy < y) (hr : ∀ p ∈ rest, p.1 ≠ dy) (hr2 : ∀ p ∈ rest, p.1 ≠ dx)
   (hb : buf.length ≤ 1000) (r : List Nat) (hc : buf.cps.toList.drop pos = 32 :: r) 
   (dp un : Nat) (gd : Option (List Code)) (outer : List Env) (A₀ : Around) (base h₀ : Heap) (L : Addr) (m u : Str → Option Value) (s : Shared) (h : Heap) (tk : Nat) (Q : Flow → Shared → Prop) (E : Value → Shared → Prop)
    (B : Below A₀ base outer h₀) (X : (Mine.kk w.params).In h₀)
    (F : Fr h₀ L h (lcl m u x (.bool false) t3))
    (N : News h₀ L h ((x, instObj 870 dx) :: (dx, dictOf (lexD hs ts y q1 q2 (.str (Str.ofString " ") t1) (Str.ofString "") t2 vt) 19) :: (y, instObj 735 dy) :: (dy, dictOf (sioD hs ts nl buf tb pos tp) 3) :: rest))
    (T : Top Mine.vq (looseW Mine.vq Mine.lo) mean mg mb h₀)
    (hdp : dp + 30 < recursionLimit) (hun : un + 100 < cLine)
    (hret : ∀ m' h' tk' (t1' t2' tp' : Tok), LocOk m m' x false t3 → Fr h₀ L h' m' → News h₀ L h' ((x, instObj 870 dx) :: (dx, dictOf (lexD hs ts y q1 q2 (.str (Str.ofString " ") t1') (Str.ofString "") t2' vt) 19) :: (y, instObj 735 dy) :: (dy, dictOf (sioD hs ts nl buf tb (pos + 1 : Nat) tp') 3) :: rest) → Q .cont { s with heap := h', toks := tk' }) :
      wpAny (model pg w) (ktrTop dp un gd (Str.ofString "shlex.read_token") sc_838 L 838 (.ref 837) [] outer) (execs wb838.1 (envX (Str.ofString "shlex.read_token") sc_838 L 838 (.ref 837) [])) Q E { s with heap := h, toks := tk } := by
  k_steps
  all_goals first | (exfalso; omega) | ((try dsimp only); exact hret _ _ _ _ _ _ (locA ..) (by k_asm) (by first | k_asm | (refine' cb_drop ?cbN ?cbS; (case cbN => assumption); (case cbS => exact fun _ hp => List.Mem.tail _ hp))))
theorem t_sp_q (w : World) (mean : ExcName → Option Value) (mg mb : Str → Option Value) (x dx y dy q1 q2 : Nat) (hs : Nat → Int) (ts vt : Nat → Tok) (tb : Tok) (nl : Value) (buf : Str) (rest : List (Addr × Obj))
   (pos : Nat) (tp t1 t2 t3 : Tok) 
   (hx : dx < x) (hxy : x < dy) (hy : dy < y) (hr : ∀ p ∈ rest, p.1 ≠ dy) (hr2 : ∀ p ∈ rest, p.1 ≠ dx)
   (hb : buf.length ≤ 1000) (r : List Nat) (hc : buf.cps.toList.drop pos = 39 :: r) 
   (dp un : Nat) (gd : Option (List Code)) (outer : List Env) (A₀ : Around) (base h₀ : Heap) (L : Addr) (m u : Str → Option Value) (s : Shared) (h : Heap) (tk : Nat) (Q : Flow → Shared → Prop) (E : Value → Shared → Prop)
    (B : Below A₀ base outer h₀) (X : (Mine.kk w.params).In h₀)
    (F : Fr h₀ L h (lcl m u x (.bool false) t3))
    (N : News h₀ L h ((x, instObj 870 dx) :: (dx, dictOf (lexD hs ts y q1 q2 (.str (Str.ofString " ") t1) (Str.ofString "") t2 vt) 19) :: (y, instObj 735 dy) :: (dy, dictOf (sioD hs ts nl buf tb pos tp) 3) :: rest))
    (T : Top Mine.vq (looseW Mine.vq Mine.lo) mean mg mb h₀)
    (hdp : dp + 30 < recursionLimit) (hun : un + 100 < cLine)
    (hret : ∀ m' h' tk' (t1' t2' tp' : Tok), LocOk m m' x false t3 → Fr h₀ L h' m' → News h₀ L h' ((x, instObj 870 dx) :: (dx, dictOf (lexD hs ts y q1 q2 (.str (Str.ofString "'") t1') (Str.ofString "") t2' vt) 19) :: (y, instObj 735 dy) :: (dy, dictOf (sioD hs ts nl buf tb (pos + 1 : Nat) tp') 3) :: rest) → Q .next { s with heap := h', toks := tk' }) :
      wpAny (model pg w) (ktrTop dp un gd (Str.ofString "shlex.read_token") sc_838 L 838 (.ref 837) [] outer) (execs wb838.1 (envX (Str.ofString "shlex.read_token") sc_838 L 838 (.ref 837) [])) Q E { s with heap := h, toks := tk } := by
  k_steps
  all_goals first | (exfalso; omega) | ((try dsimp only); exact hret _ _ _ _ _ _ (locA ..) (by k_asm) (by first | k_asm | (refine' cb_drop ?cbN ?cbS; (case cbN => assumption); (case cbS => exact fun _ hp => List.Mem.tail _ hp))))
theorem t_sp_d (w : World) (mean : ExcName → Option Value) (mg mb : Str → Option Value) (x dx y dy q1 q2 : Nat) (hs : Nat → Int) (ts vt : Nat → Tok) (tb : Tok) (nl : Value) (buf : Str) (rest : List (Addr × Obj))
   (pos : Nat) (tp t1 t2 t3 : Tok) 
   (hx : dx < x) (hxy : x < dy) (hy : dy < y) (hr : ∀ p ∈ rest, p.1 ≠ dy) (hr2 : ∀ p ∈ rest, p.1 ≠ dx)
   (hb : buf.length ≤ 1000) (c : Nat) (r : List Nat) (hc : buf.cps.toList.drop pos = c :: r) (hd : 48 ≤ c ∧ c ≤ 57) 
   (dp un : Nat) (gd : Option (List Code)) (outer : List Env) (A₀ : Around) (base h₀ : Heap) (L : Addr) (m u : Str → Option Value) (s : Shared) (h : Heap) (tk : Nat) (Q : Flow → Shared → Prop) (E : Value → Shared → Prop)
    (B : Below A₀ base outer h₀) (X : (Mine.kk w.params).In h₀)
    (F : Fr h₀ L h (lcl m u x (.bool false) t3))
    (N : News h₀ L h ((x, instObj 870 dx) :: (dx, dictOf (lexD hs ts y q1 q2 (.str (Str.ofString " ") t1) (Str.ofString "") t2 vt) 19) :: (y, instObj 735 dy) :: (dy, dictOf (sioD hs ts nl buf tb pos tp) 3) :: rest))
    (T : Top Mine.vq (looseW Mine.vq Mine.lo) mean mg mb h₀)
    (hdp : dp + 30 < recursionLimit) (hun : un + 100 < cLine)
    (hret : ∀ m' h' tk' (t1' t2' tp' : Tok), LocOk m m' x false t3 → Fr h₀ L h' m' → News h₀ L h' ((x, instObj 870 dx) :: (dx, dictOf (lexD hs ts y q1 q2 (.str (Str.ofString "a") t1') ⟨#[c]⟩ t2' vt) 19) :: (y, instObj 735 dy) :: (dy, dictOf (sioD hs ts nl buf tb (pos + 1 : Nat) tp') 3) :: rest) → Q .next { s with heap := h', toks := tk' }) :
      wpAny (model pg w) (ktrTop dp un gd (Str.ofString "shlex.read_token") sc_838 L 838 (.ref 837) [] outer) (execs wb838.1 (envX (Str.ofString "shlex.read_token") sc_838 L 838 (.ref 837) [])) Q E { s with heap := h, toks := tk } := by
  have f0 := dig_nl c hd
  obtain ⟨f1, f2, f3, f4, f5, f6, f9⟩ := dig_in c hd
  have f7 : (⟨#[c]⟩ : Str).length = 1 := rfl
  have f8 : ((⟨#[c]⟩ : Str).length : Int) ≠ 0 := by rw [f7]; decide
  k_steps
  all_goals first | (exfalso; omega) | ((try dsimp only); exact hret _ _ _ _ _ _ (locA ..) (by k_asm) (by first | k_asm | (refine' cb_drop ?cbN ?cbS; (case cbN => assumption); (case cbS => exact fun _ hp => List.Mem.tail _ hp))))
theorem t_sp_e (w : World) (mean : ExcName → Option Value) (mg mb : Str → Option Value) (x dx y dy q1 q2 : Nat) (hs : Nat → Int) (ts vt : Nat → Tok) (tb : Tok) (nl : Value) (buf : Str) (rest : List (Addr × Obj))
   (pos : Nat) (tp t1 t2 t3 : Tok) 
   (hx : dx < x) (hxy : x < dy) (hy : dy < y) (hr : ∀ p ∈ rest, p.1 ≠ dy) (hr2 : ∀ p ∈ rest, p.1 ≠ dx)
   (hb : buf.length ≤ 1000) (hc : buf.cps.toList.drop pos = []) 
   (dp un : Nat) (gd : Option (List Code)) (outer : List Env) (A₀ : Around) (base h₀ : Heap) (L : Addr) (m u : Str → Option Value) (s : Shared) (h : Heap) (tk : Nat) (Q : Flow → Shared → Prop) (E : Value → Shared → Prop)
    (B : Below A₀ base outer h₀) (X : (Mine.kk w.params).In h₀)
    (F : Fr h₀ L h (lcl m u x (.bool false) t3))
    (N : News h₀ L h ((x, instObj 870 dx) :: (dx, dictOf (lexD hs ts y q1 q2 (.str (Str.ofString " ") t1) (Str.ofString "") t2 vt) 19) :: (y, instObj 735 dy) :: (dy, dictOf (sioD hs ts nl buf tb pos tp) 3) :: rest))
    (T : Top Mine.vq (looseW Mine.vq Mine.lo) mean mg mb h₀)
    (hdp : dp + 30 < recursionLimit) (hun : un + 100 < cLine)
    (hret : ∀ m' h' tk' (t1' t2' tp' : Tok), LocOk m m' x false t3 → Fr h₀ L h' m' → News h₀ L h' ((x, instObj 870 dx) :: (dx, dictOf (lexD hs ts y q1 q2 .none (Str.ofString "") t2' vt) 19) :: (y, instObj 735 dy) :: (dy, dictOf (sioD hs ts nl buf tb (pos : Nat) tp') 3) :: rest) → Q .brk { s with heap := h', toks := tk' }) :
      wpAny (model pg w) (ktrTop dp un gd (Str.ofString "shlex.read_token") sc_838 L 838 (.ref 837) [] outer) (execs wb838.1 (envX (Str.ofString "shlex.read_token") sc_838 L 838 (.ref 837) [])) Q E { s with heap := h, toks := tk } := by
  k_steps
  all_goals first | (exfalso; omega) | ((try dsimp only); exact hret _ _ _ 0 _ _ (locA ..) (by k_asm) (by first | k_asm | (refine' cb_drop ?cbN ?cbS; (case cbN => assumption); (case cbS => exact fun _ hp => List.Mem.tail _ hp))))
theorem t_a_e (w : World) (mean : ExcName → Option Value) (mg mb : Str → Option Value) (x dx y dy q1 q2 : Nat) (hs : Nat → Int) (ts vt : Nat → Tok) (tb : Tok) (nl : Value) (buf : Str) (rest : List (Addr × Obj))
   (pos : Nat) (tp t1 t2 t3 : Tok) (tok : Str) (quo : Bool)
   (hx : dx < x) (hxy : x < dy) (hy : dy < y) (hr : ∀ p ∈ rest, p.1 ≠ dy) (hr2 : ∀ p ∈ rest, p.1 ≠ dx)
   (hb : buf.length ≤ 1000) (hc : buf.cps.toList.drop pos = []) 
   (dp un : Nat) (gd : Option (List Code)) (outer : List Env) (A₀ : Around) (base h₀ : Heap) (L : Addr) (m u : Str → Option Value) (s : Shared) (h : Heap) (tk : Nat) (Q : Flow → Shared → Prop) (E : Value → Shared → Prop)
    (B : Below A₀ base outer h₀) (X : (Mine.kk w.params).In h₀)
    (F : Fr h₀ L h (lcl m u x (.bool quo) t3))
    (N : News h₀ L h ((x, instObj 870 dx) :: (dx, dictOf (lexD hs ts y q1 q2 (.str (Str.ofString "a") t1) tok t2 vt) 19) :: (y, instObj 735 dy) :: (dy, dictOf (sioD hs ts nl buf tb pos tp) 3) :: rest))
    (T : Top Mine.vq (looseW Mine.vq Mine.lo) mean mg mb h₀)
    (hdp : dp + 30 < recursionLimit) (hun : un + 100 < cLine)
    (hret : ∀ m' h' tk' (t1' t2' tp' : Tok), LocOk m m' x quo t3 → Fr h₀ L h' m' → News h₀ L h' ((x, instObj 870 dx) :: (dx, dictOf (lexD hs ts y q1 q2 .none tok t2' vt) 19) :: (y, instObj 735 dy) :: (dy, dictOf (sioD hs ts nl buf tb (pos : Nat) tp') 3) :: rest) → Q .brk { s with heap := h', toks := tk' }) :
      wpAny (model pg w) (ktrTop dp un gd (Str.ofString "shlex.read_token") sc_838 L 838 (.ref 837) [] outer) (execs wb838.1 (envX (Str.ofString "shlex.read_token") sc_838 L 838 (.ref 837) [])) Q E { s with heap := h, toks := tk } := by
  k_steps
  all_goals first | (exfalso; omega) | ((try dsimp only); exact hret _ _ _ 0 _ _ (locA ..) (by k_asm) (by first | k_asm | (refine' cb_drop ?cbN ?cbS; (case cbN => assumption); (case cbS => exact fun _ hp => List.Mem.tail _ hp))))
theorem t_a_b (w : World) (mean : ExcName → Option Value) (mg mb : Str → Option Value) (x dx y dy q1 q2 : Nat) (hs : Nat → Int) (ts vt : Nat → Tok) (tb : Tok) (nl : Value) (buf : Str) (rest : List (Addr × Obj))
   (pos : Nat) (tp t1 t2 t3 : Tok) (tok : Str) (quo : Bool)
   (hx : dx < x) (hxy : x < dy) (hy : dy < y) (hr : ∀ p ∈ rest, p.1 ≠ dy) (hr2 : ∀ p ∈ rest, p.1 ≠ dx)
   (hb : buf.length ≤ 1000) (r : List Nat) (hc : buf.cps.toList.drop pos = 32 :: r) (ht : 0 < tok.length) (htl : tok.length ≤ 1000)
   (dp un : Nat) (gd : Option (List Code)) (outer : List Env) (A₀ : Around) (base h₀ : Heap) (L : Addr) (m u : Str → Option Value) (s : Shared) (h : Heap) (tk : Nat) (Q : Flow → Shared → Prop) (E : Value → Shared → Prop)
    (B : Below A₀ base outer h₀) (X : (Mine.kk w.params).In h₀)
    (F : Fr h₀ L h (lcl m u x (.bool quo) t3))
    (N : News h₀ L h ((x, instObj 870 dx) :: (dx, dictOf (lexD hs ts y q1 q2 (.str (Str.ofString "a") t1) tok t2 vt) 19) :: (y, instObj 735 dy) :: (dy, dictOf (sioD hs ts nl buf tb pos tp) 3) :: rest))
    (T : Top Mine.vq (looseW Mine.vq Mine.lo) mean mg mb h₀)
    (hdp : dp + 30 < recursionLimit) (hun : un + 100 < cLine)
    (hret : ∀ m' h' tk' (t1' t2' tp' : Tok), LocOk m m' x quo t3 → Fr h₀ L h' m' → News h₀ L h' ((x, instObj 870 dx) :: (dx, dictOf (lexD hs ts y q1 q2 (.str (Str.ofString " ") t1') tok t2' vt) 19) :: (y, instObj 735 dy) :: (dy, dictOf (sioD hs ts nl buf tb (pos + 1 : Nat) tp') 3) :: rest) → Q .brk { s with heap := h', toks := tk' }) :
      wpAny (model pg w) (ktrTop dp un gd (Str.ofString "shlex.read_token") sc_838 L 838 (.ref 837) [] outer) (execs wb838.1 (envX (Str.ofString "shlex.read_token") sc_838 L 838 (.ref 837) [])) Q E { s with heap := h, toks := tk } := by
  have f8 : (tok.length : Int) ≠ 0 := by omega
  k_steps
  all_goals first | (exfalso; omega) | ((try dsimp only); exact hret _ _ _ _ _ _ (locA ..) (by k_asm) (by first | k_asm | (refine' cb_drop ?cbN ?cbS; (case cbN => assumption); (case cbS => exact fun _ hp => List.Mem.tail _ hp))))
theorem t_a_q (w : World) (mean : ExcName → Option Value) (mg mb : Str → Option Value) (x dx y dy q1 q2 : Nat) (hs : Nat → Int) (ts vt : Nat → Tok) (tb : Tok) (nl : Value) (buf : Str) (rest : List (Addr × Obj))
   (pos : Nat) (tp t1 t2 t3 : Tok) (tok : Str) (quo : Bool)
   (hx : dx < x) (hxy : x < dy) (hy : dy < y) (hr : ∀ p ∈ rest, p.1 ≠ dy) (hr2 : ∀ p ∈ rest, p.1 ≠ dx)
   (hb : buf.length ≤ 1000) (r : List Nat) (hc : buf.cps.toList.drop pos = 39 :: r) 
   (dp un : Nat) (gd : Option (List Code)) (outer : List Env) (A₀ : Around) (base h₀ : Heap) (L : Addr) (m u : Str → Option Value) (s : Shared) (h : Heap) (tk : Nat) (Q : Flow → Shared → Prop) (E : Value → Shared → Prop)
    (B : Below A₀ base outer h₀) (X : (Mine.kk w.params).In h₀)
    (F : Fr h₀ L h (lcl m u x (.bool quo) t3))
    (N : News h₀ L h ((x, instObj 870 dx) :: (dx, dictOf (lexD hs ts y q1 q2 (.str (Str.ofString "a") t1) tok t2 vt) 19) :: (y, instObj 735 dy) :: (dy, dictOf (sioD hs ts nl buf tb pos tp) 3) :: rest))
    (T : Top Mine.vq (looseW Mine.vq Mine.lo) mean mg mb h₀)
    (hdp : dp + 30 < recursionLimit) (hun : un + 100 < cLine)
    (hret : ∀ m' h' tk' (t1' t2' tp' : Tok), LocOk m m' x quo t3 → Fr h₀ L h' m' → News h₀ L h' ((x, instObj 870 dx) :: (dx, dictOf (lexD hs ts y q1 q2 (.str (Str.ofString "'") t1') tok t2' vt) 19) :: (y, instObj 735 dy) :: (dy, dictOf (sioD hs ts nl buf tb (pos + 1 : Nat) tp') 3) :: rest) → Q .next { s with heap := h', toks := tk' }) :
      wpAny (model pg w) (ktrTop dp un gd (Str.ofString "shlex.read_token") sc_838 L 838 (.ref 837) [] outer) (execs wb838.1 (envX (Str.ofString "shlex.read_token") sc_838 L 838 (.ref 837) [])) Q E { s with heap := h, toks := tk } := by
  k_steps
  all_goals first | (exfalso; omega) | ((try dsimp only); exact hret _ _ _ _ _ _ (locA ..) (by k_asm) (by first | k_asm | (refine' cb_drop ?cbN ?cbS; (case cbN => assumption); (case cbS => exact fun _ hp => List.Mem.tail _ hp))))
theorem t_a_p (w : World) (mean : ExcName → Option Value) (mg mb : Str → Option Value) (x dx y dy q1 q2 : Nat) (hs : Nat → Int) (ts vt : Nat → Tok) (tb : Tok) (nl : Value) (buf : Str) (rest : List (Addr × Obj))
   (pos : Nat) (tp t1 t2 t3 : Tok) (tok : Str) (quo : Bool)
   (hx : dx < x) (hxy : x < dy) (hy : dy < y) (hr : ∀ p ∈ rest, p.1 ≠ dy) (hr2 : ∀ p ∈ rest, p.1 ≠ dx)
   (hb : buf.length ≤ 1000) (r : List Nat) (hc : buf.cps.toList.drop pos = 34 :: r) 
   (dp un : Nat) (gd : Option (List Code)) (outer : List Env) (A₀ : Around) (base h₀ : Heap) (L : Addr) (m u : Str → Option Value) (s : Shared) (h : Heap) (tk : Nat) (Q : Flow → Shared → Prop) (E : Value → Shared → Prop)
    (B : Below A₀ base outer h₀) (X : (Mine.kk w.params).In h₀)
    (F : Fr h₀ L h (lcl m u x (.bool quo) t3))
    (N : News h₀ L h ((x, instObj 870 dx) :: (dx, dictOf (lexD hs ts y q1 q2 (.str (Str.ofString "a") t1) tok t2 vt) 19) :: (y, instObj 735 dy) :: (dy, dictOf (sioD hs ts nl buf tb pos tp) 3) :: rest))
    (T : Top Mine.vq (looseW Mine.vq Mine.lo) mean mg mb h₀)
    (hdp : dp + 30 < recursionLimit) (hun : un + 100 < cLine)
    (hret : ∀ m' h' tk' (t1' t2' tp' : Tok), LocOk m m' x quo t3 → Fr h₀ L h' m' → News h₀ L h' ((x, instObj 870 dx) :: (dx, dictOf (lexD hs ts y q1 q2 (.str (Str.ofString "\"") t1') tok t2' vt) 19) :: (y, instObj 735 dy) :: (dy, dictOf (sioD hs ts nl buf tb (pos + 1 : Nat) tp') 3) :: rest) → Q .next { s with heap := h', toks := tk' }) :
      wpAny (model pg w) (ktrTop dp un gd (Str.ofString "shlex.read_token") sc_838 L 838 (.ref 837) [] outer) (execs wb838.1 (envX (Str.ofString "shlex.read_token") sc_838 L 838 (.ref 837) [])) Q E { s with heap := h, toks := tk } := by
  k_steps
  all_goals first | (exfalso; omega) | ((try dsimp only); exact hret _ _ _ _ _ _ (locA ..) (by k_asm) (by first | k_asm | (refine' cb_drop ?cbN ?cbS; (case cbN => assumption); (case cbS => exact fun _ hp => List.Mem.tail _ hp))))
theorem t_a_d (w : World) (mean : ExcName → Option Value) (mg mb : Str → Option Value) (x dx y dy q1 q2 : Nat) (hs : Nat → Int) (ts vt : Nat → Tok) (tb : Tok) (nl : Value) (buf : Str) (rest : List (Addr × Obj))
   (pos : Nat) (tp t1 t2 t3 : Tok) (tok : Str) (quo : Bool)
   (hx : dx < x) (hxy : x < dy) (hy : dy < y) (hr : ∀ p ∈ rest, p.1 ≠ dy) (hr2 : ∀ p ∈ rest, p.1 ≠ dx)
   (hb : buf.length ≤ 1000) (c : Nat) (r : List Nat) (hc : buf.cps.toList.drop pos = c :: r) (hd : 48 ≤ c ∧ c ≤ 57) (htl : tok.length ≤ 1000)
   (dp un : Nat) (gd : Option (List Code)) (outer : List Env) (A₀ : Around) (base h₀ : Heap) (L : Addr) (m u : Str → Option Value) (s : Shared) (h : Heap) (tk : Nat) (Q : Flow → Shared → Prop) (E : Value → Shared → Prop)
    (B : Below A₀ base outer h₀) (X : (Mine.kk w.params).In h₀)
    (F : Fr h₀ L h (lcl m u x (.bool quo) t3))
    (N : News h₀ L h ((x, instObj 870 dx) :: (dx, dictOf (lexD hs ts y q1 q2 (.str (Str.ofString "a") t1) tok t2 vt) 19) :: (y, instObj 735 dy) :: (dy, dictOf (sioD hs ts nl buf tb pos tp) 3) :: rest))
    (T : Top Mine.vq (looseW Mine.vq Mine.lo) mean mg mb h₀)
    (hdp : dp + 30 < recursionLimit) (hun : un + 100 < cLine)
    (hret : ∀ m' h' tk' (t1' t2' tp' : Tok), LocOk m m' x quo t3 → Fr h₀ L h' m' → News h₀ L h' ((x, instObj 870 dx) :: (dx, dictOf (lexD hs ts y q1 q2 (.str (Str.ofString "a") t1') (tok ++ ⟨#[c]⟩) t2' vt) 19) :: (y, instObj 735 dy) :: (dy, dictOf (sioD hs ts nl buf tb (pos + 1 : Nat) tp') 3) :: rest) → Q .next { s with heap := h', toks := tk' }) :
      wpAny (model pg w) (ktrTop dp un gd (Str.ofString "shlex.read_token") sc_838 L 838 (.ref 837) [] outer) (execs wb838.1 (envX (Str.ofString "shlex.read_token") sc_838 L 838 (.ref 837) [])) Q E { s with heap := h, toks := tk } := by
  have f0 := dig_nl c hd
  obtain ⟨f1, f2, f3, f4, f5, f6, f9⟩ := dig_in c hd
  have f7 : (⟨#[c]⟩ : Str).length = 1 := rfl
  have f8 : ((⟨#[c]⟩ : Str).length : Int) ≠ 0 := by rw [f7]; decide
  k_steps
  all_goals first | (exfalso; omega) | ((try dsimp only); exact hret _ _ _ _ _ _ (locA ..) (by k_asm) (by first | k_asm | (refine' cb_drop ?cbN ?cbS; (case cbN => assumption); (case cbS => exact fun _ hp => List.Mem.tail _ hp))))
theorem t_q_q (w : World) (mean : ExcName → Option Value) (mg mb : Str → Option Value) (x dx y dy q1 q2 : Nat) (hs : Nat → Int) (ts vt : Nat → Tok) (tb : Tok) (nl : Value) (buf : Str) (rest : List (Addr × Obj))
   (pos : Nat) (tp t1 t2 t3 : Tok) (tok : Str) (quo : Bool)
   (hx : dx < x) (hxy : x < dy) (hy : dy < y) (hr : ∀ p ∈ rest, p.1 ≠ dy) (hr2 : ∀ p ∈ rest, p.1 ≠ dx)
   (hb : buf.length ≤ 1000) (r : List Nat) (hc : buf.cps.toList.drop pos = 39 :: r) 
   (dp un : Nat) (gd : Option (List Code)) (outer : List Env) (A₀ : Around) (base h₀ : Heap) (L : Addr) (m u : Str → Option Value) (s : Shared) (h : Heap) (tk : Nat) (Q : Flow → Shared → Prop) (E : Value → Shared → Prop)
    (B : Below A₀ base outer h₀) (X : (Mine.kk w.params).In h₀)
    (F : Fr h₀ L h (lcl m u x (.bool quo) t3))
    (N : News h₀ L h ((x, instObj 870 dx) :: (dx, dictOf (lexD hs ts y q1 q2 (.str (Str.ofString "'") t1) tok t2 vt) 19) :: (y, instObj 735 dy) :: (dy, dictOf (sioD hs ts nl buf tb pos tp) 3) :: rest))
    (T : Top Mine.vq (looseW Mine.vq Mine.lo) mean mg mb h₀)
    (hdp : dp + 30 < recursionLimit) (hun : un + 100 < cLine)
    (hret : ∀ m' h' tk' (t1' t2' tp' : Tok), LocOk m m' x true t3 → Fr h₀ L h' m' → News h₀ L h' ((x, instObj 870 dx) :: (dx, dictOf (lexD hs ts y q1 q2 (.str (Str.ofString "a") t1') tok t2' vt) 19) :: (y, instObj 735 dy) :: (dy, dictOf (sioD hs ts nl buf tb (pos + 1 : Nat) tp') 3) :: rest) → Q .next { s with heap := h', toks := tk' }) :
      wpAny (model pg w) (ktrTop dp un gd (Str.ofString "shlex.read_token") sc_838 L 838 (.ref 837) [] outer) (execs wb838.1 (envX (Str.ofString "shlex.read_token") sc_838 L 838 (.ref 837) [])) Q E { s with heap := h, toks := tk } := by
  k_steps
  all_goals first | (exfalso; omega) | ((try dsimp only); exact hret _ _ _ _ _ _ (locB ..) (by k_asm) (by first | k_asm | (refine' cb_drop ?cbN ?cbS; (case cbN => assumption); (case cbS => exact fun _ hp => List.Mem.tail _ hp))))
theorem t_q_p (w : World) (mean : ExcName → Option Value) (mg mb : Str → Option Value) (x dx y dy q1 q2 : Nat) (hs : Nat → Int) (ts vt : Nat → Tok) (tb : Tok) (nl : Value) (buf : Str) (rest : List (Addr × Obj))
   (pos : Nat) (tp t1 t2 t3 : Tok) (tok : Str) (quo : Bool)
   (hx : dx < x) (hxy : x < dy) (hy : dy < y) (hr : ∀ p ∈ rest, p.1 ≠ dy) (hr2 : ∀ p ∈ rest, p.1 ≠ dx)
   (hb : buf.length ≤ 1000) (r : List Nat) (hc : buf.cps.toList.drop pos = 34 :: r) (htl : tok.length ≤ 1000)
   (dp un : Nat) (gd : Option (List Code)) (outer : List Env) (A₀ : Around) (base h₀ : Heap) (L : Addr) (m u : Str → Option Value) (s : Shared) (h : Heap) (tk : Nat) (Q : Flow → Shared → Prop) (E : Value → Shared → Prop)
    (B : Below A₀ base outer h₀) (X : (Mine.kk w.params).In h₀)
    (F : Fr h₀ L h (lcl m u x (.bool quo) t3))
    (N : News h₀ L h ((x, instObj 870 dx) :: (dx, dictOf (lexD hs ts y q1 q2 (.str (Str.ofString "'") t1) tok t2 vt) 19) :: (y, instObj 735 dy) :: (dy, dictOf (sioD hs ts nl buf tb pos tp) 3) :: rest))
    (T : Top Mine.vq (looseW Mine.vq Mine.lo) mean mg mb h₀)
    (hdp : dp + 30 < recursionLimit) (hun : un + 100 < cLine)
    (hret : ∀ m' h' tk' (t1' t2' tp' : Tok), LocOk m m' x true t3 → Fr h₀ L h' m' → News h₀ L h' ((x, instObj 870 dx) :: (dx, dictOf (lexD hs ts y q1 q2 (.str (Str.ofString "'") t1') (tok ++ ⟨#[34]⟩) t2' vt) 19) :: (y, instObj 735 dy) :: (dy, dictOf (sioD hs ts nl buf tb (pos + 1 : Nat) tp') 3) :: rest) → Q .next { s with heap := h', toks := tk' }) :
      wpAny (model pg w) (ktrTop dp un gd (Str.ofString "shlex.read_token") sc_838 L 838 (.ref 837) [] outer) (execs wb838.1 (envX (Str.ofString "shlex.read_token") sc_838 L 838 (.ref 837) [])) Q E { s with heap := h, toks := tk } := by
  k_steps
  all_goals first | (exfalso; omega) | ((try dsimp only); exact hret _ _ _ _ _ _ (locB ..) (by k_asm) (by first | k_asm | (refine' cb_drop ?cbN ?cbS; (case cbN => assumption); (case cbS => exact fun _ hp => List.Mem.tail _ hp))))
theorem t_q_d (w : World) (mean : ExcName → Option Value) (mg mb : Str → Option Value) (x dx y dy q1 q2 : Nat) (hs : Nat → Int) (ts vt : Nat → Tok) (tb : Tok) (nl : Value) (buf : Str) (rest : List (Addr × Obj))
   (pos : Nat) (tp t1 t2 t3 : Tok) (tok : Str) (quo : Bool)
   (hx : dx < x) (hxy : x < dy) (hy : dy < y) (hr : ∀ p ∈ rest, p.1 ≠ dy) (hr2 : ∀ p ∈ rest, p.1 ≠ dx)
   (hb : buf.length ≤ 1000) (c : Nat) (r : List Nat) (hc : buf.cps.toList.drop pos = c :: r) (hd : 48 ≤ c ∧ c ≤ 57) (htl : tok.length ≤ 1000)
   (dp un : Nat) (gd : Option (List Code)) (outer : List Env) (A₀ : Around) (base h₀ : Heap) (L : Addr) (m u : Str → Option Value) (s : Shared) (h : Heap) (tk : Nat) (Q : Flow → Shared → Prop) (E : Value → Shared → Prop)
    (B : Below A₀ base outer h₀) (X : (Mine.kk w.params).In h₀)
    (F : Fr h₀ L h (lcl m u x (.bool quo) t3))
    (N : News h₀ L h ((x, instObj 870 dx) :: (dx, dictOf (lexD hs ts y q1 q2 (.str (Str.ofString "'") t1) tok t2 vt) 19) :: (y, instObj 735 dy) :: (dy, dictOf (sioD hs ts nl buf tb pos tp) 3) :: rest))
    (T : Top Mine.vq (looseW Mine.vq Mine.lo) mean mg mb h₀)
    (hdp : dp + 30 < recursionLimit) (hun : un + 100 < cLine)
    (hret : ∀ m' h' tk' (t1' t2' tp' : Tok), LocOk m m' x true t3 → Fr h₀ L h' m' → News h₀ L h' ((x, instObj 870 dx) :: (dx, dictOf (lexD hs ts y q1 q2 (.str (Str.ofString "'") t1') (tok ++ ⟨#[c]⟩) t2' vt) 19) :: (y, instObj 735 dy) :: (dy, dictOf (sioD hs ts nl buf tb (pos + 1 : Nat) tp') 3) :: rest) → Q .next { s with heap := h', toks := tk' }) :
      wpAny (model pg w) (ktrTop dp un gd (Str.ofString "shlex.read_token") sc_838 L 838 (.ref 837) [] outer) (execs wb838.1 (envX (Str.ofString "shlex.read_token") sc_838 L 838 (.ref 837) [])) Q E { s with heap := h, toks := tk } := by
  have f0 := dig_nl c hd
  obtain ⟨f1, f2, f3, f4, f5, f6, f9⟩ := dig_in c hd
  have f7 : (⟨#[c]⟩ : Str).length = 1 := rfl
  have f8 : ((⟨#[c]⟩ : Str).length : Int) ≠ 0 := by rw [f7]; decide
  k_steps
  all_goals first | (exfalso; omega) | ((try dsimp only); exact hret _ _ _ _ _ _ (locB ..) (by k_asm) (by first | k_asm | (refine' cb_drop ?cbN ?cbS; (case cbN => assumption); (case cbS => exact fun _ hp => List.Mem.tail _ hp))))
theorem t_p_p (w : World) (mean : ExcName → Option Value) (mg mb : Str → Option Value) (x dx y dy q1 q2 : Nat) (hs : Nat → Int) (ts vt : Nat → Tok) (tb : Tok) (nl : Value) (buf : Str) (rest : List (Addr × Obj))
   (pos : Nat) (tp t1 t2 t3 : Tok) (tok : Str) (quo : Bool)
   (hx : dx < x) (hxy : x < dy) (hy : dy < y) (hr : ∀ p ∈ rest, p.1 ≠ dy) (hr2 : ∀ p ∈ rest, p.1 ≠ dx)
   (hb : buf.length ≤ 1000) (r : List Nat) (hc : buf.cps.toList.drop pos = 34 :: r) 
   (dp un : Nat) (gd : Option (List Code)) (outer : List Env) (A₀ : Around) (base h₀ : Heap) (L : Addr) (m u : Str → Option Value) (s : Shared) (h : Heap) (tk : Nat) (Q : Flow → Shared → Prop) (E : Value → Shared → Prop)
    (B : Below A₀ base outer h₀) (X : (Mine.kk w.params).In h₀)
    (F : Fr h₀ L h (lcl m u x (.bool quo) t3))
    (N : News h₀ L h ((x, instObj 870 dx) :: (dx, dictOf (lexD hs ts y q1 q2 (.str (Str.ofString "\"") t1) tok t2 vt) 19) :: (y, instObj 735 dy) :: (dy, dictOf (sioD hs ts nl buf tb pos tp) 3) :: rest))
    (T : Top Mine.vq (looseW Mine.vq Mine.lo) mean mg mb h₀)
    (hdp : dp + 30 < recursionLimit) (hun : un + 100 < cLine)
    (hret : ∀ m' h' tk' (t1' t2' tp' : Tok), LocOk m m' x true t3 → Fr h₀ L h' m' → News h₀ L h' ((x, instObj 870 dx) :: (dx, dictOf (lexD hs ts y q1 q2 (.str (Str.ofString "a") t1') tok t2' vt) 19) :: (y, instObj 735 dy) :: (dy, dictOf (sioD hs ts nl buf tb (pos + 1 : Nat) tp') 3) :: rest) → Q .next { s with heap := h', toks := tk' }) :
      wpAny (model pg w) (ktrTop dp un gd (Str.ofString "shlex.read_token") sc_838 L 838 (.ref 837) [] outer) (execs wb838.1 (envX (Str.ofString "shlex.read_token") sc_838 L 838 (.ref 837) [])) Q E { s with heap := h, toks := tk } := by
  k_steps
  all_goals first | (exfalso; omega) | ((try dsimp only); exact hret _ _ _ _ _ _ (locB ..) (by k_asm) (by first | k_asm | (refine' cb_drop ?cbN ?cbS; (case cbN => assumption); (case cbS => exact fun _ hp => List.Mem.tail _ hp))))
theorem t_p_q (w : World) (mean : ExcName → Option Value) (mg mb : Str → Option Value) (x dx y dy q1 q2 : Nat) (hs : Nat → Int) (ts vt : Nat → Tok) (tb : Tok) (nl : Value) (buf : Str) (rest : List (Addr × Obj))
   (pos : Nat) (tp t1 t2 t3 : Tok) (tok : Str) (quo : Bool)
   (hx : dx < x) (hxy : x < dy) (hy : dy < y) (hr : ∀ p ∈ rest, p.1 ≠ dy) (hr2 : ∀ p ∈ rest, p.1 ≠ dx)
   (hb : buf.length ≤ 1000) (r : List Nat) (hc : buf.cps.toList.drop pos = 39 :: r) (htl : tok.length ≤ 1000)
   (dp un : Nat) (gd : Option (List Code)) (outer : List Env) (A₀ : Around) (base h₀ : Heap) (L : Addr) (m u : Str → Option Value) (s : Shared) (h : Heap) (tk : Nat) (Q : Flow → Shared → Prop) (E : Value → Shared → Prop)
    (B : Below A₀ base outer h₀) (X : (Mine.kk w.params).In h₀)
    (F : Fr h₀ L h (lcl m u x (.bool quo) t3))
    (N : News h₀ L h ((x, instObj 870 dx) :: (dx, dictOf (lexD hs ts y q1 q2 (.str (Str.ofString "\"") t1) tok t2 vt) 19) :: (y, instObj 735 dy) :: (dy, dictOf (sioD hs ts nl buf tb pos tp) 3) :: rest))
    (T : Top Mine.vq (looseW Mine.vq Mine.lo) mean mg mb h₀)
    (hdp : dp + 30 < recursionLimit) (hun : un + 100 < cLine)
    (hret : ∀ m' h' tk' (t1' t2' tp' : Tok), LocOk m m' x true t3 → Fr h₀ L h' m' → News h₀ L h' ((x, instObj 870 dx) :: (dx, dictOf (lexD hs ts y q1 q2 (.str (Str.ofString "\"") t1') (tok ++ ⟨#[39]⟩) t2' vt) 19) :: (y, instObj 735 dy) :: (dy, dictOf (sioD hs ts nl buf tb (pos + 1 : Nat) tp') 3) :: rest) → Q .next { s with heap := h', toks := tk' }) :
      wpAny (model pg w) (ktrTop dp un gd (Str.ofString "shlex.read_token") sc_838 L 838 (.ref 837) [] outer) (execs wb838.1 (envX (Str.ofString "shlex.read_token") sc_838 L 838 (.ref 837) [])) Q E { s with heap := h, toks := tk } := by
  k_steps
  all_goals first | (exfalso; omega) | ((try dsimp only); exact hret _ _ _ _ _ _ (locB ..) (by k_asm) (by first | k_asm | (refine' cb_drop ?cbN ?cbS; (case cbN => assumption); (case cbS => exact fun _ hp => List.Mem.tail _ hp))))
end Mine
end
section
namespace Mine
abbrev dig (c : Nat) : Prop := 48 ≤ c ∧ c ≤ 57
/-- the lexer's own reading of one word: mode, the word so far, whether a quotation was met; then the rest of the line -/
noncomputable def lexRun : Nat → List Nat → Bool → List Nat → Option (List Nat × Bool × Bool × List Nat)
  | md, tok, q, [] => if md = 32 ∨ md = 97 then some (tok, q, true, []) else none
  | md, tok, q, c :: r =>
    if md = 32 then
      if c = 32 then lexRun 32 tok q r else if c = 39 then lexRun 39 tok q r else if dig c then lexRun 97 [c] q r else none
    else if md = 97 then
      if c = 32 then (if tok = [] then none else some (tok, q, false, r)) else if c = 39 then lexRun 39 tok q r else if c = 34 then lexRun 34 tok q r else if dig c then lexRun 97 (tok ++ [c]) q r else none
    else if md = 39 then
      if c = 39 then lexRun 97 tok true r else if c = 34 ∨ dig c then lexRun 39 (tok ++ [c]) true r else none
    else if md = 34 then
      if c = 34 then lexRun 97 tok true r else if c = 39 then lexRun 34 (tok ++ [c]) true r else none
    else none
abbrev mdS (md : Nat) : Str := if md = 32 then Str.ofString " " else if md = 97 then Str.ofString "a" else if md = 39 then Str.ofString "'" else Str.ofString "\""
abbrev toS (l : List Nat) : Str := ⟨l.toArray⟩
theorem toS_snoc (l : List Nat) (c : Nat) : toS l ++ ⟨#[c]⟩ = toS (l ++ [c]) := by
  apply PySem.Str.ext'
  rw [PySem.Str.cps_append]
  simp [toS]
theorem toS_len (l : List Nat) : (toS l).length = l.length := by
  show l.toArray.size = l.length
  simp
theorem toS_nil : toS [] = Str.ofString "" := by decide
theorem toS_one (c : Nat) : toS [c] = ⟨#[c]⟩ := rfl
structure LS where
  md : Nat
  tok : List Nat
  q : Bool
  pos : Nat
  t1 : Tok
  t2 : Tok
  tp : Tok
theorem loc_hk {m m' : Str → Option Value} {x : Nat} {q : Bool} {t3 : Tok} (h : LocOk m m' x q t3) : ∀ p ∈ [(Str.ofString "self", Value.ref x), (Str.ofString "quoted", Value.bool q), (Str.ofString "escapedstate", Value.str (Str.ofString " ") t3)], m' p.1 = some p.2 := by
  intro p hp
  simp only [List.mem_cons, List.not_mem_nil, or_false] at hp
  rcases hp with rfl | rfl | rfl
  · exact h.1
  · exact h.2.1
  · exact h.2.2.1
theorem loc_hr {m m' : Str → Option Value} {x : Nat} {q : Bool} {t3 : Tok} (h : LocOk m m' x q t3) : ∀ z, (∀ p ∈ [(Str.ofString "self", Value.ref x), (Str.ofString "quoted", Value.bool q), (Str.ofString "escapedstate", Value.str (Str.ofString " ") t3)], z ≠ p.1) →
    [Str.ofString "nextchar", Str.ofString "quoted", Str.ofString "escapedstate"].contains z = false → m' z = m z := by
  intro z h1 h2
  refine h.2.2.2 z (h1 _ (.head _)) (h1 _ (.tail _ (.head _))) (h1 _ (.tail _ (.tail _ (.head _)))) ?_
  intro e
  subst e
  revert h2
  decide
end Mine
end
section
namespace Mine
theorem wtrue (w : World) (A : Around) (env : Env) (E : Value → Shared → Prop) (R : Bool → Shared → Prop) (s' : Shared) (hR : R true s') : wpAny (model pg w) A (isTrue (match wl838.1 with | .While t _ _ _ => t | _ => .Constant .none 0 ⟨0,0,0,0⟩) env (eval (match wl838.1 with | .While t _ _ _ => t | _ => .Constant .none 0 ⟨0,0,0,0⟩) env)) R E s' := by
  dsimp only
  k_steps
  exact hR
theorem fr_of_loc {h₀ h : Heap} {L : Addr} {m m' : Str → Option Value} {x : Nat} {q : Bool} {t3 : Tok} (hl : LocOk m m' x q t3) (F : Fr h₀ L h m') : Fr h₀ L h (fun y => if y = Str.ofString "self" then some (.ref x) else if y = Str.ofString "quoted" then some (.bool q) else m' y) := by
  have e : (fun y => if y = Str.ofString "self" then some (.ref x) else if y = Str.ofString "quoted" then some (.bool q) else m' y) = m' := by
    funext y
    by_cases h1 : y = Str.ofString "self"
    · rw [if_pos h1, h1]; exact hl.1.symm
    · rw [if_neg h1]
      by_cases h2 : y = Str.ofString "quoted"
      · rw [if_pos h2, h2]; exact hl.2.1.symm
      · rw [if_neg h2]
  rw [e]; exact F
theorem rt_loop (w : World) (mean : ExcName → Option Value) (mg mb : Str → Option Value) (x dx y dy q1 q2 : Nat) (hs : Nat → Int) (ts vt : Nat → Tok) (tb : Tok) (nl : Value) (buf : Str) (rest : List (Addr × Obj))
   (c₀ : LS) (t3 : Tok) (out : List Nat × Bool × Bool × List Nat)
   (hx : dx < x) (hxy : x < dy) (hy : dy < y) (hr : ∀ p ∈ rest, p.1 ≠ dy) (hr2 : ∀ p ∈ rest, p.1 ≠ dx)
   (hb : buf.length ≤ 1000)
   (hP : lexRun c₀.md c₀.tok c₀.q (buf.cps.toList.drop c₀.pos) = some out ∧ c₀.tok.length ≤ c₀.pos ∧ c₀.pos ≤ buf.length ∧ (c₀.md = 32 → c₀.tok = [] ∧ c₀.q = false))
   (dp un : Nat) (gd : Option (List Code)) (outer : List Env) (A₀ : Around) (base h₀ : Heap) (L : Addr) (m : Str → Option Value) (s : Shared) (Q : Flow → Shared → Prop) (E : Value → Shared → Prop)
    (B : Below A₀ base outer h₀) (F : Fr h₀ L s.heap m) (X : (Mine.kk w.params).In h₀)
    (N : News h₀ L s.heap ((x, instObj 870 dx) :: (dx, dictOf (lexD hs ts y q1 q2 (.str (mdS c₀.md) c₀.t1) (toS c₀.tok) c₀.t2 vt) 19) :: (y, instObj 735 dy) :: (dy, dictOf (sioD hs ts nl buf tb c₀.pos c₀.tp) 3) :: rest))
    (T : Top Mine.vq (looseW Mine.vq Mine.lo) mean mg mb h₀)
    (hm : ∀ p ∈ [(Str.ofString "self", Value.ref x), (Str.ofString "quoted", Value.bool c₀.q), (Str.ofString "escapedstate", Value.str (Str.ofString " ") t3)], m p.1 = some p.2)
    (hdp : dp + 30 < recursionLimit) (hun : un + 100 < cLine)
    (hE : PassesOwn (model pg w) (ktrTop dp un gd (Str.ofString "shlex.read_token") sc_838 L 838 (.ref 837) [] outer) (envX (Str.ofString "shlex.read_token") sc_838 L 838 (.ref 837) []) E)
    (hQ : ∀ m' h' tk' (t1' t2' tp' : Tok) (pos' : Nat), LocOk m m' x out.2.1 t3 → buf.cps.toList.drop pos' = out.2.2.2 → pos' ≤ buf.length → Fr h₀ L h' m' →
      News h₀ L h' ((x, instObj 870 dx) :: (dx, dictOf (lexD hs ts y q1 q2 (if out.2.2.1 = true then .none else .str (Str.ofString " ") t1') (toS out.1) t2' vt) 19) :: (y, instObj 735 dy) :: (dy, dictOf (sioD hs ts nl buf tb pos' tp') 3) :: rest) → Q .next { s with heap := h', toks := tk' }) :
      wpAny (model pg w) (ktrTop dp un gd (Str.ofString "shlex.read_token") sc_838 L 838 (.ref 837) [] outer) (exec wl838.1 (envX (Str.ofString "shlex.read_token") sc_838 L 838 (.ref 837) [])) Q E s := by
  refine ksw_while (σ := LS) (fun c => (x, instObj 870 dx) :: (dx, dictOf (lexD hs ts y q1 q2 (.str (mdS c.md) c.t1) (toS c.tok) c.t2 vt) 19) :: (y, instObj 735 dy) :: (dy, dictOf (sioD hs ts nl buf tb c.pos c.tp) 3) :: rest) (fun c => [(Str.ofString "self", .ref x), (Str.ofString "quoted", .bool c.q), (Str.ofString "escapedstate", .str (Str.ofString " ") t3)]) (fun _ => True) [Str.ofString "nextchar", Str.ofString "quoted", Str.ofString "escapedstate"]
    (fun c => lexRun c.md c.tok c.q (buf.cps.toList.drop c.pos) = some out ∧ c.tok.length ≤ c.pos ∧ c.pos ≤ buf.length ∧ (c.md = 32 → c.tok = [] ∧ c.q = false)) (fun c => buf.length - c.pos) c₀ F N trivial hm hP ?_ hE
  rintro ⟨md, tok, q, pos, t1, t2, tp⟩ u h tk _ ⟨hrun, htl, hpos, h32⟩ F' N'
  dsimp only at hrun htl hpos h32 F' N'
  refine wtrue w _ _ E _ _ ?_
  show if true = true then _ else _
  rw [if_pos rfl]
  have htk : (toS tok).length ≤ 1000 := by rw [toS_len]; omega
  -- what a turn that goes on owes
  have go : ∀ (md' : Nat) (tok' : List Nat) (q' : Bool), lexRun md' tok' q' (buf.cps.toList.drop (pos + 1)) = some out → tok'.length ≤ pos + 1 → pos + 1 ≤ buf.length → (md' = 32 → tok' = [] ∧ q' = false) → ∀ (st : Str) (tk2 : Str), st = mdS md' → tk2 = toS tok' →
      ∀ m' h' tk' (t1' t2' tp' : Tok), LocOk m m' x q' t3 → Fr h₀ L h' m' → News h₀ L h' ((x, instObj 870 dx) :: (dx, dictOf (lexD hs ts y q1 q2 (.str st t1') tk2 t2' vt) 19) :: (y, instObj 735 dy) :: (dy, dictOf (sioD hs ts nl buf tb (pos + 1 : Nat) tp') 3) :: rest) →
      KswEnd h₀ L s (fun c : LS => (x, instObj 870 dx) :: (dx, dictOf (lexD hs ts y q1 q2 (.str (mdS c.md) c.t1) (toS c.tok) c.t2 vt) 19) :: (y, instObj 735 dy) :: (dy, dictOf (sioD hs ts nl buf tb c.pos c.tp) 3) :: rest) (fun c => [(Str.ofString "self", .ref x), (Str.ofString "quoted", .bool c.q), (Str.ofString "escapedstate", .str (Str.ofString " ") t3)]) (fun _ => True) [Str.ofString "nextchar", Str.ofString "quoted", Str.ofString "escapedstate"] m
        (fun c => lexRun c.md c.tok c.q (buf.cps.toList.drop c.pos) = some out ∧ c.tok.length ≤ c.pos ∧ c.pos ≤ buf.length ∧ (c.md = 32 → c.tok = [] ∧ c.q = false)) (fun c => buf.length - c.pos) ⟨md, tok, q, pos, t1, t2, tp⟩ { s with heap := h', toks := tk' } := by
    intro md' tok' q' e1 e2 e3 e4 st tk2 es et m' h' tk' t1' t2' tp' hl F2 N2
    subst es et
    exact ksw_end ⟨md', tok', q', pos + 1, t1', t2', tp'⟩ F2 N2 (fun _ hp => hp) trivial (loc_hk hl) (loc_hr hl) ⟨e1, e2, e3, e4⟩ (by show buf.length - (pos + 1) < buf.length - pos; omega)
  cases hin : buf.cps.toList.drop pos with
  | nil =>
    rw [hin] at hrun
    unfold lexRun at hrun
    split at hrun
    · rename_i hmd
      cases hrun
      rcases hmd with rfl | rfl
      · obtain ⟨rfl, rfl⟩ := h32 rfl
        exact t_sp_e w mean mg mb x dx y dy q1 q2 hs ts vt tb nl buf rest pos tp t1 t2 t3 hx hxy hy hr hr2 hb hin dp un gd outer A₀ base h₀ L m u s h tk _ E B X F' N' T hdp hun (fun m' h' tk' t1' t2' tp' hl F2 N2 => hQ m' h' tk' t1' t2' tp' pos hl hin hpos F2 N2)
      · exact t_a_e w mean mg mb x dx y dy q1 q2 hs ts vt tb nl buf rest pos tp t1 t2 t3 (toS tok) q hx hxy hy hr hr2 hb hin dp un gd outer A₀ base h₀ L m u s h tk _ E B X F' N' T hdp hun (fun m' h' tk' t1' t2' tp' hl F2 N2 => hQ m' h' tk' t1' t2' tp' pos hl hin hpos F2 N2)
    · cases hrun
  | cons c r =>
    have hlen := drop_len hin
    have hin1 : buf.cps.toList.drop (pos + 1) = r := by
      rw [← List.drop_drop, hin]; rfl
    rw [hin] at hrun
    unfold lexRun at hrun
    split at hrun
    · rename_i hmd
      subst hmd
      obtain ⟨rfl, rfl⟩ := h32 rfl
      split at hrun
      · rename_i hc; subst hc
        exact t_sp_b w mean mg mb x dx y dy q1 q2 hs ts vt tb nl buf rest pos tp t1 t2 t3 hx hxy hy hr hr2 hb r hin dp un gd outer A₀ base h₀ L m u s h tk _ E B X F' N' T hdp hun (go 32 [] false (by rw [hin1]; exact hrun) (by simp) (by omega) (fun _ => ⟨rfl, rfl⟩) _ _ rfl toS_nil.symm)
      · split at hrun
        · rename_i hc; subst hc
          exact t_sp_q w mean mg mb x dx y dy q1 q2 hs ts vt tb nl buf rest pos tp t1 t2 t3 hx hxy hy hr hr2 hb r hin dp un gd outer A₀ base h₀ L m u s h tk _ E B X F' N' T hdp hun (go 39 [] false (by rw [hin1]; exact hrun) (by simp) (by omega) (by omega) _ _ rfl toS_nil.symm)
        · split at hrun
          · rename_i hd
            exact t_sp_d w mean mg mb x dx y dy q1 q2 hs ts vt tb nl buf rest pos tp t1 t2 t3 hx hxy hy hr hr2 hb c r hin hd dp un gd outer A₀ base h₀ L m u s h tk _ E B X F' N' T hdp hun (go 97 [c] false (by rw [hin1]; exact hrun) (by simp) (by omega) (by omega) _ _ rfl rfl)
          · cases hrun
    · split at hrun
      · rename_i _ hmd
        subst hmd
        split at hrun
        · rename_i hc; subst hc
          split at hrun
          · cases hrun
          · rename_i hne
            cases hrun
            have h0 : 0 < (toS tok).length := by rw [toS_len]; exact List.length_pos_iff.mpr hne
            exact t_a_b w mean mg mb x dx y dy q1 q2 hs ts vt tb nl buf rest pos tp t1 t2 t3 (toS tok) q hx hxy hy hr hr2 hb r hin h0 htk dp un gd outer A₀ base h₀ L m u s h tk _ E B X F' N' T hdp hun (fun m' h' tk' t1' t2' tp' hl F2 N2 => hQ m' h' tk' t1' t2' tp' (pos + 1) hl hin1 (by omega) F2 N2)
        · split at hrun
          · rename_i hc; subst hc
            exact t_a_q w mean mg mb x dx y dy q1 q2 hs ts vt tb nl buf rest pos tp t1 t2 t3 (toS tok) q hx hxy hy hr hr2 hb r hin dp un gd outer A₀ base h₀ L m u s h tk _ E B X F' N' T hdp hun (go 39 tok q (by rw [hin1]; exact hrun) (by omega) (by omega) (by omega) _ _ rfl rfl)
          · split at hrun
            · rename_i hc; subst hc
              exact t_a_p w mean mg mb x dx y dy q1 q2 hs ts vt tb nl buf rest pos tp t1 t2 t3 (toS tok) q hx hxy hy hr hr2 hb r hin dp un gd outer A₀ base h₀ L m u s h tk _ E B X F' N' T hdp hun (go 34 tok q (by rw [hin1]; exact hrun) (by omega) (by omega) (by omega) _ _ rfl rfl)
            · split at hrun
              · rename_i hd
                exact t_a_d w mean mg mb x dx y dy q1 q2 hs ts vt tb nl buf rest pos tp t1 t2 t3 (toS tok) q hx hxy hy hr hr2 hb c r hin hd htk dp un gd outer A₀ base h₀ L m u s h tk _ E B X F' N' T hdp hun (go 97 (tok ++ [c]) q (by rw [hin1]; exact hrun) (by simp; omega) (by omega) (by omega) _ _ rfl (toS_snoc tok c))
              · cases hrun
      · split at hrun
        · rename_i _ _ hmd
          subst hmd
          split at hrun
          · rename_i hc; subst hc
            exact t_q_q w mean mg mb x dx y dy q1 q2 hs ts vt tb nl buf rest pos tp t1 t2 t3 (toS tok) q hx hxy hy hr hr2 hb r hin dp un gd outer A₀ base h₀ L m u s h tk _ E B X F' N' T hdp hun (go 97 tok true (by rw [hin1]; exact hrun) (by omega) (by omega) (by omega) _ _ rfl rfl)
          · split at hrun
            · rename_i hd
              rcases hd with rfl | hd
              · exact t_q_p w mean mg mb x dx y dy q1 q2 hs ts vt tb nl buf rest pos tp t1 t2 t3 (toS tok) q hx hxy hy hr hr2 hb r hin htk dp un gd outer A₀ base h₀ L m u s h tk _ E B X F' N' T hdp hun (go 39 (tok ++ [34]) true (by rw [hin1]; exact hrun) (by simp; omega) (by omega) (by omega) _ _ rfl (toS_snoc tok 34))
              · exact t_q_d w mean mg mb x dx y dy q1 q2 hs ts vt tb nl buf rest pos tp t1 t2 t3 (toS tok) q hx hxy hy hr hr2 hb c r hin hd htk dp un gd outer A₀ base h₀ L m u s h tk _ E B X F' N' T hdp hun (go 39 (tok ++ [c]) true (by rw [hin1]; exact hrun) (by simp; omega) (by omega) (by omega) _ _ rfl (toS_snoc tok c))
            · cases hrun
        · split at hrun
          · rename_i _ _ _ hmd
            subst hmd
            split at hrun
            · rename_i hc; subst hc
              exact t_p_p w mean mg mb x dx y dy q1 q2 hs ts vt tb nl buf rest pos tp t1 t2 t3 (toS tok) q hx hxy hy hr hr2 hb r hin dp un gd outer A₀ base h₀ L m u s h tk _ E B X F' N' T hdp hun (go 97 tok true (by rw [hin1]; exact hrun) (by omega) (by omega) (by omega) _ _ rfl rfl)
            · split at hrun
              · rename_i hc; subst hc
                exact t_p_q w mean mg mb x dx y dy q1 q2 hs ts vt tb nl buf rest pos tp t1 t2 t3 (toS tok) q hx hxy hy hr hr2 hb r hin htk dp un gd outer A₀ base h₀ L m u s h tk _ E B X F' N' T hdp hun (go 34 (tok ++ [39]) true (by rw [hin1]; exact hrun) (by simp; omega) (by omega) (by omega) _ _ rfl (toS_snoc tok 39))
              · cases hrun
          · cases hrun
end Mine
end
example : True ∧ True := by (w_top off; walk1 <;> exact True.intro)
section
local macro_rules | `(tactic| walk_at "zz") => `(tactic| skip)
example : True ∧ True := by (w_top off; walk1 <;> exact True.intro)
end
section
namespace Mine
local macro_rules | `(tactic| walk_at "ite") => `(tactic| first | with_reducible refine ite_neg (by with_reducible assumption) ?_ | with_reducible refine ite_pos (by with_reducible assumption) ?_ | with_reducible refine ite_f (by with_reducible assumption) ?_ | with_reducible refine ite_t (by with_reducible assumption) ?_ | (k_closed; first | refine ite_pos (by decide +kernel) ?_ | refine ite_neg (by decide +kernel) ?_))
local macro_rules | `(tactic| walk_at "call ref") => `(tactic| k_extra "sioc")
local macro_rules | `(tactic| walk_at "call ref") => `(tactic| k_extra "sioe")
theorem rtk_3 (w : World) (mean : ExcName → Option Value) (mg mb : Str → Option Value) (x dx y dy q1 q2 : Nat) (hs : Nat → Int) (ts vt : Nat → Tok) (tb : Tok) (nl : Value) (buf : Str) (rest : List (Addr × Obj))
   (pos : Nat) (t1 t2 tp : Tok)
   (hx : dx < x) (hxy : x < dy) (hy : dy < y) (hr : ∀ p ∈ rest, p.1 ≠ dy) (hr2 : ∀ p ∈ rest, p.1 ≠ dx)
   (hb : buf.length ≤ 1000) (hc : buf.cps.toList.drop pos = [])
   (dp un : Nat) (gd : Option (List Code)) (cn : Str) (cs : Scope) (a : Addr) (ccd : Value) (cl : List (Str × Addr)) (outer : List Env) (A₀ : Around) (base h₀ : Heap) (L : Addr) (m : Str → Option Value) (s : Shared) (Q E : Value → Shared → Prop)
    (B : Below A₀ base outer h₀) (F : Fr h₀ L s.heap m) (X : (Mine.kk w.params).In h₀) (T : Top Mine.vq (looseW Mine.vq Mine.lo) mean mg mb h₀) (hcs : cs.kind = .function)
    (N : News h₀ L s.heap ((x, instObj 870 dx) :: (dx, dictOf (lexD hs ts y q1 q2 .none (Str.ofString "") t2 vt) 19) :: (y, instObj 735 dy) :: (dy, dictOf (sioD hs ts nl buf tb pos tp) 3) :: rest))
    (hdp : dp + 40 < recursionLimit) (hun : un + 150 < cLine)
    (hret : ∀ h' tk' (t2' tp' : Tok), Fr h₀ L h' m → News h₀ L h' ((x, instObj 870 dx) :: (dx, dictOf (lexD hs ts y q1 q2 .none (Str.ofString "") t2' vt) 19) :: (y, instObj 735 dy) :: (dy, dictOf (sioD hs ts nl buf tb pos tp') 3) :: rest) → Q .none { s with heap := h', toks := tk' }) :
      wpAny (model pg w) (ktrTop dp un gd cn cs L a ccd cl outer) (call (.ref 838) [.ref x]) Q E s := by
  refine wpAny_call ?_; k_dflt (walk_at "my enter")
  k_steps
  all_goals exact hret _ _ _ _ (by k_asm) (by k_asm)
local macro_rules | `(tactic| walk_at "exec While Constant cons nil") => `(tactic| (refine halt_in ?_))
theorem rtk_1 (w : World) (mean : ExcName → Option Value) (mg mb : Str → Option Value) (x dx y dy q1 q2 : Nat) (hs : Nat → Int) (ts vt : Nat → Tok) (tb : Tok) (nl : Value) (buf : Str) (rest : List (Addr × Obj))
   (pos : Nat) (t1 t2 tp : Tok) (tok : List Nat) (quo eof : Bool) (rem : List Nat)
   (hx : dx < x) (hxy : x < dy) (hy : dy < y) (hr : ∀ p ∈ rest, p.1 ≠ dy) (hr2 : ∀ p ∈ rest, p.1 ≠ dx)
   (hb : buf.length ≤ 1000) (hP : lexRun 32 [] false (buf.cps.toList.drop pos) = some (tok, quo, eof, rem)) (hpos : pos ≤ buf.length) (hne : tok ≠ [])
   (dp un : Nat) (gd : Option (List Code)) (cn : Str) (cs : Scope) (a : Addr) (ccd : Value) (cl : List (Str × Addr)) (outer : List Env) (A₀ : Around) (base h₀ : Heap) (L : Addr) (m : Str → Option Value) (s : Shared) (Q E : Value → Shared → Prop)
    (B : Below A₀ base outer h₀) (F : Fr h₀ L s.heap m) (X : (Mine.kk w.params).In h₀) (T : Top Mine.vq (looseW Mine.vq Mine.lo) mean mg mb h₀) (hcs : cs.kind = .function)
    (N : News h₀ L s.heap ((x, instObj 870 dx) :: (dx, dictOf (lexD hs ts y q1 q2 (.str (Str.ofString " ") t1) (Str.ofString "") t2 vt) 19) :: (y, instObj 735 dy) :: (dy, dictOf (sioD hs ts nl buf tb pos tp) 3) :: rest))
    (hdp : dp + 40 < recursionLimit) (hun : un + 150 < cLine)
    (hret : ∀ h' tk' (t1' t2' tp' tt : Tok) (pos' : Nat), buf.cps.toList.drop pos' = rem → pos' ≤ buf.length → Fr h₀ L h' m → News h₀ L h' ((x, instObj 870 dx) :: (dx, dictOf (lexD hs ts y q1 q2 (if eof = true then .none else .str (Str.ofString " ") t1') (Str.ofString "") t2' vt) 19) :: (y, instObj 735 dy) :: (dy, dictOf (sioD hs ts nl buf tb pos' tp') 3) :: rest) → Q (.str (toS tok) tt) { s with heap := h', toks := tk' }) :
      wpAny (model pg w) (ktrTop dp un gd cn cs L a ccd cl outer) (call (.ref 838) [.ref x]) Q E s := by
  have f0 : (toS tok == Str.ofString "") = false := by
    rw [← toS_nil]
    apply beq_eq_false_iff_ne.mpr
    intro e
    exact hne (by simpa [toS] using e)
  refine wpAny_call ?_; k_dflt (walk_at "my enter")
  k_steps
  unfold Halt
  k_dflt (refine' rt_loop _ _ _ _ _ _ _ _ _ _ _ _ _ _ _ _ _ ⟨32, [], false, _, _, _, _⟩ _ (tok, quo, eof, rem) ?hx ?hxy ?hy ?hr ?hr2 ?hb ?hP _ _ _ _ _ _ _ _ _ _ _ _ ?B ?F ?X ?N ?T ?hm ?hdp ?hun ?hE ?_)
  (case B => k_asm)
  (case F => k_asm)
  (case X => k_asm)
  (case N => k_asm)
  (case T => k_asm)
  (case hx => assumption)
  (case hxy => assumption)
  (case hy => assumption)
  (case hr => assumption)
  (case hr2 => assumption)
  (case hb => assumption)
  (case hP => exact ⟨hP, by simp, hpos, fun _ => ⟨rfl, rfl⟩⟩)
  (case hm => (intro p hp; simp only [List.mem_cons, List.not_mem_nil, or_false] at hp; rcases hp with rfl | rfl | rfl <;> rfl))
  (case hdp => ktr_room)
  (case hun => ktr_units)
  (case hE => passes_own)
  k_whole
  intro m9 h9 tk9 t1_9 t2_9 tp_9 pos9 hl9 hd9 hp9 F9 N9
  replace F9 := fr_of_loc hl9 F9
  try dsimp only
  k_steps
  all_goals exact hret _ _ _ _ _ _ _ hd9 hp9 (by k_asm) (by k_asm)
theorem rtk_2 (w : World) (mean : ExcName → Option Value) (mg mb : Str → Option Value) (x dx y dy q1 q2 : Nat) (hs : Nat → Int) (ts vt : Nat → Tok) (tb : Tok) (nl : Value) (buf : Str) (rest : List (Addr × Obj))
   (pos : Nat) (t1 t2 tp : Tok) (eof : Bool) (rem : List Nat)
   (hx : dx < x) (hxy : x < dy) (hy : dy < y) (hr : ∀ p ∈ rest, p.1 ≠ dy) (hr2 : ∀ p ∈ rest, p.1 ≠ dx)
   (hb : buf.length ≤ 1000) (hP : lexRun 32 [] false (buf.cps.toList.drop pos) = some ([], false, eof, rem)) (hpos : pos ≤ buf.length)
   (dp un : Nat) (gd : Option (List Code)) (cn : Str) (cs : Scope) (a : Addr) (ccd : Value) (cl : List (Str × Addr)) (outer : List Env) (A₀ : Around) (base h₀ : Heap) (L : Addr) (m : Str → Option Value) (s : Shared) (Q E : Value → Shared → Prop)
    (B : Below A₀ base outer h₀) (F : Fr h₀ L s.heap m) (X : (Mine.kk w.params).In h₀) (T : Top Mine.vq (looseW Mine.vq Mine.lo) mean mg mb h₀) (hcs : cs.kind = .function)
    (N : News h₀ L s.heap ((x, instObj 870 dx) :: (dx, dictOf (lexD hs ts y q1 q2 (.str (Str.ofString " ") t1) (Str.ofString "") t2 vt) 19) :: (y, instObj 735 dy) :: (dy, dictOf (sioD hs ts nl buf tb pos tp) 3) :: rest))
    (hdp : dp + 40 < recursionLimit) (hun : un + 150 < cLine)
    (hret : ∀ h' tk' (t1' t2' tp' : Tok) (pos' : Nat), buf.cps.toList.drop pos' = rem → pos' ≤ buf.length → Fr h₀ L h' m → News h₀ L h' ((x, instObj 870 dx) :: (dx, dictOf (lexD hs ts y q1 q2 (if eof = true then .none else .str (Str.ofString " ") t1') (Str.ofString "") t2' vt) 19) :: (y, instObj 735 dy) :: (dy, dictOf (sioD hs ts nl buf tb pos' tp') 3) :: rest) → Q .none { s with heap := h', toks := tk' }) :
      wpAny (model pg w) (ktrTop dp un gd cn cs L a ccd cl outer) (call (.ref 838) [.ref x]) Q E s := by
  have f0 : (toS [] == Str.ofString "") = true := by decide
  refine wpAny_call ?_; k_dflt (walk_at "my enter")
  k_steps
  unfold Halt
  k_dflt (refine' rt_loop _ _ _ _ _ _ _ _ _ _ _ _ _ _ _ _ _ ⟨32, [], false, _, _, _, _⟩ _ ([], false, eof, rem) ?hx ?hxy ?hy ?hr ?hr2 ?hb ?hP _ _ _ _ _ _ _ _ _ _ _ _ ?B ?F ?X ?N ?T ?hm ?hdp ?hun ?hE ?_)
  (case B => k_asm)
  (case F => k_asm)
  (case X => k_asm)
  (case N => k_asm)
  (case T => k_asm)
  (case hx => assumption)
  (case hxy => assumption)
  (case hy => assumption)
  (case hr => assumption)
  (case hr2 => assumption)
  (case hb => assumption)
  (case hP => exact ⟨hP, by simp, hpos, fun _ => ⟨rfl, rfl⟩⟩)
  (case hm => (intro p hp; simp only [List.mem_cons, List.not_mem_nil, or_false] at hp; rcases hp with rfl | rfl | rfl <;> rfl))
  (case hdp => ktr_room)
  (case hun => ktr_units)
  (case hE => passes_own)
  k_whole
  intro m9 h9 tk9 t1_9 t2_9 tp_9 pos9 hl9 hd9 hp9 F9 N9
  replace F9 := fr_of_loc hl9 F9
  try dsimp only
  k_steps
  all_goals exact hret _ _ _ _ _ _ hd9 hp9 (by k_asm) (by k_asm)
end Mine
end
example : True ∧ True := by (w_top off; walk1 <;> exact True.intro)
section
local macro_rules | `(tactic| walk_at "zz") => `(tactic| skip)
example : True ∧ True := by (w_top off; walk1 <;> exact True.intro)
end
section
namespace Mine
local macro_rules | `(tactic| walk_at "ite") => `(tactic| first | with_reducible refine ite_neg (by with_reducible assumption) ?_ | with_reducible refine ite_pos (by with_reducible assumption) ?_ | with_reducible refine ite_f (by with_reducible assumption) ?_ | with_reducible refine ite_t (by with_reducible assumption) ?_ | (k_closed; first | refine ite_pos (by decide +kernel) ?_ | refine ite_neg (by decide +kernel) ?_))
local macro_rules | `(tactic| walk_at "exec While Compare cons nil") => `(tactic| (k_here; k_dflt (refine whl_start 100 ?_)))
local macro_rules | `(tactic| walk_at "truthy ref") => `(tactic| (k_here; k_dflt (refine' dq_truthy ?k1 ?_; (case k1 => exact (News.get (by k_asm) (by k_mem))); k_whole)))
section
example : True := by ((k_with "rtk1" => (k_here; (with_reducible show wpAny _ _ (call (Value.ref 838) _ _) _ _ _); k_dflt (refine' rtk_1 _ _ _ _ _ _ _ _ _ _ _ _ _ _ _ _ _ _ _ _ _ _ _ _ _ ?hxrtk1 ?hxyrtk1 ?hyrtk1 ?hrrtk1 ?hr2rtk1 ?hbrtk1 ?hPrtk1 ?hposrtk1 ?hnertk1 _ _ _ _ _ _ _ _ _ _ _ _ _ _ _ _ _ ?Brtk1 ?Frtk1 ?Xrtk1 ?Trtk1 ?hcsrtk1 ?Nrtk1 ?hdprtk1 ?hunrtk1 ?_; (case Brtk1 => k_asm); (case Frtk1 => k_asm); (case Xrtk1 => k_asm); (case Nrtk1 => k_asm); (case Trtk1 => k_asm); (case hcsrtk1 => exact rfl); (case hxrtk1 => assumption); (case hxyrtk1 => assumption); (case hyrtk1 => assumption); (case hrrtk1 => assumption); (case hr2rtk1 => assumption); (case hbrtk1 => assumption); (case hPrtk1 => assumption); (case hposrtk1 => assumption); (case hnertk1 => assumption); (case hdprtk1 => ktr_room); (case hunrtk1 => ktr_units); k_whole); intro _ _ _ _ _ _ _ _ _ _ _; (try dsimp only); (try k_fold))); trivial)
local macro_rules | `(tactic| walk_at "call ref") => `(tactic| k_extra "rtk1")
theorem gt_1 (w : World) (mean : ExcName → Option Value) (mg mb : Str → Option Value) (x dx y dy q1 q2 : Nat) (hs : Nat → Int) (ts vt : Nat → Tok) (tb : Tok) (nl : Value) (buf : Str) (rest : List (Addr × Obj))
   (pos : Nat) (t1 t2 tp : Tok) (tok : List Nat) (quo eof : Bool) (rem : List Nat)
   (hx : dx < x) (hxy : x < dy) (hy : dy < y) (hq1 : y < q1) (hq2 : q1 < q2) (hr0 : ∀ p ∈ rest, p.1 ≠ dx ∧ p.1 ≠ dy)
   (hb : buf.length ≤ 1000) (hP : lexRun 32 [] false (buf.cps.toList.drop pos) = some (tok, quo, eof, rem)) (hpos : pos ≤ buf.length) (hne : tok ≠ [])
   (dp un : Nat) (gd : Option (List Code)) (cn : Str) (cs : Scope) (a : Addr) (ccd : Value) (cl : List (Str × Addr)) (outer : List Env) (A₀ : Around) (base h₀ : Heap) (L : Addr) (m : Str → Option Value) (s : Shared) (Q E : Value → Shared → Prop)
    (B : Below A₀ base outer h₀) (F : Fr h₀ L s.heap m) (X : (Mine.kk w.params).In h₀) (T : Top Mine.vq (looseW Mine.vq Mine.lo) mean mg mb h₀) (hcs : cs.kind = .function)
    (N : News h₀ L s.heap ((x, instObj 870 dx) :: (dx, dictOf (lexD hs ts y q1 q2 (.str (Str.ofString " ") t1) (Str.ofString "") t2 vt) 19) :: (y, instObj 735 dy) :: (dy, dictOf (sioD hs ts nl buf tb pos tp) 3) :: (q1, deqO) :: (q2, deqO) :: rest))
    (hdp : dp + 50 < recursionLimit) (hun : un + 200 < cLine)
    (hret : ∀ h' tk' (t1' t2' tp' tt : Tok) (pos' : Nat), buf.cps.toList.drop pos' = rem → pos' ≤ buf.length → Fr h₀ L h' m → News h₀ L h' ((x, instObj 870 dx) :: (dx, dictOf (lexD hs ts y q1 q2 (if eof = true then .none else .str (Str.ofString " ") t1') (Str.ofString "") t2' vt) 19) :: (y, instObj 735 dy) :: (dy, dictOf (sioD hs ts nl buf tb pos' tp') 3) :: (q1, deqO) :: (q2, deqO) :: rest) → Q (.str (toS tok) tt) { s with heap := h', toks := tk' }) :
      wpAny (model pg w) (ktrTop dp un gd cn cs L a ccd cl outer) (call (.ref 831) [.ref x]) Q E s := by
  have hr : ∀ p ∈ (q1, deqO) :: (q2, deqO) :: rest, p.1 ≠ dy := by
    intro p hp
    rcases List.mem_cons.mp hp with rfl | hp
    · show q1 ≠ dy; omega
    · rcases List.mem_cons.mp hp with rfl | hp
      · show q2 ≠ dy; omega
      · exact (hr0 p hp).2
  have hr2 : ∀ p ∈ (q1, deqO) :: (q2, deqO) :: rest, p.1 ≠ dx := by
    intro p hp
    rcases List.mem_cons.mp hp with rfl | hp
    · show q1 ≠ dx; omega
    · rcases List.mem_cons.mp hp with rfl | hp
      · show q2 ≠ dx; omega
      · exact (hr0 p hp).1
  refine wpAny_call ?_; k_dflt (walk_at "my enter")
  k_steps
  all_goals exact hret _ _ _ _ _ _ _ (by assumption) (by assumption) (by k_asm) (by k_asm)
end
end Mine
end
example : True ∧ True := by (w_top off; walk1 <;> exact True.intro)
section
local macro_rules | `(tactic| walk_at "zz") => `(tactic| skip)
example : True ∧ True := by (w_top off; walk1 <;> exact True.intro)
end
section
namespace Mine
local macro_rules | `(tactic| walk_at "ite") => `(tactic| first | with_reducible refine ite_neg (by with_reducible assumption) ?_ | with_reducible refine ite_pos (by with_reducible assumption) ?_ | with_reducible refine ite_f (by with_reducible assumption) ?_ | with_reducible refine ite_t (by with_reducible assumption) ?_ | (k_closed; first | refine ite_pos (by decide +kernel) ?_ | refine ite_neg (by decide +kernel) ?_))
example : True := by ((k_with "gt1" => (k_here; (with_reducible show wpAny _ _ (call (Value.ref 831) _ _) _ _ _); k_dflt (refine' gt_1 _ _ _ _ _ _ _ _ _ _ _ _ _ _ _ _ _ _ _ _ _ _ _ _ _ ?hxgt1 ?hxygt1 ?hygt1 ?hq1gt1 ?hq2gt1 ?hr0gt1 ?hbgt1 ?hPgt1 ?hposgt1 ?hnegt1 _ _ _ _ _ _ _ _ _ _ _ _ _ _ _ _ _ ?Bgt1 ?Fgt1 ?Xgt1 ?Tgt1 ?hcsgt1 ?Ngt1 ?hdpgt1 ?hungt1 ?_; (case Bgt1 => k_asm); (case Fgt1 => k_asm); (case Xgt1 => k_asm); (case Ngt1 => k_asm); (case Tgt1 => k_asm); (case hcsgt1 => exact rfl); (case hxgt1 => assumption); (case hxygt1 => assumption); (case hygt1 => assumption); (case hq1gt1 => assumption); (case hq2gt1 => assumption); (case hr0gt1 => assumption); (case hbgt1 => assumption); (case hPgt1 => assumption); (case hposgt1 => assumption); (case hnegt1 => assumption); (case hdpgt1 => ktr_room); (case hungt1 => ktr_units); k_whole); intro _ _ _ _ _ _ _ _ _ _ _; (try dsimp only); (try k_fold))); trivial)
local macro_rules | `(tactic| walk_at "call ref") => `(tactic| k_extra "gt1")
theorem nx_1 (w : World) (mean : ExcName → Option Value) (mg mb : Str → Option Value) (x dx y dy q1 q2 : Nat) (hs : Nat → Int) (ts vt : Nat → Tok) (tb : Tok) (nl : Value) (buf : Str) (rest : List (Addr × Obj))
   (pos : Nat) (t1 t2 tp : Tok) (tok : List Nat) (quo eof : Bool) (rem : List Nat)
   (hx : dx < x) (hxy : x < dy) (hy : dy < y) (hq1 : y < q1) (hq2 : q1 < q2) (hr0 : ∀ p ∈ rest, p.1 ≠ dx ∧ p.1 ≠ dy)
   (hb : buf.length ≤ 1000) (hP : lexRun 32 [] false (buf.cps.toList.drop pos) = some (tok, quo, eof, rem)) (hpos : pos ≤ buf.length) (hne : tok ≠ [])
   (dp un : Nat) (gd : Option (List Code)) (cn : Str) (cs : Scope) (a : Addr) (ccd : Value) (cl : List (Str × Addr)) (outer : List Env) (A₀ : Around) (base h₀ : Heap) (L : Addr) (m : Str → Option Value) (s : Shared) (Q E : Value → Shared → Prop)
    (B : Below A₀ base outer h₀) (F : Fr h₀ L s.heap m) (X : (Mine.kk w.params).In h₀) (T : Top Mine.vq (looseW Mine.vq Mine.lo) mean mg mb h₀) (hcs : cs.kind = .function)
    (N : News h₀ L s.heap ((x, instObj 870 dx) :: (dx, dictOf (lexD hs ts y q1 q2 (.str (Str.ofString " ") t1) (Str.ofString "") t2 vt) 19) :: (y, instObj 735 dy) :: (dy, dictOf (sioD hs ts nl buf tb pos tp) 3) :: (q1, deqO) :: (q2, deqO) :: rest))
    (hdp : dp + 60 < recursionLimit) (hun : un + 250 < cLine)
    (hret : ∀ h' tk' (t1' t2' tp' tt : Tok) (pos' : Nat), buf.cps.toList.drop pos' = rem → pos' ≤ buf.length → Fr h₀ L h' m → News h₀ L h' ((x, instObj 870 dx) :: (dx, dictOf (lexD hs ts y q1 q2 (if eof = true then .none else .str (Str.ofString " ") t1') (Str.ofString "") t2' vt) 19) :: (y, instObj 735 dy) :: (dy, dictOf (sioD hs ts nl buf tb pos' tp') 3) :: (q1, deqO) :: (q2, deqO) :: rest) → Q (.str (toS tok) tt) { s with heap := h', toks := tk' }) :
      wpAny (model pg w) (ktrTop dp un gd cn cs L a ccd cl outer) (call (.ref 867) [.ref x]) Q E s := by
  refine wpAny_call ?_; k_dflt (walk_at "my enter")
  k_steps
  all_goals exact hret _ _ _ _ _ _ _ (by assumption) (by assumption) (by k_asm) (by k_asm)
end Mine
end
example : True ∧ True := by (w_top off; walk1 <;> exact True.intro)
section
local macro_rules | `(tactic| walk_at "zz") => `(tactic| skip)
example : True ∧ True := by (w_top off; walk1 <;> exact True.intro)
end
section
namespace Mine
local macro_rules | `(tactic| walk_at "ite") => `(tactic| first | with_reducible refine ite_neg (by with_reducible assumption) ?_ | with_reducible refine ite_pos (by with_reducible assumption) ?_ | with_reducible refine ite_f (by with_reducible assumption) ?_ | with_reducible refine ite_t (by with_reducible assumption) ?_ | (k_closed; first | refine ite_pos (by decide +kernel) ?_ | refine ite_neg (by decide +kernel) ?_))
local macro_rules | `(tactic| walk_at "exec While Compare cons nil") => `(tactic| (k_here; k_dflt (refine whl_start 100 ?_)))
local macro_rules | `(tactic| walk_at "truthy ref") => `(tactic| (k_here; k_dflt (refine' dq_truthy ?k1 ?_; (case k1 => exact (News.get (by k_asm) (by k_mem))); k_whole)))
section
example : True := by ((k_with "rtk2" => (k_here; (with_reducible show wpAny _ _ (call (Value.ref 838) _ _) _ _ _); k_dflt (refine' rtk_2 _ _ _ _ _ _ _ _ _ _ _ _ _ _ _ _ _ _ _ _ _ _ _ ?hxrtk2 ?hxyrtk2 ?hyrtk2 ?hrrtk2 ?hr2rtk2 ?hbrtk2 ?hPrtk2 ?hposrtk2 _ _ _ _ _ _ _ _ _ _ _ _ _ _ _ _ _ ?Brtk2 ?Frtk2 ?Xrtk2 ?Trtk2 ?hcsrtk2 ?Nrtk2 ?hdprtk2 ?hunrtk2 ?_; (case Brtk2 => k_asm); (case Frtk2 => k_asm); (case Xrtk2 => k_asm); (case Nrtk2 => k_asm); (case Trtk2 => k_asm); (case hcsrtk2 => exact rfl); (case hxrtk2 => assumption); (case hxyrtk2 => assumption); (case hyrtk2 => assumption); (case hrrtk2 => assumption); (case hr2rtk2 => assumption); (case hbrtk2 => assumption); (case hPrtk2 => assumption); (case hposrtk2 => assumption); (case hdprtk2 => ktr_room); (case hunrtk2 => ktr_units); k_whole); intro _ _ _ _ _ _ _ _ _ _; (try dsimp only); (try k_fold))); trivial)
local macro_rules | `(tactic| walk_at "call ref") => `(tactic| k_extra "rtk2")
theorem gt_2 (w : World) (mean : ExcName → Option Value) (mg mb : Str → Option Value) (x dx y dy q1 q2 : Nat) (hs : Nat → Int) (ts vt : Nat → Tok) (tb : Tok) (nl : Value) (buf : Str) (rest : List (Addr × Obj))
   (pos : Nat) (t1 t2 tp : Tok) (eof : Bool) (rem : List Nat)
   (hx : dx < x) (hxy : x < dy) (hy : dy < y) (hq1 : y < q1) (hq2 : q1 < q2) (hr0 : ∀ p ∈ rest, p.1 ≠ dx ∧ p.1 ≠ dy)
   (hb : buf.length ≤ 1000) (hP : lexRun 32 [] false (buf.cps.toList.drop pos) = some ([], false, eof, rem)) (hpos : pos ≤ buf.length)
   (dp un : Nat) (gd : Option (List Code)) (cn : Str) (cs : Scope) (a : Addr) (ccd : Value) (cl : List (Str × Addr)) (outer : List Env) (A₀ : Around) (base h₀ : Heap) (L : Addr) (m : Str → Option Value) (s : Shared) (Q E : Value → Shared → Prop)
    (B : Below A₀ base outer h₀) (F : Fr h₀ L s.heap m) (X : (Mine.kk w.params).In h₀) (T : Top Mine.vq (looseW Mine.vq Mine.lo) mean mg mb h₀) (hcs : cs.kind = .function)
    (N : News h₀ L s.heap ((x, instObj 870 dx) :: (dx, dictOf (lexD hs ts y q1 q2 (.str (Str.ofString " ") t1) (Str.ofString "") t2 vt) 19) :: (y, instObj 735 dy) :: (dy, dictOf (sioD hs ts nl buf tb pos tp) 3) :: (q1, deqO) :: (q2, deqO) :: rest))
    (hdp : dp + 50 < recursionLimit) (hun : un + 200 < cLine)
    (hret : ∀ h' tk' (t1' t2' tp' : Tok) (pos' : Nat), Fr h₀ L h' m → News h₀ L h' ((x, instObj 870 dx) :: (dx, dictOf (lexD hs ts y q1 q2 (if eof = true then .none else .str (Str.ofString " ") t1') (Str.ofString "") t2' vt) 19) :: (y, instObj 735 dy) :: (dy, dictOf (sioD hs ts nl buf tb pos' tp') 3) :: (q1, deqO) :: (q2, deqO) :: rest) → Q .none { s with heap := h', toks := tk' }) :
      wpAny (model pg w) (ktrTop dp un gd cn cs L a ccd cl outer) (call (.ref 831) [.ref x]) Q E s := by
  have hr : ∀ p ∈ (q1, deqO) :: (q2, deqO) :: rest, p.1 ≠ dy := by
    intro p hp
    rcases List.mem_cons.mp hp with rfl | hp
    · show q1 ≠ dy; omega
    · rcases List.mem_cons.mp hp with rfl | hp
      · show q2 ≠ dy; omega
      · exact (hr0 p hp).2
  have hr2 : ∀ p ∈ (q1, deqO) :: (q2, deqO) :: rest, p.1 ≠ dx := by
    intro p hp
    rcases List.mem_cons.mp hp with rfl | hp
    · show q1 ≠ dx; omega
    · rcases List.mem_cons.mp hp with rfl | hp
      · show q2 ≠ dx; omega
      · exact (hr0 p hp).1
  refine wpAny_call ?_; k_dflt (walk_at "my enter")
  k_steps
  all_goals exact hret _ _ _ _ _ _ (by k_asm) (by k_asm)
end
end Mine
end
example : True ∧ True := by (w_top off; walk1 <;> exact True.intro)
section
local macro_rules | `(tactic| walk_at "zz") => `(tactic| skip)
example : True ∧ True := by (w_top off; walk1 <;> exact True.intro)
end
section
namespace Mine
local macro_rules | `(tactic| walk_at "ite") => `(tactic| first | with_reducible refine ite_neg (by with_reducible assumption) ?_ | with_reducible refine ite_pos (by with_reducible assumption) ?_ | with_reducible refine ite_f (by with_reducible assumption) ?_ | with_reducible refine ite_t (by with_reducible assumption) ?_ | (k_closed; first | refine ite_pos (by decide +kernel) ?_ | refine ite_neg (by decide +kernel) ?_))
local macro_rules | `(tactic| walk_at "exec While Compare cons nil") => `(tactic| (k_here; k_dflt (refine whl_start 100 ?_)))
local macro_rules | `(tactic| walk_at "truthy ref") => `(tactic| (k_here; k_dflt (refine' dq_truthy ?k1 ?_; (case k1 => exact (News.get (by k_asm) (by k_mem))); k_whole)))
section
example : True := by ((k_with "rtk3" => (k_here; (with_reducible show wpAny _ _ (call (Value.ref 838) _ _) _ _ _); k_dflt (refine' rtk_3 _ _ _ _ _ _ _ _ _ _ _ _ _ _ _ _ _ _ 0 _ _ ?hxrtk3 ?hxyrtk3 ?hyrtk3 ?hrrtk3 ?hr2rtk3 ?hbrtk3 ?hcrtk3 _ _ _ _ _ _ _ _ _ _ _ _ _ _ _ _ _ ?Brtk3 ?Frtk3 ?Xrtk3 ?Trtk3 ?hcsrtk3 ?Nrtk3 ?hdprtk3 ?hunrtk3 ?_; (case Brtk3 => k_asm); (case Frtk3 => k_asm); (case Xrtk3 => k_asm); (case Nrtk3 => k_asm); (case Trtk3 => k_asm); (case hcsrtk3 => exact rfl); (case hxrtk3 => assumption); (case hxyrtk3 => assumption); (case hyrtk3 => assumption); (case hrrtk3 => assumption); (case hr2rtk3 => assumption); (case hbrtk3 => assumption); (case hcrtk3 => assumption); (case hdprtk3 => ktr_room); (case hunrtk3 => ktr_units); k_whole); intro _ _ _ _ _ _; (try dsimp only); (try k_fold))); trivial)
local macro_rules | `(tactic| walk_at "call ref") => `(tactic| k_extra "rtk3")
theorem gt_3 (w : World) (mean : ExcName → Option Value) (mg mb : Str → Option Value) (x dx y dy q1 q2 : Nat) (hs : Nat → Int) (ts vt : Nat → Tok) (tb : Tok) (nl : Value) (buf : Str) (rest : List (Addr × Obj))
   (pos : Nat) (t1 t2 tp : Tok)
   (hx : dx < x) (hxy : x < dy) (hy : dy < y) (hq1 : y < q1) (hq2 : q1 < q2) (hr0 : ∀ p ∈ rest, p.1 ≠ dx ∧ p.1 ≠ dy)
   (hb : buf.length ≤ 1000) (hc : buf.cps.toList.drop pos = [])
   (dp un : Nat) (gd : Option (List Code)) (cn : Str) (cs : Scope) (a : Addr) (ccd : Value) (cl : List (Str × Addr)) (outer : List Env) (A₀ : Around) (base h₀ : Heap) (L : Addr) (m : Str → Option Value) (s : Shared) (Q E : Value → Shared → Prop)
    (B : Below A₀ base outer h₀) (F : Fr h₀ L s.heap m) (X : (Mine.kk w.params).In h₀) (T : Top Mine.vq (looseW Mine.vq Mine.lo) mean mg mb h₀) (hcs : cs.kind = .function)
    (N : News h₀ L s.heap ((x, instObj 870 dx) :: (dx, dictOf (lexD hs ts y q1 q2 .none (Str.ofString "") t2 vt) 19) :: (y, instObj 735 dy) :: (dy, dictOf (sioD hs ts nl buf tb pos tp) 3) :: (q1, deqO) :: (q2, deqO) :: rest))
    (hdp : dp + 50 < recursionLimit) (hun : un + 200 < cLine)
    (hret : ∀ h' tk' (t2' tp' : Tok), Fr h₀ L h' m → News h₀ L h' ((x, instObj 870 dx) :: (dx, dictOf (lexD hs ts y q1 q2 .none (Str.ofString "") t2' vt) 19) :: (y, instObj 735 dy) :: (dy, dictOf (sioD hs ts nl buf tb pos tp') 3) :: (q1, deqO) :: (q2, deqO) :: rest) → Q .none { s with heap := h', toks := tk' }) :
      wpAny (model pg w) (ktrTop dp un gd cn cs L a ccd cl outer) (call (.ref 831) [.ref x]) Q E s := by
  have hr : ∀ p ∈ (q1, deqO) :: (q2, deqO) :: rest, p.1 ≠ dy := by
    intro p hp
    rcases List.mem_cons.mp hp with rfl | hp
    · show q1 ≠ dy; omega
    · rcases List.mem_cons.mp hp with rfl | hp
      · show q2 ≠ dy; omega
      · exact (hr0 p hp).2
  have hr2 : ∀ p ∈ (q1, deqO) :: (q2, deqO) :: rest, p.1 ≠ dx := by
    intro p hp
    rcases List.mem_cons.mp hp with rfl | hp
    · show q1 ≠ dx; omega
    · rcases List.mem_cons.mp hp with rfl | hp
      · show q2 ≠ dx; omega
      · exact (hr0 p hp).1
  refine wpAny_call ?_; k_dflt (walk_at "my enter")
  k_steps
  all_goals exact hret _ _ _ _ (by k_asm) (by k_asm)
end
end Mine
end
example : True ∧ True := by (w_top off; walk1 <;> exact True.intro)
section
local macro_rules | `(tactic| walk_at "zz") => `(tactic| skip)
example : True ∧ True := by (w_top off; walk1 <;> exact True.intro)
end
section
namespace Mine
local macro_rules | `(tactic| walk_at "ite") => `(tactic| first | with_reducible refine ite_neg (by with_reducible assumption) ?_ | with_reducible refine ite_pos (by with_reducible assumption) ?_ | with_reducible refine ite_f (by with_reducible assumption) ?_ | with_reducible refine ite_t (by with_reducible assumption) ?_ | (k_closed; first | refine ite_pos (by decide +kernel) ?_ | refine ite_neg (by decide +kernel) ?_))
theorem raisedS_sub {base G : Heap} {l : List Env} {e t : Addr} {cls : Value} {vs : List Value} {news news' : List (Addr × Obj)} {h : Heap} (R : RaisedS base G l e cls t vs news h) (k : ∀ q ∈ news', q ∈ news) : RaisedS base G l e cls t vs news' h := by
  obtain ⟨⟨B, h1, h2, h3, h4, h5⟩, h6⟩ := R
  exact ⟨⟨B, h1, h2, fun q hq => h3 q (k q hq), h4, h5⟩, h6⟩
example : True := by ((k_with "gt3" => (k_here; (with_reducible show wpAny _ _ (call (Value.ref 831) _ _) _ _ _); k_dflt (refine' gt_3 _ _ _ _ _ _ _ _ _ _ _ _ _ _ _ _ _ _ 0 _ _ ?hxgt3 ?hxygt3 ?hygt3 ?hq1gt3 ?hq2gt3 ?hr0gt3 ?hbgt3 ?hcgt3 _ _ _ _ _ _ _ _ _ _ _ _ _ _ _ _ _ ?Bgt3 ?Fgt3 ?Xgt3 ?Tgt3 ?hcsgt3 ?Ngt3 ?hdpgt3 ?hungt3 ?_; (case Bgt3 => k_asm); (case Fgt3 => k_asm); (case Xgt3 => k_asm); (case Ngt3 => k_asm); (case Tgt3 => k_asm); (case hcsgt3 => exact rfl); (case hxgt3 => assumption); (case hxygt3 => assumption); (case hygt3 => assumption); (case hq1gt3 => assumption); (case hq2gt3 => assumption); (case hr0gt3 => assumption); (case hbgt3 => assumption); (case hcgt3 => assumption); (case hdpgt3 => ktr_room); (case hungt3 => ktr_units); k_whole); intro _ _ _ _ _ _; (try dsimp only); (try k_fold))); trivial)
local macro_rules | `(tactic| walk_at "call ref") => `(tactic| k_extra "gt3")
theorem nx_3 (w : World) (mean : ExcName → Option Value) (mg mb : Str → Option Value) (x dx y dy q1 q2 : Nat) (hs : Nat → Int) (ts vt : Nat → Tok) (tb : Tok) (nl : Value) (buf : Str) (rest : List (Addr × Obj))
   (pos : Nat) (t1 t2 tp : Tok)
   (hx : dx < x) (hxy : x < dy) (hy : dy < y) (hq1 : y < q1) (hq2 : q1 < q2) (hr0 : ∀ p ∈ rest, p.1 ≠ dx ∧ p.1 ≠ dy)
   (hb : buf.length ≤ 1000) (hc : buf.cps.toList.drop pos = [])
   (dp un : Nat) (gd : Option (List Code)) (cn : Str) (cs : Scope) (a : Addr) (ccd : Value) (cl : List (Str × Addr)) (outer : List Env) (A₀ : Around) (base h₀ : Heap) (L : Addr) (m : Str → Option Value) (s : Shared) (Q E : Value → Shared → Prop)
    (B : Below A₀ base outer h₀) (F : Fr h₀ L s.heap m) (X : (Mine.kk w.params).In h₀) (T : Top Mine.vq (looseW Mine.vq Mine.lo) mean mg mb h₀) (hcs : cs.kind = .function)
    (N : News h₀ L s.heap ((x, instObj 870 dx) :: (dx, dictOf (lexD hs ts y q1 q2 .none (Str.ofString "") t2 vt) 19) :: (y, instObj 735 dy) :: (dy, dictOf (sioD hs ts nl buf tb pos tp) 3) :: (q1, deqO) :: (q2, deqO) :: rest))
    (hdp : dp + 60 < recursionLimit) (hun : un + 250 < cLine)
    (hret : ∀ e t g' h' tk', Fr h₀ L g' m → g'.UpToSlots h' → RaisedS base g' (envX cn cs L a ccd cl :: outer) e (.type "StopIteration") t [] rest h' → E (.ref e) { s with heap := h', toks := tk' }) :
      wpAny (model pg w) (ktrTop dp un gd cn cs L a ccd cl outer) (call (.ref 867) [.ref x]) Q E s := by
  have D0 := ktsDicts_nil (g := h₀)
  refine wpAny_call ?_; k_dflt (walk_at "my enter")
  k_steps
  all_goals exact hret _ _ _ _ _ (by assumption) (by assumption) (raisedS_sub (by assumption) (fun q hq => by simp [hq]))
end Mine
end
example : True ∧ True := by (w_top off; walk1 <;> exact True.intro)
section
local macro_rules | `(tactic| walk_at "zz") => `(tactic| skip)
example : True ∧ True := by (w_top off; walk1 <;> exact True.intro)
end
section
namespace Mine
local macro_rules | `(tactic| walk_at "ite") => `(tactic| first | with_reducible refine ite_neg (by with_reducible assumption) ?_ | with_reducible refine ite_pos (by with_reducible assumption) ?_ | with_reducible refine ite_f (by with_reducible assumption) ?_ | with_reducible refine ite_t (by with_reducible assumption) ?_ | (k_closed; first | refine ite_pos (by decide +kernel) ?_ | refine ite_neg (by decide +kernel) ?_))
example : True := by ((k_with "gt2" => (k_here; (with_reducible show wpAny _ _ (call (Value.ref 831) _ _) _ _ _); k_dflt (refine' gt_2 _ _ _ _ _ _ _ _ _ _ _ _ _ _ _ _ _ _ _ _ _ _ _ ?hxgt2 ?hxygt2 ?hygt2 ?hq1gt2 ?hq2gt2 ?hr0gt2 ?hbgt2 ?hPgt2 ?hposgt2 _ _ _ _ _ _ _ _ _ _ _ _ _ _ _ _ _ ?Bgt2 ?Fgt2 ?Xgt2 ?Tgt2 ?hcsgt2 ?Ngt2 ?hdpgt2 ?hungt2 ?_; (case Bgt2 => k_asm); (case Fgt2 => k_asm); (case Xgt2 => k_asm); (case Ngt2 => k_asm); (case Tgt2 => k_asm); (case hcsgt2 => exact rfl); (case hxgt2 => assumption); (case hxygt2 => assumption); (case hygt2 => assumption); (case hq1gt2 => assumption); (case hq2gt2 => assumption); (case hr0gt2 => assumption); (case hbgt2 => assumption); (case hPgt2 => assumption); (case hposgt2 => assumption); (case hdpgt2 => ktr_room); (case hungt2 => ktr_units); k_whole); intro _ _ _ _ _ _ _ _; (try dsimp only); (try k_fold))); trivial)
local macro_rules | `(tactic| walk_at "call ref") => `(tactic| k_extra "gt2")
theorem nx_2 (w : World) (mean : ExcName → Option Value) (mg mb : Str → Option Value) (x dx y dy q1 q2 : Nat) (hs : Nat → Int) (ts vt : Nat → Tok) (tb : Tok) (nl : Value) (buf : Str) (rest : List (Addr × Obj))
   (pos : Nat) (t1 t2 tp : Tok) (eof : Bool) (rem : List Nat)
   (hx : dx < x) (hxy : x < dy) (hy : dy < y) (hq1 : y < q1) (hq2 : q1 < q2) (hr0 : ∀ p ∈ rest, p.1 ≠ dx ∧ p.1 ≠ dy)
   (hb : buf.length ≤ 1000) (hP : lexRun 32 [] false (buf.cps.toList.drop pos) = some ([], false, eof, rem)) (hpos : pos ≤ buf.length)
   (dp un : Nat) (gd : Option (List Code)) (cn : Str) (cs : Scope) (a : Addr) (ccd : Value) (cl : List (Str × Addr)) (outer : List Env) (A₀ : Around) (base h₀ : Heap) (L : Addr) (m : Str → Option Value) (s : Shared) (Q E : Value → Shared → Prop)
    (B : Below A₀ base outer h₀) (F : Fr h₀ L s.heap m) (X : (Mine.kk w.params).In h₀) (T : Top Mine.vq (looseW Mine.vq Mine.lo) mean mg mb h₀) (hcs : cs.kind = .function)
    (N : News h₀ L s.heap ((x, instObj 870 dx) :: (dx, dictOf (lexD hs ts y q1 q2 (.str (Str.ofString " ") t1) (Str.ofString "") t2 vt) 19) :: (y, instObj 735 dy) :: (dy, dictOf (sioD hs ts nl buf tb pos tp) 3) :: (q1, deqO) :: (q2, deqO) :: rest))
    (hdp : dp + 60 < recursionLimit) (hun : un + 250 < cLine)
    (hret : ∀ e t g' h' tk', Fr h₀ L g' m → g'.UpToSlots h' → RaisedS base g' (envX cn cs L a ccd cl :: outer) e (.type "StopIteration") t [] rest h' → E (.ref e) { s with heap := h', toks := tk' }) :
      wpAny (model pg w) (ktrTop dp un gd cn cs L a ccd cl outer) (call (.ref 867) [.ref x]) Q E s := by
  have D0 := ktsDicts_nil (g := h₀)
  refine wpAny_call ?_; k_dflt (walk_at "my enter")
  k_steps
  all_goals exact hret _ _ _ _ _ (by assumption) (by assumption) (raisedS_sub (by assumption) (fun q hq => by simp [hq]))
end Mine
end
section
set_option maxHeartbeats 4000000
namespace Mine
section
variable {prog : Program} {w : World} {A : Around} {E : Value → Shared → Prop} {s : Shared} {h₀ : Heap} {L x C fi : Addr} {m : Str → Option Value} {news : List (Addr × Obj)} {K : Frag} {dx : Addr} {od : Obj} {Q : Value → Shared → Prop}
/-- `list(x)` for an object of an own class whose `__iter__` gives the object itself: all but the loop. -/
theorem call_list_own (F : Fr h₀ L s.heap m) (X₀ : K.In h₀) (N : News h₀ L s.heap news) (hx : (x, instObj C dx) ∈ news) (hd : (dx, od) ∈ news)
    (hs1 : findIn K (.ref C) "__iter__" = some (some (.ref fi))) (hf : isFn K (.ref fi) = true)
    (hl : findIn K (.ref C) "__len__" = some none) (hh : findIn K (.ref C) "__length_hint__" = some none) {nx : Value} (hn : findIn K (.ref C) "__next__" = some (some nx))
    (hiter : ∀ S (s' : Shared) c (Q' : Value → Shared → Prop) E', (∀ p ∈ news, p.1 < S) → Fr h₀ L s'.heap m → News h₀ L s'.heap ((S, listOf #[] c) :: news) →
      (∀ h' tk', Fr h₀ L h' m → News h₀ L h' ((S, listOf #[] c) :: news) → Q' (.ref x) { s' with heap := h', toks := tk' }) → wpAny (model prog w) A.in1.in1 (call (.ref fi) [.ref x]) Q' E' s')
    (hloop : ∀ S h' tk' c, (∀ p ∈ news, p.1 < S) → Fr h₀ L h' m → News h₀ L h' ((S, listOf #[] c) :: news) →
      codeAny (model prog w) A.in1 (.builtin "list.extend.loop" ⟨[.ref S, .ref x, .none], []⟩) (wants (fun r s₂ => r = .none ∧ Q (.ref S) s₂) E) { s with heap := h', toks := tk' }) :
    wpAny (model prog w) A (call (.type "list") [.ref x]) Q E s := by
  refine callType_codes (Q₁ := fun obj s₁ => obj = .ref s.heap.objs.size ∧ s₁ = { s with heap := s.heap.push { cls := .type "list", data := .seq #[] } }) PySem.F.called_list (PySem.F.typeCall_list_1 _) PySem.F.entry_list_init
    (code_list_new _ ⟨rfl, rfl⟩) fun obj s₁ h₁ => ?_
  obtain ⟨rfl, rfl⟩ := h₁
  have hlt : ∀ p ∈ news, p.1 < s.heap.objs.size := fun p hp => Heap.lt_size (N p hp).1
  have hS : (s.heap.push { cls := .type "list", data := .seq #[] }).get? s.heap.objs.size = some { cls := .type "list", data := .seq #[] } := Heap.get?_push_size _ rfl
  have F1 : Fr h₀ L (s.heap.push { cls := .type "list", data := .seq #[] }) m := F.keeps fun b o e => Heap.get?_push_of_some _ e
  have N1 : News h₀ L (s.heap.push { cls := .type "list", data := .seq #[] }) ((s.heap.objs.size, listOf #[] 0) :: news) := news_pushed F N (fun b o e => Heap.get?_push_of_some _ e) hS rfl
  refine ⟨⟨_, hS, rfl⟩, PySem.F.args_list_init_2 _ _, ?_⟩
  generalize hSS : s.heap.objs.size = S at *
  show wpAny _ A.in1.in1 (do let old ← Builtin.List.listItems (.ref S); Builtin.List.listUpdate (.ref S) (fun _ => #[]); letGo old.toList.reverse; Builtin.List.listExtendWith (.ref S) (.ref x) .none) _ _ _
  refine wpAny_bind ?_
  unfold Builtin.List.listItems
  refine wpAny_bind (wpAny_seqItems hS rfl (wpAny_pure ?_))
  show wpAny _ A.in1.in1 (updateSeq S (fun _ => #[]) >>= fun _ => letGo (#[] : Array Value).toList.reverse >>= fun _ => Builtin.List.listExtendWith (.ref S) (.ref x) .none) _ _ _
  refine wpAny_bind (wpAny_updateSeq hS rfl ?_)
  have hp0 : ∀ p ∈ ([] : List (Addr × Obj)), p.1 ≠ S := fun p hp => nomatch hp
  have hp1 : ∀ p ∈ news, p.1 ≠ S := fun p hp => Nat.ne_of_lt (hlt p hp)
  obtain ⟨F2, N2⟩ := news_upd (pre := []) (f := Obj.mapSeq (fun _ => (#[] : Array Value))) (o' := listOf #[] 0) F1 N1 hp0 hp1 rfl rfl
  refine wpAny_bind (wpAny_letGo ?_)
  unfold Builtin.List.listExtendWith
  have I2 : InstAt _ x (instObj C dx) C (some od) := ⟨(N2 (x, instObj C dx) (.tail _ hx)).1, rfl, rfl, (N2 (dx, od) (.tail _ hd)).1⟩
  have X2 := X₀.keeps F2.keep
  refine wpAny_bind (I2.type.here ?_)
  have hSx : S ≠ x := fun e => Nat.lt_irrefl _ (e ▸ hlt _ hx : S < S)
  have h1 : Builtin.List.listSameRef (.ref S) (.ref x) = false := by simp [Builtin.List.listSameRef, hSx]
  have h2 : (Value.ref C == Value.type "list") = false := rfl
  have h3 : (Value.ref C == Value.type "tuple") = false := rfl
  simp only [h1, h2, h3, Bool.or_false, Bool.false_eq_true, if_false]
  refine wpAny_bind (owit_iter F2 X₀ I2 hs1 hf ?_)
  refine hiter S _ 0 _ _ hlt F2 N2 fun h' tk' F3 N3 => ?_
  have I3 : InstAt h' x (instObj C dx) C (some od) := ⟨(N3 (x, instObj C dx) (.tail _ hx)).1, rfl, rfl, (N3 (dx, od) (.tail _ hd)).1⟩
  have X3 := X₀.keeps F3.keep
  refine owit_it F3 X₀ I3 hn ?_
  refine wpAny_bind (wpAny_holding ?_)
  unfold Builtin.List.listLengthHint
  refine wpAny_bind (wpAny_bind (I3.type.here ((looks_findIn X3 hl).here ?_)))
  show wpAny _ A.in1.in1 (specialOf (Value.ref x) (Str.ofString "__length_hint__") >>= _) _ _ _
  refine wpAny_bind (wpAny_bind (I3.type.here ((looks_findIn X3 hh).here ?_)))
  refine wpAny_pure ?_
  show wpAny _ A.in1.in1 (rule "list.extend.makes-room" >>= fun _ => Builtin.List.listTouch (.ref S) >>= fun _ =>
    again (.builtin "list.extend.loop" ⟨[.ref S, .ref x, .none], []⟩)) _ _ _
  refine wpAny_bind (wpAny_rule ?_)
  refine wpAny_bind ?_
  show wpAny _ A.in1.in1 (updateSeq S (·.push .none) >>= fun _ => updateSeq S (·.pop)) _ _ _
  have hS3 := (N3 (S, listOf #[] 0) (.head _)).1
  refine wpAny_bind (wpAny_updateSeq hS3 rfl ?_)
  have hS4 := Heap.get?_update_self (Obj.mapSeq (·.push Value.none)) hS3 rfl
  refine wpAny_updateSeq (hz := by seq_fits) hS4 rfl ?_
  obtain ⟨F4, N4⟩ := news_upd (pre := []) (f := Obj.mapSeq (·.push Value.none)) (o' := Obj.mapSeq (·.push Value.none) (listOf #[] 0)) F3 N3 hp0 hp1 rfl rfl
  obtain ⟨F5, N5⟩ := news_upd (pre := []) (f := Obj.mapSeq (·.pop)) (o' := Obj.mapSeq (·.pop) (Obj.mapSeq (·.push Value.none) (listOf #[] 0))) F4 N4 hp0 hp1 rfl rfl
  exact wpAny_pure ⟨plainId_quiet PySem.F.plain_extend_loop _, hloop S _ _ _ hlt F5 N5⟩
end
end Mine
end
section
set_option maxHeartbeats 4000000
namespace Mine
theorem instAt_of {h : Heap} {x C dx : Addr} {od : Obj} (h1 : h.get? x = some (instObj C dx)) (h2 : h.get? dx = some od) : InstAt h x (instObj C dx) C (some od) := ⟨h1, rfl, rfl, h2⟩
theorem own_stop {M : Model} {A : Around} {E : Value → Shared → Prop} {s : Shared} {Q : Option Value → Shared → Prop} {base G : Heap} {l : List Env} {e t : Addr} {vs : List Value} {news : List (Addr × Obj)}
    (R : RaisedS base G l e (.type "StopIteration") t vs news s.heap) (k : Q none s) : OwitStop M A Q E (.ref e) s := by
  obtain ⟨⟨B, hB, hBG, hl, hfl, _⟩, _⟩ := R
  obtain ⟨ob, hob, hobc⟩ := hfl.there
  have hT : s.TypeIs (.ref e) "StopIteration" := (show ∃ o, s.heap.get? e = some o ∧ o.cls = .type "StopIteration" from ⟨ob, hob, hobc⟩)
  unfold OwitStop
  refine wpAny_isInstance hT (b := true) (by rw [isSubtype_type]; kernel_rfl) ?_
  show (if true = true then Q none s else E (.ref e) s)
  rw [if_pos rfl]
  exact k
inductive LexAll : Bool → List Nat → List (List Nat) → Prop
  | none_ : LexAll true [] []
  | blank {inp rem : List Nat} {eof : Bool} : lexRun 32 [] false inp = some ([], false, eof, rem) → LexAll false inp []
  | tok {inp tok rem : List Nat} {quo eof : Bool} {toks : List (List Nat)} : lexRun 32 [] false inp = some (tok, quo, eof, rem) → tok ≠ [] → LexAll eof rem toks → LexAll false inp (tok :: toks)
inductive StrVals : List (List Nat) → List Value → Prop
  | nil : StrVals [] []
  | cons {t : List Nat} {tt : Tok} {ts : List (List Nat)} {vs : List Value} : StrVals ts vs → StrVals (t :: ts) (Value.str (toS t) tt :: vs)
theorem lex_loop (w : World) (mean : ExcName → Option Value) (mg mb : Str → Option Value) (x dx y dy q1 q2 : Nat) (hs : Nat → Int) (ts vt : Nat → Tok) (tb : Tok) (nl : Value) (buf : Str) (rest : List (Addr × Obj)) (S : Nat)
   (hx : dx < x) (hxy : x < dy) (hy : dy < y) (hq1 : y < q1) (hq2 : q1 < q2) (hS1 : q2 < S) (hr0 : ∀ p ∈ rest, p.1 < dx)
   (hb : buf.length ≤ 1000)
   (dp un : Nat) (gd : Option (List Code)) (cn : Str) (cs : Scope) (a : Addr) (ccd : Value) (cl : List (Str × Addr)) (outer : List Env) (A₀ : Around) (base h₀ : Heap) (L : Addr) (m : Str → Option Value) (R : Result → Shared → Prop)
    (B : Below A₀ base outer h₀)  (X : (Mine.kk w.params).In h₀) (T : Top Mine.vq (looseW Mine.vq Mine.lo) mean mg mb h₀) (hcs : cs.kind = .function)
   (hdp : dp + 60 < recursionLimit) (hun : un + 260 < cLine)
   (b : Bool) (inp : List Nat) (toks : List (List Nat)) (H : LexAll b inp toks) :
   ∀ (s : Shared) (acc : Array Value) (c pos : Nat) (t1 t2 tp : Tok), buf.cps.toList.drop pos = inp → pos ≤ buf.length → acc.size + toks.length ≤ 1000 → Fr h₀ L s.heap m →
     News h₀ L s.heap ((x, instObj 870 dx) :: (dx, dictOf (lexD hs ts y q1 q2 (if b = true then .none else .str (Str.ofString " ") t1) (Str.ofString "") t2 vt) 19) :: (y, instObj 735 dy) :: (dy, dictOf (sioD hs ts nl buf tb pos tp) 3) :: (q1, deqO) :: (q2, deqO) :: (S, W.listOf acc c) :: rest) →
     (∀ e t g' h' tk' c' vs, StrVals toks vs → Fr h₀ L g' m → g'.UpToSlots h' → RaisedS base g' (envX cn cs L a ccd cl :: outer) e (.type "StopIteration") t [] ((S, W.listOf (acc ++ vs.toArray) c') :: rest) h' → R (.ok (.ret .none)) { s with heap := h', toks := tk' }) →
     codeAny (model pg w) (ktrTop dp un gd cn cs L a ccd cl outer) (.builtin "list.extend.loop" ⟨[.ref S, .ref x, .none], []⟩) R s := by
  have hfn : findIn (Mine.kk w.params) (.ref 870) "__next__" = some (some (.ref 867)) := by kernel_rfl
  have hisf : isFn (Mine.kk w.params) (.ref 867) = true := by kernel_rfl
  have hrS : ∀ (o : Obj), ∀ p ∈ (S, o) :: rest, p.1 ≠ dx ∧ p.1 ≠ dy := by
    intro o p hp
    rcases List.mem_cons.mp hp with rfl | hp
    · refine ⟨?_, ?_⟩ <;> (show @Ne Nat S _; omega)
    · have := ltN (hr0 p hp)
      refine ⟨?_, ?_⟩ <;> (show @Ne Nat p.1 _; omega)
  induction H with
  | none_ =>
    intro s acc c pos t1 t2 tp hin hpos hsz F N hR
    refine codeAny_builtin PySem.F.entry_extend_loop ?_
    rw [Around.under_plainId PySem.F.plain_extend_loop _]
    show wpAny _ (ktrTop dp (un + 1) gd cn cs L a ccd cl outer) (pyNext (.ref x) >>= _) _ _ s
    refine wpAny_bind (owit_next F X (instAt_of (N (x, instObj 870 dx) (.head _)).1 (N _ (.tail _ (.head _))).1) hfn hisf ?_)
    refine nx_3 w mean mg mb x dx y dy q1 q2 hs ts vt tb nl buf _ pos t1 t2 tp hx hxy hy hq1 hq2 (hrS _) hb hin dp (un + 1) gd cn cs a ccd cl outer A₀ base h₀ L m s _ _ B F X T hcs N hdp (by omega) fun e t g' h' tk' F' U' R' => ?_
    exact own_stop R' (wpAny_pure (hR e t g' h' tk' c [] .nil F' U' (by simpa using R')))
  | blank hrun =>
    intro s acc c pos t1 t2 tp hin hpos hsz F N hR
    refine codeAny_builtin PySem.F.entry_extend_loop ?_
    rw [Around.under_plainId PySem.F.plain_extend_loop _]
    show wpAny _ (ktrTop dp (un + 1) gd cn cs L a ccd cl outer) (pyNext (.ref x) >>= _) _ _ s
    refine wpAny_bind (owit_next F X (instAt_of (N (x, instObj 870 dx) (.head _)).1 (N _ (.tail _ (.head _))).1) hfn hisf ?_)
    refine nx_2 w mean mg mb x dx y dy q1 q2 hs ts vt tb nl buf _ pos t1 t2 tp _ _ hx hxy hy hq1 hq2 (hrS _) hb (by rw [hin]; exact hrun) hpos dp (un + 1) gd cn cs a ccd cl outer A₀ base h₀ L m s _ _ B F X T hcs N hdp (by omega) fun e t g' h' tk' F' U' R' => ?_
    exact own_stop R' (wpAny_pure (hR e t g' h' tk' c [] .nil F' U' (by simpa using R')))
  | @tok inp tok rem quo eof toks hrun hne hrest ih =>
    intro s acc c pos t1 t2 tp hin hpos hsz F N hR
    refine codeAny_builtin PySem.F.entry_extend_loop ?_
    rw [Around.under_plainId PySem.F.plain_extend_loop _]
    show wpAny _ (ktrTop dp (un + 1) gd cn cs L a ccd cl outer) (pyNext (.ref x) >>= _) _ _ s
    refine wpAny_bind (owit_next F X (instAt_of (N (x, instObj 870 dx) (.head _)).1 (N _ (.tail _ (.head _))).1) hfn hisf ?_)
    refine nx_1 w mean mg mb x dx y dy q1 q2 hs ts vt tb nl buf _ pos t1 t2 tp tok quo eof rem hx hxy hy hq1 hq2 (hrS _) hb (by rw [hin]; exact hrun) hpos hne dp (un + 1) gd cn cs a ccd cl outer A₀ base h₀ L m s _ _ B F X T hcs N hdp (by omega) fun h' tk' t1' t2' tp' tt pos' hin' hpos' F' N' => ?_
    have hS' := (N' (S, W.listOf acc c) (by simp)).1
    have hsz2 : acc.size + (toks.length + 1) ≤ 1000 := hsz
    have hline : (1001 : Nat) ≤ sizeLine := by decide
    show wpAny _ (ktrTop dp (un + 1) gd cn cs L a ccd cl outer) (updateSeq S (·.push (Value.str (toS tok) tt)) >>= _) _ _ _
    refine wpAny_bind (wpAny_updateSeq hS' rfl ?_ (by omega) (by rw [Array.size_push]; omega))
    obtain ⟨F2, N2⟩ := news_upd (pre := [(x, instObj 870 dx), (dx, _), (y, instObj 735 dy), (dy, _), (q1, deqO), (q2, deqO)]) (f := Obj.mapSeq (·.push (Value.str (toS tok) tt))) (o' := Obj.mapSeq (·.push (Value.str (toS tok) tt)) (W.listOf acc c)) F' N'
      (by
        intro p hp
        simp only [List.mem_cons, List.not_mem_nil, or_false] at hp
        rcases hp with rfl | rfl | rfl | rfl | rfl | rfl <;> (show @Ne Nat _ S; dsimp only; omega))
      (by intro p hp; have := ltN (hr0 p hp); show @Ne Nat p.1 S; omega) rfl rfl
    refine wpAny_pure ⟨plainId_quiet PySem.F.plain_extend_loop _, ?_⟩
    refine ih { s with heap := h'.update S (Obj.mapSeq (·.push (Value.str (toS tok) tt))), toks := tk' } (acc.push (Value.str (toS tok) tt)) _ pos' t1' t2' tp' hin' hpos' (by rw [Array.size_push]; omega) F2 N2 ?_
    intro e t g' h'' tk'' c' vs hv F3 U3 R3
    refine hR e t g' h'' tk'' c' (Value.str (toS tok) tt :: vs) (.cons hv) F3 U3 ?_
    have e1 : acc ++ (Value.str (toS tok) tt :: vs).toArray = acc.push (Value.str (toS tok) tt) ++ vs.toArray := by
      apply Array.ext'
      simp
    rw [e1]
    exact R3
end Mine
end
example : True ∧ True := by (w_top off; walk1 <;> exact True.intro)
section
local macro_rules | `(tactic| walk_at "zz") => `(tactic| skip)
example : True ∧ True := by (w_top off; walk1 <;> exact True.intro)
end
section
namespace Mine
local macro_rules | `(tactic| walk_at "ite") => `(tactic| first | with_reducible refine ite_neg (by with_reducible assumption) ?_ | with_reducible refine ite_pos (by with_reducible assumption) ?_ | with_reducible refine ite_f (by with_reducible assumption) ?_ | with_reducible refine ite_t (by with_reducible assumption) ?_ | (k_closed; first | refine ite_pos (by decide +kernel) ?_ | refine ite_neg (by decide +kernel) ?_))
theorem it_1 (w : World) (mean : ExcName → Option Value) (mg mb : Str → Option Value) (x : Nat) (rest : List (Addr × Obj))
   (dp un : Nat) (gd : Option (List Code)) (cn : Str) (cs : Scope) (a : Addr) (ccd : Value) (cl : List (Str × Addr)) (outer : List Env) (A₀ : Around) (base h₀ : Heap) (L : Addr) (m : Str → Option Value) (s : Shared) (Q E : Value → Shared → Prop)
    (B : Below A₀ base outer h₀) (F : Fr h₀ L s.heap m) (X : (Mine.kk w.params).In h₀) (T : Top Mine.vq (looseW Mine.vq Mine.lo) mean mg mb h₀) (hcs : cs.kind = .function)
    (N : News h₀ L s.heap rest)
    (hdp : dp + 60 < recursionLimit) (hun : un + 250 < cLine)
    (hret : ∀ h' tk', Fr h₀ L h' m → News h₀ L h' rest → Q (.ref x) { s with heap := h', toks := tk' }) :
      wpAny (model pg w) (ktrTop dp un gd cn cs L a ccd cl outer) (call (.ref 860) [.ref x]) Q E s := by
  refine wpAny_call ?_; k_dflt (walk_at "my enter")
  k_steps
  all_goals exact hret _ _ (by k_asm) (by k_asm)
theorem list_lex (w : World) (mean : ExcName → Option Value) (mg mb : Str → Option Value) (x dx y dy q1 q2 : Nat) (hs : Nat → Int) (ts vt : Nat → Tok) (tb : Tok) (nl : Value) (buf : Str) (rest : List (Addr × Obj))
   (t1 t2 tp : Tok) (hx : dx < x) (hxy : x < dy) (hy : dy < y) (hq1 : y < q1) (hq2 : q1 < q2) (hr0 : ∀ p ∈ rest, p.1 < dx)
   (hb : buf.length ≤ 1000)
   (toks : List (List Nat)) (H : LexAll false buf.cps.toList toks) (hlen : toks.length ≤ 1000)
   (dp un : Nat) (gd : Option (List Code)) (cn : Str) (cs : Scope) (a : Addr) (ccd : Value) (cl : List (Str × Addr)) (outer : List Env) (A₀ : Around) (base h₀ : Heap) (L : Addr) (m : Str → Option Value) (s : Shared) (Q E : Value → Shared → Prop)
    (B : Below A₀ base outer h₀) (F : Fr h₀ L s.heap m) (X : (Mine.kk w.params).In h₀) (T : Top Mine.vq (looseW Mine.vq Mine.lo) mean mg mb h₀) (hcs : cs.kind = .function) (fs : List Addr) (g₀ : Heap) (XB : (Mine.kk w.params).In base) (TB : Top Mine.vq (looseW Mine.vq Mine.lo) mean mg mb base) (hfs : fs = outer.filterMap (·.frame)) (D : KtsDicts fs h₀) (T0 : KtsTurn fs g₀ h₀) (hcl : cl = [])
    (N : News h₀ L s.heap ((x, instObj 870 dx) :: (dx, dictOf (lexD hs ts y q1 q2 (.str (Str.ofString " ") t1) (Str.ofString "") t2 vt) 19) :: (y, instObj 735 dy) :: (dy, dictOf (sioD hs ts nl buf tb 0 tp) 3) :: (q1, deqO) :: (q2, deqO) :: rest))
    (hdp : dp + 70 < recursionLimit) (hun : un + 300 < cLine)
    (hret : ∀ S h' g' tk' c' vs, StrVals toks vs → (∀ p ∈ rest, p.1 < S) → KtsTurn fs g₀ g' → Fr g' L h' m → News g' L h' ((S, W.listOf vs.toArray c') :: rest) → Below A₀ base outer g' → (Mine.kk w.params).In g' → Top Mine.vq (looseW Mine.vq Mine.lo) mean mg mb g' → KtsDicts fs g' → Q (.ref S) { s with heap := h', toks := tk' }) :
      wpAny (model pg w) (ktrTop dp un gd cn cs L a ccd cl outer) (call (.type "list") [.ref x]) Q E s := by
  subst hfs hcl
  refine call_list_own F X N (.head _) (.tail _ (.head _)) (C := 870) (fi := 860) (nx := .ref 867) (by kernel_rfl) (by kernel_rfl) (by kernel_rfl) (by kernel_rfl) (by kernel_rfl) ?_ ?_
  · intro S s' c Q' E' hS F' N' hk
    exact it_1 w mean mg mb x _ dp (un + 1 + 1) gd cn cs a ccd [] outer A₀ base h₀ L m s' Q' E' B F' X T hcs N' (by omega) (by omega) hk
  · intro S h' tk' c hS F' N'
    have hq2S : q2 < S := hS (q2, deqO) (by simp)
    have N2 : News h₀ L h' ((x, instObj 870 dx) :: (dx, dictOf (lexD hs ts y q1 q2 (.str (Str.ofString " ") t1) (Str.ofString "") t2 vt) 19) :: (y, instObj 735 dy) :: (dy, dictOf (sioD hs ts nl buf tb 0 tp) 3) :: (q1, deqO) :: (q2, deqO) :: (S, W.listOf #[] c) :: rest) := (fun p hp => N' p (by
      simp only [List.mem_cons] at hp ⊢
      rcases hp with h | h | h | h | h | h | h | h <;> simp [h]))
    refine lex_loop w mean mg mb x dx y dy q1 q2 hs ts vt tb nl buf rest S hx hxy hy hq1 hq2 hq2S hr0 hb dp (un + 1) gd cn cs a ccd [] outer A₀ base h₀ L m _ B X T hcs (by omega) (by omega) false buf.cps.toList toks H _ #[] c 0 t1 t2 tp (by simp) (by omega) (by simpa using hlen) F' N2 ?_
    intro e t g' h2 tk2 c' vs hv F3 U3 R3
    obtain ⟨⟨B', hB, hBG, hl, hfl, hnew⟩, htup⟩ := R3
    have hL : B'.get? L = none := by
      obtain ⟨_, ⟨L', _, hf, hn', _⟩, _⟩ := hfl.2.2.1
      obtain rfl : L = L' := Option.some.inj hf
      exact hn'
    obtain ⟨g₆, T₆, F₆, K₆⟩ := kts_ground B F3 hBG hfl.1 U3
    refine ⟨rfl, hret S h2 g₆ tk2 c' vs hv (fun p hp => hS p (by simp [hp])) (T0.trans T₆) F₆ ?_ K₆ (XB.keeps K₆.stays) (TB.keeps K₆.stays) (D.turn T₆)⟩
    intro q hq
    have hq' : q ∈ (S, W.listOf (#[] ++ vs.toArray) c') :: rest := by simpa using hq
    exact ⟨hfl.1 _ _ (hl q hq').1, (fun z => by have := (hl q hq').1; rw [z, hL] at this; cases this), T₆.none_ _ (kts_none F3.keep (hl q hq').2.1)⟩
end Mine
end
section
set_option maxHeartbeats 4000000
namespace Mine
open PySem.Sre PySem.Builtin.Re
abbrev reC : Array Nat := #[14, 17, 4, 1, 1, 21, 9, 0, 604043296, 1, 0, 0, 0, 0, 0, 8, 4, 0, 13, 14, 21, 9, 0, 604043296, 1, 0, 0, 0, 0, 0, 8, 4, 0, 1]
abbrev Okc (c : Nat) : Prop := c = 39 ∨ c = 34 ∨ (48 ≤ c ∧ c ≤ 57)
abbrev digN (c : Nat) : Prop := 48 ≤ c ∧ c ≤ 57
theorem dig_cases {c : Nat} (h : digN c) : c = 48 ∨ c = 49 ∨ c = 50 ∨ c = 51 ∨ c = 52 ∨ c = 53 ∨ c = 54 ∨ c = 55 ∨ c = 56 ∨ c = 57 := by unfold digN at h; omega
theorem set_dig {c : Nat} (h : digN c) (i : Nat) (hi : i = 5 ∨ i = 20) (seen : Sre.Seen) : ∃ seen', inSet reC c 34 i true seen = .ok (false, seen') := by
  rcases hi with rfl | rfl <;> rcases dig_cases h with rfl | rfl | rfl | rfl | rfl | rfl | rfl | rfl | rfl | rfl <;> exact ⟨_, rfl⟩
theorem set_quo {c : Nat} (h : c = 39 ∨ c = 34) (i : Nat) (hi : i = 5 ∨ i = 20) (seen : Sre.Seen) : ∃ seen', inSet reC c 34 i true seen = .ok (true, seen') := by
  rcases hi with rfl | rfl <;> rcases h with rfl | rfl <;> exact ⟨_, rfl⟩
theorem adm_none (m : M) (hc : m.code = reC) (hd : ∀ i, i < m.lim → digN (m.text.getD i 0)) : ∀ (f s : Nat) (seen : Sre.Seen), ∃ seen', M.admitted m f s seen = .ok (none, seen') := by
  intro f
  induction f with
  | zero => intro s seen; exact ⟨seen, rfl⟩
  | succ f ih =>
    intro s seen
    unfold M.admitted
    by_cases h : s ≥ m.lim
    · rw [if_pos h]; exact ⟨_, rfl⟩
    · rw [if_neg h, hc]
      obtain ⟨s', e⟩ := set_dig (hd s (by omega)) 5 (.inl rfl) seen
      have e' : inSet reC (m.text.getD s 0) reC.size 5 true seen = .ok (false, s') := e
      rw [e']
      exact ih (s + 1) s'
theorem adm_some (m : M) (hc : m.code = reC) (hd : ∀ i, i < m.lim → Okc (m.text.getD i 0)) : ∀ (f s : Nat) (seen : Sre.Seen), m.lim < s + f → (∃ i, s ≤ i ∧ i < m.lim ∧ (m.text.getD i 0 = 39 ∨ m.text.getD i 0 = 34)) →
    ∃ i seen', M.admitted m f s seen = .ok (some i, seen') ∧ i < m.lim ∧ (m.text.getD i 0 = 39 ∨ m.text.getD i 0 = 34) := by
  intro f
  induction f with
  | zero => intro s seen h ⟨i, h1, h2, _⟩; omega
  | succ f ih =>
    intro s seen hlt ⟨i, h1, h2, h3⟩
    unfold M.admitted
    have h : ¬ s ≥ m.lim := by omega
    rw [if_neg h, hc]
    by_cases hq : m.text.getD s 0 = 39 ∨ m.text.getD s 0 = 34
    · obtain ⟨s', e⟩ := set_quo hq 5 (.inl rfl) seen
      have e' : inSet reC (m.text.getD s 0) reC.size 5 true seen = .ok (true, s') := e
      rw [e']
      exact ⟨s, s', rfl, by omega, hq⟩
    · have hdg : digN (m.text.getD s 0) := by
        rcases hd s (by omega) with h | h | h
        · exact absurd (.inl h) hq
        · exact absurd (.inr h) hq
        · exact h
      obtain ⟨s', e⟩ := set_dig hdg 5 (.inl rfl) seen
      have e' : inSet reC (m.text.getD s 0) reC.size 5 true seen = .ok (false, s') := e
      rw [e']
      refine ih (s + 1) s' (by omega) ⟨i, ?_, h2, h3⟩
      rcases Nat.eq_or_lt_of_le h1 with h4 | h4
      · subst h4; exact absurd h3 hq
      · omega
abbrev reM0 (text : Array Nat) : M := { code := reC, text, lim := text.size, start := 0, pc := 18, pos := 0, handed := 0, marks := #[], lastStart := text.size, mustAdvance := false, seen := ({} : Sre.Seen).add 14 }
theorem srch_eq (text : Array Nat) (h0 : 0 < text.size) : Sre.forSearch reC text 0 0 text.size false = (reM0 text).attemptFrom 0 true := by
  show (if (decide (0 > text.size) || decide (text.size - 0 < 1)) = true then _ else _) = _
  rw [if_neg (by intro h; rw [Bool.or_eq_true, decide_eq_true_eq, decide_eq_true_eq] at h; omega)]
  rfl
theorem from_none (text : Array Nat) (seen' : Sre.Seen) (e : M.admitted (reM0 text) (text.size + 1 - 0) 0 (reM0 text).seen = .ok (none, seen')) : (reM0 text).attemptFrom 0 true = { (reM0 text) with seen := seen', answer := some false } := by
  unfold M.attemptFrom
  show (match M.admitted (reM0 text) (text.size + 1 - 0) 0 (reM0 text).seen with | .ok (some s, seen) => _ | .ok (none, seen) => _ | .error why => _) = _
  rw [e]
  rfl
theorem from_some (text : Array Nat) (i : Nat) (seen' : Sre.Seen) (e : M.admitted (reM0 text) (text.size + 1 - 0) 0 (reM0 text).seen = .ok (some i, seen')) : (reM0 text).attemptFrom 0 true = { (reM0 text) with seen := seen', start := i, pos := i, handed := i, frames := [{ wait := .nextStart, pc := 18, pos := i, outermost := true }], weight := 1 } := by
  unfold M.attemptFrom
  show (match M.admitted (reM0 text) (text.size + 1 - 0) 0 (reM0 text).seen with | .ok (some s, seen) => _ | .ok (none, seen) => _ | .error why => _) = _
  rw [e]
  rfl
/-- the search ends at once with no match, where all signs are figures -/
theorem srch_none (text : Array Nat) (h0 : 0 < text.size) (hd : ∀ i, i < text.size → digN (text.getD i 0)) :
    ∃ m, (Sre.forSearch reC text 0 0 text.size false).runFor reTurnSteps = m ∧ m.outcome = some .failed := by
  obtain ⟨seen', e⟩ := adm_none (reM0 text) rfl hd (text.size + 1 - 0) 0 (reM0 text).seen
  rw [srch_eq text h0, from_none text seen' e]
  exact ⟨_, rfl, rfl⟩
theorem srch_some (text : Array Nat) (h0 : 0 < text.size) (hd : ∀ i, i < text.size → Okc (text.getD i 0)) (hq : ∃ i, i < text.size ∧ (text.getD i 0 = 39 ∨ text.getD i 0 = 34)) :
    ∃ m, (Sre.forSearch reC text 0 0 text.size false).runFor reTurnSteps = m ∧ m.outcome = some .matched := by
  obtain ⟨i, h1, h2⟩ := hq
  obtain ⟨j, seen', e, h3, h4⟩ := adm_some (reM0 text) rfl hd (text.size + 1 - 0) 0 (reM0 text).seen (by show text.size < _; omega) ⟨i, by omega, h1, h2⟩
  rw [srch_eq text h0, from_some text j seen' e]
  refine ⟨_, rfl, ?_⟩
  obtain ⟨s2, e2⟩ := set_quo h4 20 (.inr rfl) (seen'.add 13)
  have e2' : inSet reC (text.getD j 0) reC.size (18 + 2) true (seen'.add 13) = .ok (true, s2) := e2
  have st1 : M.step { (reM0 text) with seen := seen', start := j, pos := j, handed := j, frames := [{ wait := .nextStart, pc := 18, pos := j, outermost := true }], weight := 1 } = { (reM0 text) with seen := s2, start := j, pos := j + 1, handed := j, pc := 33, frames := [{ wait := .nextStart, pc := 18, pos := j, outermost := true }], weight := 1 } := by
    show (if j ≥ text.size then _ else (match inSet reC (text.getD j 0) reC.size (18 + 2) true (seen'.add 13) with | .error why => _ | .ok (false, seen) => _ | .ok (true, seen) => _)) = _
    rw [if_neg (by have : j < text.size := h3; omega), e2']
    rfl
  show (M.runFor 3 (M.step _)).outcome = _
  rw [st1]
  rfl
end Mine
end
section
set_option maxHeartbeats 4000000
namespace Mine
open PySem.Builtin.Re
theorem rs_entry : entryFor table "re.Pattern.search" = some Builtin.«re.Pattern.search» := entryFor_of_tree (by kernel_rfl)
theorem rs_quiet : ∀ args, (Code.builtin "re.Pattern.search" args).quiet = true := fun args => Code.quiet_builtin args (by decide +kernel)
theorem rs_plain : plainId "re.Pattern.search" = true := by decide +kernel
theorem rs_named (v : Value) : reNamed "re.Pattern.search" "search" ["string", "pos", "endpos"] 1 [v] [] = pure [some v, none, none] := by kernel_rfl
section
variable {w : World} {A : Around} {E : Value → Shared → Prop} {s : Shared}
theorem rs_check (X : (Mine.kk w.params).In s.heap) (v : Str) (t : Tok) : Looks (model pg w) s.heap (checkBoundCall "re.Pattern.search" ⟨[.ref 187, .str v t], []⟩) () := Looks.of_peek X (by kernel_rfl)
theorem rs_target (X : (Mine.kk w.params).In s.heap) (v : Str) (t : Tok) : Looks (model pg w) s.heap (reTarget "re.Pattern.search" "search" ⟨[.ref 187, .str v t], []⟩) { pattern := .ref 187, string := .str v t, code := reC, text := v.cps, kind := 0, groups := 0, pos := min (0 : Int).toNat v.cps.size, lim := min (2 ^ 63 - 1 : Int).toNat v.cps.size } :=
  Looks.of_peek X (by kernel_rfl)
theorem rs_run {m m' : Sre.M} (e : m.runFor reTurnSteps = m') {o : Sre.Outcome} (ho : m'.outcome = some o) {Q : Option Sre.M → Shared → Prop} (h : match o with | .matched => Q (some m') s | .failed => Q none s | _ => False) : wpAny (model pg w) A (reRunToEnd m) Q E s := by
  unfold reRunToEnd
  refine wpAny_bind ?_
  have e1 : reDrive (2 ^ 64) m = pure m' := by
    show reDrive (18446744073709551615 + 1) m = pure m'
    unfold reDrive
    rw [e]
    simp only [ho, Option.isSome_some, if_true]
  rw [e1]
  refine wpAny_pure ?_
  have loop : ∀ (l : List Nat) (Q' : PUnit → Shared → Prop), Q' () s → wpAny (model pg w) A (forIn l PUnit.unit fun i (_ : PUnit) => if m'.seen.has i = true then do rule (Sre.names.getD i ""); pure (ForInStep.yield PUnit.unit) else pure (ForInStep.yield PUnit.unit)) Q' E s := by
    intro l
    induction l with
    | nil => intro Q' h; exact wpAny_pure h
    | cons a l ih =>
      intro Q' h
      rw [List.forIn_cons]
      refine wpAny_bind ?_
      split
      · exact wpAny_bind (wpAny_rule (wpAny_pure (ih Q' h)))
      · exact wpAny_pure (ih Q' h)
  refine wpAny_bind (loop _ _ ?_)
  rw [ho]
  cases o with
  | matched => exact wpAny_pure h
  | failed => exact wpAny_pure h
  | stuck why => exact h.elim
theorem rs_open (X : (Mine.kk w.params).In s.heap) (v : Str) (t : Tok) (hv : v.cps.size ≤ 1000) {Q : Value → Shared → Prop}
    (h : wpAny (model pg w) A.in1 (reAnswer { pattern := .ref 187, string := .str v t, code := reC, text := v.cps, kind := 0, groups := 0, pos := 0, lim := v.cps.size } (Sre.forSearch reC v.cps 0 0 v.cps.size false)) (fun fin s' => ∃ r, fin = .done (.ret r) ∧ Q r s') E s) :
    wpAny (model pg w) A (call (.ref 883) [.str v t]) Q E s := by
  have hl : min (2 ^ 63 - 1 : Int).toNat v.cps.size = v.cps.size := by
    have : (2 ^ 63 - 1 : Int).toNat = 9223372036854775807 := rfl
    rw [this]; omega
  have hp : min (0 : Int).toNat v.cps.size = 0 := by show min 0 _ = 0; omega
  have tg := rs_target (w := w) X v t
  rw [hl, hp] at tg
  have ho : s.heap.get? 883 = some _ := X 883 _ rfl
  refine wpAny_call (codeAny_of_tree ?_)
  show wpAny _ A.in1 (callAny (.ref 883) ⟨[.str v t], []⟩) _ _ s
  simp only [callAny]
  refine wpAny_bind (wpAny_load ho ?_)
  show wpAny _ _ (checkBoundCall "re.Pattern.search" ⟨[.ref 187, .str v t], []⟩ >>= fun _ => again (.builtin "re.Pattern.search" ⟨[.ref 187, .str v t], []⟩) >>= pure) _ _ _
  refine wpAny_bind ((rs_check X v t).here ?_)
  refine wpAny_bind (wpAny_pure (wpAny_pure ?_))
  refine ⟨rs_quiet _, codeAny_builtin rs_entry ?_⟩
  rw [Around.under_plainId rs_plain _]
  unfold Builtin.«re.Pattern.search»
  refine wpAny_bind (tg.here ?_)
  refine wpAny_mono h (fun fin s' h' => ?_) fun _ _ e => e
  obtain ⟨r, rfl, hq⟩ := h'
  exact hq
theorem rs_none (X : (Mine.kk w.params).In s.heap) (v : Str) (t : Tok) (hv : v.cps.size ≤ 1000) (h0 : 0 < v.cps.size) (hd : ∀ i, i < v.cps.size → digN (v.cps.getD i 0)) {Q : Value → Shared → Prop}
    (h : Q .none s) : wpAny (model pg w) A (call (.ref 883) [.str v t]) Q E s := by
  refine rs_open X v t hv ?_
  obtain ⟨m, e, ho⟩ := srch_none v.cps h0 hd
  unfold reAnswer
  refine wpAny_bind (rs_run e ho ?_)
  exact wpAny_pure ⟨_, rfl, h⟩
theorem rs_some {h₀ : Heap} {L : Addr} {mm : Str → Option Value} {news : List (Addr × Obj)} (F : Fr h₀ L s.heap mm) (N : News h₀ L s.heap news) (X : (Mine.kk w.params).In s.heap) (v : Str) (t : Tok) (hv : v.cps.size ≤ 1000) (h0 : 0 < v.cps.size) (hd : ∀ i, i < v.cps.size → Okc (v.cps.getD i 0)) (hq : ∃ i, i < v.cps.size ∧ (v.cps.getD i 0 = 39 ∨ v.cps.getD i 0 = 34)) {Q : Value → Shared → Prop}
    (h : ∀ x h' tk, Fr h₀ L h' mm → News h₀ L h' news → Q (.ref x) { s with heap := h', toks := tk }) : wpAny (model pg w) A (call (.ref 883) [.str v t]) Q E s := by
  refine rs_open X v t hv ?_
  obtain ⟨m, e, ho⟩ := srch_some v.cps h0 hd hq
  unfold reAnswer
  refine wpAny_bind (rs_run e ho ?_)
  obtain ⟨hp, g, d, tk, os⟩ := s
  unfold reNewMatch
  simp only [List.range_zero, List.flatMap_nil, List.any_nil, Bool.false_eq_true, if_false]
  unfold newFields newTuple
  wp_walk
  exact ⟨_, rfl, h _ _ _ ((F.push _).push _) fun p hp => ((N.push F _).push (F.push _) _) p (.tail _ (.tail _ hp))⟩
end
end Mine
end
example : True ∧ True := by (w_top off; walk1 <;> exact True.intro)
section
local macro_rules | `(tactic| walk_at "zz") => `(tactic| skip)
example : True ∧ True := by (w_top off; walk1 <;> exact True.intro)
end
section
namespace Mine
local macro_rules | `(tactic| walk_at "ite") => `(tactic| first | with_reducible refine ite_neg (by with_reducible assumption) ?_ | with_reducible refine ite_pos (by with_reducible assumption) ?_ | with_reducible refine ite_f (by with_reducible assumption) ?_ | with_reducible refine ite_t (by with_reducible assumption) ?_ | (k_closed; first | refine ite_pos (by decide +kernel) ?_ | refine ite_neg (by decide +kernel) ?_))
example : True := by ((k_with "rs" => (k_here; (with_reducible show wpAny _ _ (call (Value.ref 883) [Value.str _ _] _) _ _ _); first | k_dflt (refine' rs_none ?Xrs _ _ ?hvrs ?h0rs ?hdrs ?_; (case Xrs => k_in); (case hvrs => assumption); (case h0rs => assumption); (case hdrs => assumption); k_whole) | (k_dflt (refine' rs_some ?Frs ?Nrs ?Xrs _ _ ?hvrs ?h0rs ?hdrs ?hqrs ?_; (case Frs => k_asm); (case Nrs => k_asm); (case Xrs => k_in); (case hvrs => assumption); (case h0rs => assumption); (case hdrs => assumption); (case hqrs => assumption); k_whole); intro _ _ _ _ _; (try dsimp only); (try k_fold)))); trivial)
local macro_rules | `(tactic| walk_at "call ref") => `(tactic| k_extra "rs")
theorem cw_883 {w : World} {A : Around} {E : Value → Shared → Prop} {s : Shared} {env : Env} {pos : Pos} {first : List Value} {Q : Value → Shared → Prop} {h₀ : Heap} {e : PySem.Expr} {rest : List PySem.Expr} (_X : (Mine.kk w.params).In h₀) (h : wpAny (model pg w) A (spliced (backTo pos (starEach (e :: rest) env))) (fun vs s₁ => (Mine.kk w.params).In s₁.heap ∧ wpAny (model pg w) A (call (.ref 883) (first ++ vs)) Q E s₁) E s)
    (he : starEach (e :: rest) env = (false, eval e env) :: starEach rest env := by rfl) (hplain : (backTo pos (starEach rest env)).any (·.1) = false := by rfl) :
    wpAny (model pg w) A (callWith pos (.ref 883) first (backTo pos (starEach (e :: rest) env)) []) Q E s := by
  rw [he] at h ⊢
  exact callWith_of (P := (Mine.kk w.params).In) (by show ((false || (backTo pos (starEach rest env)).any (·.1)) || false) = false; rw [hplain]; rfl) (fun h X => ⟨Keeper.machine, .inr (.inl rfl), Looks.of_peek X (by kernel_rfl)⟩) (evalArgs_plain h)
example : True := by ((k_with "cw" => (k_here; (with_reducible show wpAny _ _ (callWith _ (Value.ref 883) _ _ _) _ _ _); k_dflt (refine cw_883 (by k_asm) ?_; k_whole))); trivial)
local macro_rules | `(tactic| walk_at "callWith ref") => `(tactic| k_extra "cw")
theorem tr_pos {prog : Program} {w : World} {A : Around} {E : Value → Shared → Prop} {s : Shared} {x : Str} {t : Tok} {Q : Bool → Shared → Prop} (h0 : 0 < x.cps.size) (hv : x.cps.size ≤ 1000) (h : Q true { s with toks := s.toks + 1 + 1 }) : wpAny (model prog w) A (truthy (.str x t)) Q E s := by
  have h1 : x.length = x.cps.size := rfl
  refine PySem.P.truthy_str (by omega) ?_
  have : ((x.length : Int) != 0) = true := by simp only [bne_iff_ne, ne_eq]; omega
  rw [this]
  exact h
example : True := by ((k_with "trp" => (k_here; (with_reducible show wpAny _ _ (PySem.truthy (Value.str _ _)) _ _ _); (refine tr_pos (by assumption) (by assumption) ?_))); trivial)
local macro_rules | `(tactic| walk_at "truthy str") => `(tactic| k_extra "trp")
theorem qu_1 (w : World) (mean : ExcName → Option Value) (mg mb : Str → Option Value) (v : Str) (tv : Tok) (rest : List (Addr × Obj))
   (dp un : Nat) (gd : Option (List Code)) (cn : Str) (cs : Scope) (a : Addr) (ccd : Value) (cl : List (Str × Addr)) (outer : List Env) (A₀ : Around) (base h₀ : Heap) (L : Addr) (m : Str → Option Value) (s : Shared) (Q E : Value → Shared → Prop)
    (B : Below A₀ base outer h₀) (F : Fr h₀ L s.heap m) (X : (Mine.kk w.params).In h₀) (T : Top Mine.vq (looseW Mine.vq Mine.lo) mean mg mb h₀) (hcs : cs.kind = .function)
    (N : News h₀ L s.heap rest)
    (hdp : dp + 60 < recursionLimit) (hun : un + 250 < cLine) (hv : v.cps.size ≤ 1000) (h0 : 0 < v.cps.size) (hd : ∀ i, i < v.cps.size → digN (v.cps.getD i 0))
    (hret : ∀ h' tk', Fr h₀ L h' m → News h₀ L h' rest → Q (.str v tv) { s with heap := h', toks := tk' }) :
      wpAny (model pg w) (ktrTop dp un gd cn cs L a ccd cl outer) (call (.ref 890) [.str v tv]) Q E s := by
  refine wpAny_call ?_; k_dflt (walk_at "my enter")
  k_steps
  all_goals exact hret _ _ (by k_asm) (by k_asm)
abbrev qrep (v : Str) : Str := Txt.replace v (Str.ofString "'") (Str.ofString "'\"'\"'")
theorem qu_2 (w : World) (mean : ExcName → Option Value) (mg mb : Str → Option Value) (v : Str) (tv : Tok) (rest : List (Addr × Obj))
   (dp un : Nat) (gd : Option (List Code)) (cn : Str) (cs : Scope) (a : Addr) (ccd : Value) (cl : List (Str × Addr)) (outer : List Env) (A₀ : Around) (base h₀ : Heap) (L : Addr) (m : Str → Option Value) (s : Shared) (Q E : Value → Shared → Prop)
    (B : Below A₀ base outer h₀) (F : Fr h₀ L s.heap m) (X : (Mine.kk w.params).In h₀) (T : Top Mine.vq (looseW Mine.vq Mine.lo) mean mg mb h₀) (hcs : cs.kind = .function)
    (N : News h₀ L s.heap rest)
    (hdp : dp + 60 < recursionLimit) (hun : un + 250 < cLine) (hv : v.cps.size ≤ 1000) (h0 : 0 < v.cps.size) (hd : ∀ i, i < v.cps.size → Okc (v.cps.getD i 0)) (hq : ∃ i, i < v.cps.size ∧ (v.cps.getD i 0 = 39 ∨ v.cps.getD i 0 = 34))
    (hrl : (qrep v).length ≤ 10000)
    (hret : ∀ h' tk' t', Fr h₀ L h' m → News h₀ L h' rest → Q (.str (Str.ofString "'" ++ qrep v ++ Str.ofString "'") t') { s with heap := h', toks := tk' }) :
      wpAny (model pg w) (ktrTop dp un gd cn cs L a ccd cl outer) (call (.ref 890) [.str v tv]) Q E s := by
  have hl : v.length ≤ 1000 := hv
  refine wpAny_call ?_; k_dflt (walk_at "my enter")
  k_steps
  all_goals exact hret _ _ _ (by k_asm) (by k_asm)
end Mine
end
section
set_option maxHeartbeats 4000000
namespace Mine
section
variable {prog : Program} {w : World} {A : Around} {E : Value → Shared → Prop} {s : Shared}
abbrev tupSB : Obj := { cls := Value.type "tuple", data := Data.seq #[Value.type "str", Value.type "bytes"] }
theorem isc_plain : plainId "issubclass.nested" = true := by decide +kernel
theorem isc_chk (D : Addr) : checkBuiltinCall "issubclass" ⟨[.type "str", .ref D], []⟩ = pure () := by kernel_rfl
theorem isc_chk2 : checkBuiltinCall "issubclass.nested" ⟨[.type "str", .type "str", rawInt 1], []⟩ = pure () := by kernel_rfl
theorem isc_n1 : Builtin.«issubclass.nested» ⟨[.type "str", .type "str", rawInt 1], []⟩ = pure (.done (.ret (.bool true))) := by kernel_rfl
theorem isc_self {Q : Value → Shared → Prop} (h : Q (.bool true) s) : wpAny (model prog w) A (call (.builtin "issubclass.nested") [.type "str", .type "str", rawInt (0 + 1)]) Q E s := by
  refine wpAny_call (codeAny_call_builtin isc_plain PySem.F.entry_issubclass_nested ?_)
  refine wpAny_of_eq isc_chk2 ?_
  show wpAny _ _ (Builtin.«issubclass.nested» ⟨[.type "str", .type "str", rawInt 1], []⟩) _ _ _
  rw [isc_n1]
  exact wpAny_pure h
theorem isc_tuple {D : Addr} {Q : Value → Shared → Prop} (hD : s.heap.get? D = some tupSB) (h : Q (.bool true) s) : wpAny (model prog w) A (call (.builtin "issubclass") [.type "str", .ref D]) Q E s := by
  have t1 : Looks (model prog w) s.heap (typeOf (.ref D)) (.type "tuple") := (Looks.ld hD).andThen .now
  have t2 : Looks (model prog w) s.heap (isInstance (.ref D) (.type "tuple")) true := t1.andThen (Looks.of_pure (by rw [isSubtype_type]; kernel_rfl))
  refine wpAny_call (codeAny_call_builtin PySem.F.plain_issubclass PySem.F.entry_issubclass ?_)
  refine wpAny_of_eq (isc_chk D) ?_
  refine issubclass_outer ?_
  unfold Builtin.«issubclass.nested» Builtin.Builtins.unionMembers
  dsimp only
  refine wpAny_bind (t1.here ?_)
  show wpAny _ _ ((typeOf (.ref D) >>= fun t => if (t == Value.type "types.UnionType") = true then (rule "isinstance.union" >>= fun _ => field (.ref D) 0) else pure (.ref D)) >>= _) _ _ _
  refine wpAny_bind (wpAny_bind (t1.here ?_))
  refine wpAny_pure ?_
  refine wpAny_bind (t2.here ?_)
  simp only [if_true]
  rw [if_neg (by decide)]
  have sq : Looks (model prog w) s.heap (seqItems? (.ref D)) (some #[Value.type "str", Value.type "bytes"]) := (Looks.ld hD).andThen .now
  refine wpAny_bind (sq.here ?_)
  dsimp only [Option.getD]
  rw [← Array.forIn_toList, List.forIn_cons]
  refine wpAny_bind (wpAny_bind (wpAny_bind (isc_self ?_)))
  show wpAny _ _ (pure true >>= _) _ _ _
  refine wpAny_bind (wpAny_pure ?_)
  simp only [if_true]
  refine wpAny_bind (wpAny_pure (wpAny_pure (wpAny_pure (wpAny_pure ?_))))
  exact h
end
end Mine
end
example : True ∧ True := by (w_top off; walk1 <;> exact True.intro)
section
local macro_rules | `(tactic| walk_at "zz") => `(tactic| skip)
example : True ∧ True := by (w_top off; walk1 <;> exact True.intro)
end
section
namespace Mine
local macro_rules | `(tactic| walk_at "ite") => `(tactic| first | with_reducible refine ite_neg (by with_reducible assumption) ?_ | with_reducible refine ite_pos (by with_reducible assumption) ?_  | (k_closed; first | refine ite_pos (by decide +kernel) ?_ | refine ite_neg (by decide +kernel) ?_))
theorem cvt {Q : Value → Shared → Prop} {x y : Str} {t : Tok} {s : Shared} (e : x = y) (h : Q (.str y t) s) : Q (.str x t) s := e ▸ h
abbrev slS : Str := Str.ofString "/"
abbrev hdS (v : Str) : Str := Txt.slice v none (some (Txt.rfind v slS + 1))
abbrev baseS (v : Str) : Str := Txt.slice v (some (Txt.rfind v slS + 1)) none
def dirS (v : Str) : Str := if ((hdS v).length : Int) = 0 then hdS v else if (hdS v != Txt.mul slS ((hdS v).length : Int)) = true then Txt.rstripChars (hdS v) slS else hdS v
theorem dirS_1 {v : Str} (h1 : ((hdS v).length : Int) ≠ 0) (h2 : (hdS v != Txt.mul slS ((hdS v).length : Int)) = true) : Txt.rstripChars (hdS v) slS = dirS v := by unfold dirS; rw [if_neg h1, if_pos h2]
theorem dirS_2 {v : Str} (h1 : ((hdS v).length : Int) ≠ 0) (h2 : (hdS v != Txt.mul slS ((hdS v).length : Int)) = false) : hdS v = dirS v := by unfold dirS; rw [if_neg h1, if_neg (by rw [h2]; decide)]
theorem dirS_3 {v : Str} (h1 : ((hdS v).length : Int) = 0) : hdS v = dirS v := by unfold dirS; rw [if_pos h1]
example : True := by ((k_with "isc" => (k_here; (with_reducible show wpAny _ _ (call (Value.builtin "issubclass") [Value.type "str", Value.ref _] _) _ _ _); k_dflt (refine isc_tuple (by exact News.get (by k_asm) (by k_mem)) ?_; k_whole))); trivial)
local macro_rules | `(tactic| walk_at "call builtin:issubclass") => `(tactic| k_extra "isc")
theorem fs_1 (w : World) (mean : ExcName → Option Value) (mg mb : Str → Option Value) (v : Str) (tv : Tok) (rest : List (Addr × Obj))
   (dp un : Nat) (gd : Option (List Code)) (cn : Str) (cs : Scope) (a : Addr) (ccd : Value) (cl : List (Str × Addr)) (outer : List Env) (A₀ : Around) (base h₀ : Heap) (L : Addr) (m : Str → Option Value) (s : Shared) (Q E : Value → Shared → Prop)
    (B : Below A₀ base outer h₀) (F : Fr h₀ L s.heap m) (X : (Mine.kk w.params).In h₀) (T : Top Mine.vq (looseW Mine.vq Mine.lo) mean mg mb h₀) (hcs : cs.kind = .function)
    (N : News h₀ L s.heap rest)
    (hdp : dp + 60 < recursionLimit) (hun : un + 250 < cLine)
    (hret : ∀ h' tk', Fr h₀ L h' m → News h₀ L h' rest → Q (.str v tv) { s with heap := h', toks := tk' }) :
      wpAny (model pg w) (ktrTop dp un gd cn cs L a ccd cl outer) (call (.ref 168) [.str v tv]) Q E s := by
  refine wpAny_call ?_; k_dflt (walk_at "my enter")
  k_steps
  all_goals exact hret _ _ (by k_asm) (fun p hp => (by assumption : News _ _ _ (_ :: rest)) p (.tail _ hp))
example : True := by ((k_with "fs" => (k_here; (with_reducible show wpAny _ _ (call (Value.ref 168) [Value.str _ _] _) _ _ _); k_dflt (refine' fs_1 _ _ _ _ _ _ _ _ _ _ _ _ _ _ _ _ _ _ _ _ _ _ _ _ ?Bfs ?Ffs ?Xfs ?Tfs ?hcsfs ?Nfs ?hdpfs ?hunfs ?_; (case Bfs => k_asm); (case Ffs => k_asm); (case Xfs => k_asm); (case Nfs => k_asm); (case Tfs => k_asm); (case hcsfs => exact rfl); (case hdpfs => ktr_room); (case hunfs => ktr_units); k_whole); intro _ _ _ _; (try dsimp only); (try k_fold))); trivial)
local macro_rules | `(tactic| walk_at "call ref") => `(tactic| k_extra "fs")
theorem bn_1 (w : World) (mean : ExcName → Option Value) (mg mb : Str → Option Value) (v : Str) (tv : Tok) (rest : List (Addr × Obj))
   (dp un : Nat) (gd : Option (List Code)) (cn : Str) (cs : Scope) (a : Addr) (ccd : Value) (cl : List (Str × Addr)) (outer : List Env) (A₀ : Around) (base h₀ : Heap) (L : Addr) (m : Str → Option Value) (s : Shared) (Q E : Value → Shared → Prop)
    (B : Below A₀ base outer h₀) (F : Fr h₀ L s.heap m) (X : (Mine.kk w.params).In h₀) (T : Top Mine.vq (looseW Mine.vq Mine.lo) mean mg mb h₀) (hcs : cs.kind = .function)
    (N : News h₀ L s.heap rest)
    (hdp : dp + 100 < recursionLimit) (hun : un + 300 < cLine) (hv : v.length ≤ 1000)
    (hret : ∀ h' tk' t', Fr h₀ L h' m → News h₀ L h' rest → Q (.str (baseS v) t') { s with heap := h', toks := tk' }) :
      wpAny (model pg w) (ktrTop dp un gd cn cs L a ccd cl outer) (call (.ref 175) [.str v tv]) Q E s := by
  refine wpAny_call ?_; k_dflt (walk_at "my enter")
  k_steps
  all_goals exact hret _ _ _ (by k_asm) (by k_asm)
theorem dn_1 (w : World) (mean : ExcName → Option Value) (mg mb : Str → Option Value) (v : Str) (tv : Tok) (rest : List (Addr × Obj))
   (dp un : Nat) (gd : Option (List Code)) (cn : Str) (cs : Scope) (a : Addr) (ccd : Value) (cl : List (Str × Addr)) (outer : List Env) (A₀ : Around) (base h₀ : Heap) (L : Addr) (m : Str → Option Value) (s : Shared) (Q E : Value → Shared → Prop)
    (B : Below A₀ base outer h₀) (F : Fr h₀ L s.heap m) (X : (Mine.kk w.params).In h₀) (T : Top Mine.vq (looseW Mine.vq Mine.lo) mean mg mb h₀) (hcs : cs.kind = .function)
    (N : News h₀ L s.heap rest)
    (hdp : dp + 100 < recursionLimit) (hun : un + 300 < cLine) (hv : v.length ≤ 1000)
    (hret : ∀ h' tk' t', Fr h₀ L h' m → News h₀ L h' rest → Q (.str (dirS v) t') { s with heap := h', toks := tk' }) :
      wpAny (model pg w) (ktrTop dp un gd cn cs L a ccd cl outer) (call (.ref 182) [.str v tv]) Q E s := by
  refine wpAny_call ?_; k_dflt (walk_at "my enter")
  k_steps
  all_goals first
    | (have e9 := dirS_1 (v := v) (by with_reducible assumption) (by with_reducible assumption); refine cvt e9 ?_)
    | (have e9 := dirS_2 (v := v) (by with_reducible assumption) (by with_reducible assumption); refine cvt e9 ?_)
    | (have e9 := dirS_3 (v := v) (by with_reducible assumption); refine cvt e9 ?_)
  all_goals exact hret _ _ _ (by k_asm) (by k_asm)
end Mine
end
section
namespace Mine
noncomputable def splitL (c : Nat) : List Nat → List (List Nat)
  | [] => [[]]
  | a :: r => if a = c then [] :: splitL c r else match splitL c r with
    | [] => [[a]]
    | p :: ps => (a :: p) :: ps
noncomputable def joinL (c : Nat) : List (List Nat) → List Nat
  | [] => []
  | [p] => p
  | p :: q :: r => p ++ c :: joinL c (q :: r)
theorem splitL_ne (c : Nat) (l : List Nat) : ∃ p ps, splitL c l = p :: ps := by
  cases l with
  | nil => exact ⟨_, _, rfl⟩
  | cons a r =>
    unfold splitL
    split
    · exact ⟨_, _, rfl⟩
    · split <;> exact ⟨_, _, rfl⟩
theorem splitL_free {c : Nat} : ∀ {p : List Nat}, c ∉ p → splitL c p = [p]
  | [], _ => rfl
  | a :: r, h => by
    have h1 : a ≠ c := fun e => h (e ▸ .head _)
    unfold splitL
    rw [if_neg h1, splitL_free (fun e => h (.tail _ e))]
theorem splitL_pre {c : Nat} (rest : List Nat) : ∀ {p : List Nat}, c ∉ p → splitL c (p ++ c :: rest) = p :: splitL c rest
  | [], _ => by show splitL c (c :: rest) = _; rw [splitL, if_pos rfl]
  | a :: r, h => by
    have h1 : a ≠ c := fun e => h (e ▸ .head _)
    show splitL c (a :: (r ++ c :: rest)) = _
    rw [splitL, if_neg h1, splitL_pre rest (fun e => h (.tail _ e))]
theorem split_join {c : Nat} : ∀ {ps : List (List Nat)}, ps ≠ [] → (∀ p ∈ ps, c ∉ p) → splitL c (joinL c ps) = ps
  | [], h, _ => absurd rfl h
  | [p], _, h => splitL_free (h p (.head _))
  | p :: q :: r, _, h => by
    show splitL c (p ++ c :: joinL c (q :: r)) = _
    rw [splitL_pre _ (h p (.head _)), split_join (by simp) (fun x hx => h x (.tail _ hx))]
theorem join_toList (c : Nat) : ∀ (ps : List Str), (Str.join ⟨#[c]⟩ ps).cps.toList = joinL c (ps.map (·.cps.toList))
  | [] => rfl
  | [p] => rfl
  | p :: q :: r => by
    show ((p ++ ⟨#[c]⟩ ++ Str.join ⟨#[c]⟩ (q :: r) : Str)).cps.toList = _
    rw [Str.cps_append, Str.cps_append]
    simp only [Array.toList_append, List.append_assoc]
    rw [join_toList c (q :: r)]
    rfl
theorem str_of_list (x : Str) : toS x.cps.toList = x := by
  apply PySem.Str.ext'
  simp [toS]
theorem split_nonempty (x y : Str) : Txt.split x y ≠ [] := by
  unfold Txt.split
  split
  · simp
  · split
    · simp
    · rw [StrLaws.partsBetween_eq]
      obtain ⟨p, r, e⟩ := StrLaws.partsFrom_ne x y.length 0 (Builtin.Str.occurrences x y 0 x.length (x.length + 1))
      rw [e]; simp
theorem split_eq (x : Str) (c : Nat) : Txt.split x ⟨#[c]⟩ = (splitL c x.cps.toList).map toS := by
  have h1 : joinL c ((Txt.split x ⟨#[c]⟩).map (·.cps.toList)) = x.cps.toList := by rw [← join_toList, StrLaws.join_split]
  have h2 : (Txt.split x ⟨#[c]⟩).map (·.cps.toList) ≠ [] := by simpa using split_nonempty x ⟨#[c]⟩
  have h3 : ∀ p ∈ (Txt.split x ⟨#[c]⟩).map (·.cps.toList), c ∉ p := by
    intro p hp
    obtain ⟨q, hq, rfl⟩ := List.mem_map.mp hp
    exact StrLaws.split_free x c q hq
  have h4 := split_join h2 h3
  rw [h1] at h4
  rw [h4, List.map_map]
  have : (toS ∘ fun (z : Str) => z.cps.toList) = id := funext fun z => str_of_list z
  rw [this, List.map_id]
end Mine
end
section
namespace Mine
def qb (a : Nat) : List Nat := if a = 39 then [39, 34, 39, 34, 39] else [a]
def qL (f : List Nat) : List Nat := if (f.all fun a => decide (48 ≤ a ∧ a ≤ 57)) = true then f else 39 :: (f.flatMap qb ++ [39])
theorem lex97 (q : Bool) (rest : List Nat) : ∀ (ds tok : List Nat), (∀ a ∈ ds, dig a) → lexRun 97 tok q (ds ++ rest) = lexRun 97 (tok ++ ds) q rest
  | [], tok, _ => by simp
  | a :: ds, tok, h => by
    have ha : dig a := h a (.head _)
    have h1 : a ≠ 32 := by have := ha.1; omega
    have h2 : a ≠ 39 := by have := ha.1; omega
    have h3 : a ≠ 34 := by have := ha.1; omega
    rw [List.cons_append, lexRun, if_neg (by decide), if_pos rfl, if_neg h1, if_neg h2, if_neg h3, if_pos ha, lex97 q rest ds (tok ++ [a]) (fun b hb => h b (.tail _ hb)), List.append_assoc, List.singleton_append]
theorem lex39b (a : Nat) (ha : Okc a) (tok : List Nat) (q : Bool) (X : List Nat) : lexRun 39 tok q (qb a ++ X) = lexRun 39 (tok ++ [a]) true X := by
  unfold qb
  rcases ha with rfl | rfl | ha
  · rw [if_pos rfl]
    simp [lexRun]
  · rw [if_neg (by decide)]
    simp [lexRun]
  · have h2 : a ≠ 39 := by omega
    rw [if_neg h2]
    rw [List.singleton_append, lexRun, if_neg (by decide), if_neg (by decide), if_pos rfl, if_neg h2, if_pos (.inr ha)]
theorem lex39 (X : List Nat) : ∀ (f tok : List Nat) (q : Bool), (∀ a ∈ f, Okc a) → ∃ q', lexRun 39 tok q (f.flatMap qb ++ 39 :: X) = lexRun 97 (tok ++ f) q' X
  | [], tok, q, _ => ⟨true, by simp [lexRun]⟩
  | a :: f, tok, q, h => by
    obtain ⟨q', e⟩ := lex39 X f (tok ++ [a]) true (fun b hb => h b (.tail _ hb))
    refine ⟨q', ?_⟩
    rw [List.flatMap_cons, List.append_assoc, lex39b a (h a (.head _)), e, List.append_assoc, List.singleton_append]
theorem lexq (f : List Nat) (hf : ∀ a ∈ f, Okc a) (hne : f ≠ []) (X : List Nat) : ∃ q', lexRun 32 [] false (qL f ++ X) = lexRun 97 f q' X := by
  unfold qL
  split
  · rename_i hd
    have hd' : ∀ a ∈ f, dig a := fun a ha => by have := List.all_eq_true.mp hd a ha; exact of_decide_eq_true this
    cases f with
    | nil => exact absurd rfl hne
    | cons a r =>
      have ha := hd' a (.head _)
      have h1 : a ≠ 32 := by have := ha.1; omega
      have h2 : a ≠ 39 := by have := ha.1; omega
      refine ⟨false, ?_⟩
      rw [List.cons_append, lexRun, if_pos rfl, if_neg h1, if_neg h2, if_pos ha, lex97 false X r [a] (fun b hb => hd' b (.tail _ hb)), List.singleton_append]
  · obtain ⟨q', e⟩ := lex39 X f [] false hf
    refine ⟨q', ?_⟩
    rw [List.cons_append, lexRun, if_pos rfl, if_neg (by decide), if_pos rfl, List.append_assoc, List.singleton_append, e, List.nil_append]
theorem lexAll_blank {X : List Nat} {T : List (List Nat)} (h : LexAll false X T) : LexAll false (32 :: X) T := by
  have e : lexRun 32 [] false (32 :: X) = lexRun 32 [] false X := by rw [lexRun, if_pos rfl, if_pos rfl]
  cases h with
  | blank h => exact .blank (e.trans h)
  | tok h1 h2 h3 => exact .tok (e.trans h1) h2 h3
def qq (f : List Nat) : List Nat := if f = [] then [] else qL f
theorem lexAll_line : ∀ (ps : List (List Nat)), (∀ p ∈ ps, ∀ a ∈ p, Okc a) → LexAll false (joinL 32 (ps.map qq)) (ps.filter fun p => decide (p ≠ []))
  | [], _ => .blank (rem := []) (eof := true) rfl
  | [p], h => by
    by_cases hp : p = []
    · subst hp; exact .blank (rem := []) (eof := true) rfl
    · obtain ⟨q', e⟩ := lexq p (h p (.head _)) hp []
      rw [List.append_nil] at e
      have hf : [p].filter (fun p => decide (p ≠ [])) = [p] := by simp [hp]
      rw [hf]
      show LexAll false (qq p) [p]
      unfold qq; rw [if_neg hp]
      exact .tok (e.trans rfl) hp .none_
  | p :: q :: r, h => by
    have ih := lexAll_line (q :: r) (fun x hx => h x (.tail _ hx))
    show LexAll false (qq p ++ 32 :: joinL 32 ((q :: r).map qq)) _
    by_cases hp : p = []
    · subst hp
      have hf : ([] :: q :: r).filter (fun p : List Nat => decide (p ≠ [])) = (q :: r).filter (fun p => decide (p ≠ [])) := by simp
      rw [hf]
      exact lexAll_blank ih
    · obtain ⟨q', e⟩ := lexq p (h p (.head _)) hp (32 :: joinL 32 ((q :: r).map qq))
      have hf : (p :: q :: r).filter (fun p => decide (p ≠ [])) = p :: (q :: r).filter (fun p => decide (p ≠ [])) := by simp [hp]
      rw [hf]
      unfold qq; rw [if_neg hp]
      refine .tok (quo := q') (e.trans ?_) hp ih
      rw [lexRun, if_neg (by decide), if_pos rfl, if_pos rfl, if_neg hp]
end Mine
end
example : True ∧ True := by (w_top off; walk1 <;> exact True.intro)
section
local macro_rules | `(tactic| walk_at "zz") => `(tactic| skip)
example : True ∧ True := by (w_top off; walk1 <;> exact True.intro)
end
section
namespace Mine
local macro_rules | `(tactic| walk_at "ite") => `(tactic| first | with_reducible refine ite_neg (by with_reducible assumption) ?_ | with_reducible refine ite_pos (by with_reducible assumption) ?_  | (k_closed; first | refine ite_pos (by decide +kernel) ?_ | refine ite_neg (by decide +kernel) ?_))
noncomputable def climbGo : Nat → Str → List Str
  | 0, _ => []
  | n + 1, p => if (baseS (dirS p) == Str.ofString "") = true then [] else baseS (dirS p) :: climbGo n (dirS p)
example : True := by ((k_with "bn" => (k_here; (with_reducible show wpAny _ _ (call (Value.ref 175) [Value.str _ _] _) _ _ _); k_dflt (refine' bn_1 _ _ _ _ _ _ _ _ _ _ _ _ _ _ _ _ _ _ _ _ _ _ _ _ ?Bbn ?Fbn ?Xbn ?Tbn ?hcsbn ?Nbn ?hdpbn ?hunbn ?hvbn ?_; (case Bbn => k_asm); (case Fbn => k_asm); (case Xbn => k_asm); (case Nbn => k_asm); (case Tbn => k_asm); (case hcsbn => exact rfl); (case hdpbn => ktr_room); (case hunbn => ktr_units); (case hvbn => first | assumption | omega); k_whole); intro _ _ _ _ _; (try dsimp only); (try k_fold))); trivial)
local macro_rules | `(tactic| walk_at "call ref") => `(tactic| k_extra "bn")
example : True := by ((k_with "dn" => (k_here; (with_reducible show wpAny _ _ (call (Value.ref 182) [Value.str _ _] _) _ _ _); k_dflt (refine' dn_1 _ _ _ _ _ _ _ _ _ _ _ _ _ _ _ _ _ _ _ _ _ _ _ _ ?Bdn ?Fdn ?Xdn ?Tdn ?hcsdn ?Ndn ?hdpdn ?hundn ?hvdn ?_; (case Bdn => k_asm); (case Fdn => k_asm); (case Xdn => k_asm); (case Ndn => k_asm); (case Tdn => k_asm); (case hcsdn => exact rfl); (case hdpdn => ktr_room); (case hundn => ktr_units); (case hvdn => first | assumption | omega); k_whole); intro _ _ _ _ _; (try dsimp only); (try k_fold))); trivial)
local macro_rules | `(tactic| walk_at "call ref") => `(tactic| k_extra "dn")
noncomputable abbrev fl918 : { x : Stmt // bd_918.getD 1 (.Pass ⟨0,0,0,0⟩) = x } := ⟨_, by conv => { lhs; whnf }⟩
noncomputable abbrev fb918 : { x : List Stmt // (match fl918.1 with | .For _ _ b _ _ => b | _ => []) = x } := ⟨_, by conv => { lhs; whnf }⟩
theorem strs_snoc {vs : List Value} {xs : List Str} (h : StrsAre vs xs) (x : Str) (t : Tok) : StrsAre (vs ++ [.str x t]) (xs ++ [x]) := by
  induction h with
  | nil => exact .cons _ _ .nil
  | cons _ _ _ ih => exact .cons _ _ ih
theorem strs_len {vs : List Value} {xs : List Str} (h : StrsAre vs xs) : vs.length = xs.length := by
  induction h with
  | nil => rfl
  | cons _ _ _ ih => simp [ih]
theorem rsz (n : Nat) : Builtin.Range.rangeSize 0 (n : Int) 1 = (n : Int) := by
  unfold Builtin.Range.rangeSize
  rw [if_pos (by decide)]
  split
  · rw [Int.ediv_one]; omega
  · omega
theorem dirS_len (v : Str) : (dirS v).length ≤ v.length := by
  unfold dirS
  have h1 := Txt.slice_le v none (some (Txt.rfind v slS + 1))
  split
  · exact h1
  · split
    · exact Nat.le_trans (len_stripBy _ _ _ _) h1
    · exact h1
theorem baseS_len (v : Str) : (baseS v).length ≤ v.length := Txt.slice_le v _ none
structure CS where
  path : Str
  tp : Tok
  arr : Array Value
  ns : List Str
  ep : Nat
noncomputable abbrev cenv (L : Addr) : Env := envX (Str.ofString "_law_climbed") sc_918 L 918 (.ref 917) []
local macro_rules | `(tactic| walk_at "InvEndN") => `(tactic| (refine halt_in ?_))
theorem climb_loop (w : World) (mean : ExcName → Option Value) (mg mb : Str → Option Value) (v : Str) (tv : Tok) (l r : Nat) (rest : List (Addr × Obj)) (hl : ∀ p ∈ rest, p.1 ≠ l)
   (dp un : Nat) (gd : Option (List Code)) (outer : List Env) (A₀ : Around) (base h₀ : Heap) (L : Addr) (m : Str → Option Value) (s : Shared) (Q : Flow → Shared → Prop) (E : Value → Shared → Prop)
    (B : Below A₀ base outer h₀) (F : Fr h₀ L s.heap m) (X : (Mine.kk w.params).In h₀) (T : Top Mine.vq (looseW Mine.vq Mine.lo) mean mg mb h₀)
    (N : News h₀ L s.heap ((l, W.listOf #[] 0) :: rest)) (t0 u0 v0 : Tok) (hR : IsRange s.heap r 0 (v.length : Int) 1 t0 u0 v0)
    (hm1 : m (Str.ofString "path") = some (.str v tv)) (hm2 : m (Str.ofString "names") = some (.ref l))
    (hdp : dp + 150 < recursionLimit) (hun : un + 400 < cLine) (hv : v.length ≤ 1000)
    (hQ : ∀ m' h' tk' arr ep, StrsAre arr.toList (climbGo v.length v) → m' (Str.ofString "names") = some (.ref l) → Fr h₀ L h' m' → News h₀ L h' ((l, W.listOf arr ep) :: rest) → Q .next { s with heap := h', toks := tk' }) :
    wpAny (model pg w) (ktrTop dp un gd (Str.ofString "_law_climbed") sc_918 L 918 (.ref 917) [] outer) (pyIter (.ref r)) (fun it s₂ => LoopAtV pg w (ktrTop dp un gd (Str.ofString "_law_climbed") sc_918 L 918 (.ref 917) [] outer) h₀ (cenv L) (Str.ofString "turn") fb918.1 Q E it s₂) E s := by
  refine kst_range (σ := CS) (n := v.length) (m₀ := m) (fun c => (l, W.listOf c.arr c.ep) :: rest) (fun c => [(Str.ofString "path", .str c.path c.tp), (Str.ofString "names", .ref l)]) (fun c => StrsAre c.arr.toList c.ns) [Str.ofString "name", Str.ofString "path"]
    (fun pre c => c.path.length ≤ 1000 ∧ c.ns.length ≤ pre.length ∧ c.ns ++ climbGo (v.length - pre.length) c.path = climbGo v.length v) ⟨v, tv, #[], [], 0⟩ rfl hR ?small ?size F N .nil ?hk ⟨hv, Nat.le_refl _, rfl⟩ ?turn ?done
  case small => exact small_one (by omega) (by omega) (by omega) (by omega)
  case size => exact rsz v.length
  case hk => intro p hp; simp only [List.mem_cons, List.not_mem_nil, or_false] at hp; rcases hp with rfl | rfl <;> assumption
  case done =>
    rintro ⟨p, tp, arr, ns, ep⟩ u h tk hf ⟨h1, h2, h3⟩ F' N'
    dsimp only at hf h1 h2 h3 F' N'
    refine hQ _ h tk arr ep ?_ rfl F' N'
    rw [rangeKs_length, Nat.sub_self] at h3
    have : ns = climbGo v.length v := by rw [← h3]; simp [climbGo]
    rw [← this]; exact hf
  case turn =>
    rintro ⟨p, tp, arr, ns, ep⟩ pre k t u h tk own hk hlt hoff hf ⟨h1, h2, h3⟩ F' N'
    dsimp only at hf h1 h2 h3 F' N'
    have hsz : arr.size ≤ 1000 := by have := strs_len hf; rw [Array.length_toList] at this; omega
    have N2 : News h₀ L h ((l, W.listOf arr ep) :: (rest ++ own)) := N'
    have hl2 : ∀ p ∈ rest ++ own, p.1 ≠ l := fun p hp => (List.mem_append.mp hp).elim (hl p) (fun q => hoff p q l (by simp))
    clear N'
    have hdl : (dirS p).length ≤ 1000 := Nat.le_trans (dirS_len p) h1
    have hbl : (baseS (dirS p)).length ≤ 1000 := Nat.le_trans (baseS_len _) hdl
    show wpAny _ (ktrTop dp un gd (Str.ofString "_law_climbed") sc_918 L 918 (.ref 917) [] outer) (execs fb918.1 (cenv L)) _ _ _
    k_steps
    have hj : ∃ j, v.length - pre.length = j + 1 := ⟨v.length - pre.length - 1, by omega⟩
    obtain ⟨j, hj⟩ := hj
    · rename_i hbk _ _ _
      refine hQ _ _ _ arr ep ?_ ?_ (by k_asm) (fun p hp => (by assumption : News _ _ _ ((l, W.listOf arr ep) :: (rest ++ own))) p (by
        rcases List.mem_cons.mp hp with rfl | hp
        · exact .head _
        · exact .tail _ (List.mem_append_left _ hp)))
      · have hb : (baseS (dirS p) == Str.ofString "") = true := by with_reducible assumption
        rw [hj] at h3
        have : climbGo (j + 1) p = [] := by unfold climbGo; rw [if_pos hb]
        rw [this, List.append_nil] at h3
        rw [← h3]; exact hf
      · rfl
    · show InvEndN _ _ _ _ _ _ _
      have hb : (baseS (dirS p) == Str.ofString "") = false := by with_reducible assumption
      have hj : ∃ j, v.length - pre.length = j + 1 := ⟨v.length - pre.length - 1, by omega⟩
      obtain ⟨j, hj⟩ := hj
      rename_i ta9 _ _ _ _ _ _ tb9 _ _ _ _ _ FF NN
      refine kst_end ⟨dirS p, ta9, arr.push (.str (baseS (dirS p)) tb9), ns ++ [baseS (dirS p)], ep + 1⟩ FF NN ?n1 ?n2 rfl ?n3 ?n4 ?n5 ?n6
      case n1 =>
        intro p hp
        rcases List.mem_cons.mp hp with rfl | hp
        · exact .head _
        · exact .tail _ (List.mem_append_left _ hp)
      case n2 => intro p hp; exact .tail _ (List.mem_append_right _ hp)
      case n3 => show StrsAre (arr.push _).toList _; rw [Array.toList_push]; exact strs_snoc hf _ _
      case n4 => intro p hp; simp only [List.mem_cons, List.not_mem_nil, or_false] at hp; rcases hp with rfl | rfl <;> rfl
      case n5 =>
        intro z z1 z2 z3
        have e1 : z ≠ Str.ofString "name" := by intro e; subst e; revert z3; decide
        have e2 : z ≠ Str.ofString "path" := z2 _ (.head _)
        have e3 : z ≠ Str.ofString "names" := z2 _ (.tail _ (.head _))
        show (if z = Str.ofString "name" then _ else if z = Str.ofString "path" then _ else if z = Str.ofString "turn" then _ else _) = _
        rw [if_neg e1, if_neg e2, if_neg z1]
        simp only [kstB, e2, e3, if_false, z3, Bool.false_eq_true]
      case n6 =>
        refine ⟨hdl, by simp only [List.length_append, List.length_cons, List.length_nil]; omega, ?_⟩
        have e5 : v.length - (pre ++ [k]).length = j := by rw [List.length_append, List.length_singleton]; omega
        rw [e5, ← h3, hj]
        show _ = ns ++ (if _ then _ else _)
        rw [if_neg (by rw [hb]; decide)]
        simp only [List.append_assoc, List.cons_append, List.nil_append]
end Mine
end
example : True ∧ True := by (w_top off; walk1 <;> exact True.intro)
section
local macro_rules | `(tactic| walk_at "zz") => `(tactic| skip)
example : True ∧ True := by (w_top off; walk1 <;> exact True.intro)
end
section
namespace Mine
local macro_rules | `(tactic| walk_at "ite") => `(tactic| first | with_reducible refine ite_neg (by with_reducible assumption) ?_ | with_reducible refine ite_pos (by with_reducible assumption) ?_  | (k_closed; first | refine ite_pos (by decide +kernel) ?_ | refine ite_neg (by decide +kernel) ?_))
theorem fr_one {h₀ h : Heap} {L : Addr} {m' : Str → Option Value} {k : Str} {v : Value} (hm : m' k = some v) (F : Fr h₀ L h m') : Fr h₀ L h (fun y => if y = k then some v else m' y) := by
  have e : (fun y => if y = k then some v else m' y) = m' := funext fun y => by
    by_cases e : y = k
    · rw [if_pos e, e, hm]
    · rw [if_neg e]
  rw [e]; exact F
noncomputable def fieldsGo : List Int → Str → List Str
  | [], _ => []
  | c :: r, f => if ((⟨#[c.toNat]⟩ : Str) != Str.ofString "/") = true then fieldsGo r (f ++ ⟨#[c.toNat]⟩) else if (f != Str.ofString "") = true then f :: fieldsGo r (Str.ofString "") else fieldsGo r f
noncomputable abbrev fl911 : { x : Stmt // bd_911.getD 2 (.Pass ⟨0,0,0,0⟩) = x } := ⟨_, by conv => { lhs; whnf }⟩
noncomputable abbrev fb911 : { x : List Stmt // (match fl911.1 with | .For _ _ b _ _ => b | _ => []) = x } := ⟨_, by conv => { lhs; whnf }⟩
structure FS where
  fld : Str
  tf : Tok
  arr : Array Value
  ns : List Str
  ep : Nat
noncomputable abbrev fenv (L : Addr) : Env := envX (Str.ofString "_law_fields") sc_911 L 911 (.ref 910) []
local macro_rules | `(tactic| walk_at "InvEndN") => `(tactic| (refine halt_in ?_))
theorem fields_loop (w : World) (mean : ExcName → Option Value) (mg mb : Str → Option Value) (v : Str) (tv t0 : Tok) (l : Nat) (rest : List (Addr × Obj)) (hl : ∀ p ∈ rest, p.1 ≠ l)
   (dp un : Nat) (gd : Option (List Code)) (outer : List Env) (A₀ : Around) (base h₀ : Heap) (L : Addr) (m : Str → Option Value) (s : Shared) (Q : Flow → Shared → Prop) (E : Value → Shared → Prop)
    (B : Below A₀ base outer h₀) (F : Fr h₀ L s.heap m) (X : (Mine.kk w.params).In h₀) (T : Top Mine.vq (looseW Mine.vq Mine.lo) mean mg mb h₀)
    (N : News h₀ L s.heap ((l, W.listOf #[] 0) :: rest))
    (hm1 : m (Str.ofString "field") = some (.str (Str.ofString "") t0)) (hm2 : m (Str.ofString "fields") = some (.ref l))
    (hdp : dp + 150 < recursionLimit) (hun : un + 400 < cLine) (hv : v.length ≤ 1000)
    (hQ : ∀ m' h' tk' arr ep, StrsAre arr.toList (fieldsGo (KStt.codes v) (Str.ofString "")) → m' (Str.ofString "fields") = some (.ref l) → Fr h₀ L h' m' → News h₀ L h' ((l, W.listOf arr ep) :: rest) → Q .next { s with heap := h', toks := tk' }) :
    wpAny (model pg w) (ktrTop dp un gd (Str.ofString "_law_fields") sc_911 L 911 (.ref 910) [] outer) (pyIter (.str v tv)) (fun it s₂ => LoopAtV pg w (ktrTop dp un gd (Str.ofString "_law_fields") sc_911 L 911 (.ref 910) [] outer) h₀ (fenv L) (Str.ofString "sign") fb911.1 Q E it s₂) E s := by
  refine KStt.kst_text (σ := FS) (m₀ := m) (fun c => (l, W.listOf c.arr c.ep) :: rest) (fun c => [(Str.ofString "field", .str c.fld c.tf), (Str.ofString "fields", .ref l)]) (fun c => StrsAre c.arr.toList c.ns) [Str.ofString "field"]
    (fun pre c => c.fld.length ≤ pre.length ∧ c.ns.length ≤ pre.length ∧ c.ns ++ fieldsGo ((KStt.codes v).drop pre.length) c.fld = fieldsGo (KStt.codes v) (Str.ofString "")) ⟨Str.ofString "", t0, #[], [], 0⟩ rfl F N .nil ?hk ⟨(by decide : (Str.ofString "").length ≤ 0), Nat.le_refl _, rfl⟩ ?turn ?done
  case hk => intro p hp; simp only [List.mem_cons, List.not_mem_nil, or_false] at hp; rcases hp with rfl | rfl <;> assumption
  case done =>
    rintro ⟨p, tp, arr, ns, ep⟩ u h tk hf ⟨h1, h2, h3⟩ F' N'
    dsimp only at hf h1 h2 h3 F' N'
    refine hQ _ h tk arr ep ?_ rfl F' N'
    rw [List.drop_length] at h3
    have : ns = fieldsGo (KStt.codes v) (Str.ofString "") := by rw [← h3]; simp [fieldsGo]
    rw [← this]; exact hf
  case turn =>
    rintro ⟨p, tp, arr, ns, ep⟩ pre post n t u h tk own hk hoff hf ⟨h1, h2, h3⟩ F' N'
    dsimp only at hf h1 h2 h3 F' N'
    have hpl : pre.length + 1 + post.length = v.length := by rw [← KStt.codes_length v, hk]; simp; omega
    have hpp : p.length ≤ 1000 := by omega
    have hsz : arr.size ≤ 1000 := by have := strs_len hf; rw [Array.length_toList] at this; omega
    have N2 : News h₀ L h ((l, W.listOf arr ep) :: (rest ++ own)) := N'
    have hl2 : ∀ p ∈ rest ++ own, p.1 ≠ l := fun p hp => (List.mem_append.mp hp).elim (hl p) (fun q => hoff p q l (by simp))
    clear N'
    have hd : (KStt.codes v).drop pre.length = (n : Int) :: post := by rw [hk, List.drop_left]
    have hd2 : (KStt.codes v).drop (pre.length + 1) = post := by rw [← List.drop_drop, hd]; rfl
    rw [hd] at h3
    have go : ∀ (p' : Str) (tp' : Tok) (arr' : Array Value) (ns' : List Str) (ep' : Nat) (m' : Str → Option Value) h' tk', StrsAre arr'.toList ns' → p'.length ≤ pre.length + 1 → ns'.length ≤ pre.length + 1 → ns' ++ fieldsGo post p' = fieldsGo (KStt.codes v) (Str.ofString "") →
        m' (Str.ofString "field") = some (.str p' tp') → m' (Str.ofString "fields") = some (.ref l) → (∀ z, z ≠ Str.ofString "sign" → z ≠ Str.ofString "field" → z ≠ Str.ofString "fields" → m' z = m z) → Fr h₀ L h' m' → News h₀ L h' ((l, W.listOf arr' ep') :: (rest ++ own)) →
        InvEndN h₀ L (KstS (fun c : FS => (l, W.listOf c.arr c.ep) :: rest) (fun c => [(Str.ofString "field", .str c.fld c.tf), (Str.ofString "fields", .ref l)]) (fun c => StrsAre c.arr.toList c.ns) (Str.ofString "sign") [Str.ofString "field"] m
          (fun pre c => c.fld.length ≤ pre.length ∧ c.ns.length ≤ pre.length ∧ c.ns ++ fieldsGo ((KStt.codes v).drop pre.length) c.fld = fieldsGo (KStt.codes v) (Str.ofString "")) (pre ++ [(n : Int)])) own (List.map (fun x => x.fst) ((l, W.listOf #[] 0) :: rest)) { s with heap := h, toks := tk } { s with heap := h', toks := tk' } := by
      intro p' tp' arr' ns' ep' m' h' tk' g1 g2 g3 g4 g5 g6 g7 FF NN
      refine kst_end (s₁ := { s with heap := h, toks := tk }) ⟨p', tp', arr', ns', ep'⟩ FF NN ?n1 ?n2 rfl g1 ?n4 ?n5 ?n6
      case n1 =>
        intro p hp
        rcases List.mem_cons.mp hp with rfl | hp
        · exact .head _
        · exact .tail _ (List.mem_append_left _ hp)
      case n2 => intro p hp; exact .tail _ (List.mem_append_right _ hp)
      case n4 => intro p hp; simp only [List.mem_cons, List.not_mem_nil, or_false] at hp; rcases hp with rfl | rfl <;> assumption
      case n5 => intro z z1 z2 _; exact g7 z z1 (z2 _ (.head _)) (z2 _ (.tail _ (.head _)))
      case n6 =>
        have e5 : (pre ++ [(n : Int)]).length = pre.length + 1 := by simp
        refine ⟨by rw [e5]; exact g2, by rw [e5]; exact g3, ?_⟩
        rw [e5, hd2]; exact g4
    have mA : ∀ (V : Option Value) z, z ≠ Str.ofString "sign" → z ≠ Str.ofString "field" → z ≠ Str.ofString "fields" → (fun y => if y = Str.ofString "field" then V else if y = Str.ofString "sign" then some (Value.str ⟨#[n]⟩ t) else kstB (fun z => if [Str.ofString "field"].contains z = true then u z else m z) [(Str.ofString "field", Value.str p tp), (Str.ofString "fields", Value.ref l)] y) z = m z := by
      intro V z z1 z2 z3
      show (if z = Str.ofString "field" then _ else if z = Str.ofString "sign" then _ else _) = _
      rw [if_neg z2, if_neg z1]
      have z4 : [Str.ofString "field"].contains z = false := by rw [List.contains_cons]; simp [z2]
      simp only [kstB, z2, z3, if_false, z4, Bool.false_eq_true]
    have mB : ∀ z, z ≠ Str.ofString "sign" → z ≠ Str.ofString "field" → z ≠ Str.ofString "fields" → (fun y => if y = Str.ofString "sign" then some (Value.str ⟨#[n]⟩ t) else kstB (fun z => if [Str.ofString "field"].contains z = true then u z else m z) [(Str.ofString "field", Value.str p tp), (Str.ofString "fields", Value.ref l)] y) z = m z := by
      intro z z1 z2 z3
      show (if z = Str.ofString "sign" then _ else _) = _
      rw [if_neg z1]
      have z4 : [Str.ofString "field"].contains z = false := by rw [List.contains_cons]; simp [z2]
      simp only [kstB, z2, z3, if_false, z4, Bool.false_eq_true]
    show wpAny _ (ktrTop dp un gd (Str.ofString "_law_fields") sc_911 L 911 (.ref 910) [] outer) (execs fb911.1 (fenv L)) _ _ _
    k_steps
    · unfold Halt
      have hc : ((⟨#[n]⟩ : Str) != Str.ofString "/") = true := by with_reducible assumption
      have hlen : (p ++ (⟨#[n]⟩ : Str)).length = p.length + 1 := by rw [Str.length_append]; rfl
      refine go (p ++ ⟨#[n]⟩) _ arr ns ep _ _ _ hf (by omega) (by omega) ?_ rfl rfl (mA _) (by assumption) (by assumption)
      rw [← h3]
      show _ = ns ++ (if ((⟨#[(n : Int).toNat]⟩ : Str) != Str.ofString "/") = true then _ else _)
      rw [Int.toNat_natCast, if_pos hc]
    · unfold Halt
      have hc : ((⟨#[n]⟩ : Str) != Str.ofString "/") = false := by with_reducible assumption
      have hc2 : (p != Str.ofString "") = true := by with_reducible assumption
      refine go (Str.ofString "") _ (arr.push (.str p tp)) (ns ++ [p]) (ep + 1) _ _ _ (by rw [Array.toList_push]; exact strs_snoc hf _ _) (show 0 ≤ _ from Nat.zero_le _) (by simp only [List.length_append, List.length_cons, List.length_nil]; omega) ?_ rfl rfl (mA _) (by assumption) (by assumption)
      rw [← h3]
      show _ = ns ++ (if ((⟨#[(n : Int).toNat]⟩ : Str) != Str.ofString "/") = true then _ else if (p != Str.ofString "") = true then p :: _ else _)
      rw [Int.toNat_natCast, if_neg (by rw [hc]; decide), if_pos hc2]
      simp only [List.append_assoc, List.cons_append, List.nil_append]
    · unfold Halt
      have hc : ((⟨#[n]⟩ : Str) != Str.ofString "/") = false := by with_reducible assumption
      have hc2 : (p != Str.ofString "") = false := by with_reducible assumption
      refine go p _ arr ns ep _ _ _ hf (by omega) (by omega) ?_ rfl rfl mB (by assumption) (by assumption)
      rw [← h3]
      show _ = ns ++ (if ((⟨#[(n : Int).toNat]⟩ : Str) != Str.ofString "/") = true then _ else if (p != Str.ofString "") = true then p :: _ else _)
      rw [Int.toNat_natCast, if_neg (by rw [hc]; decide), if_neg (by rw [hc2]; decide)]
end Mine
end
section
namespace Mine
noncomputable def joinZ (z : List Nat) : List (List Nat) → List Nat
  | [] => []
  | [p] => p
  | p :: q :: r => p ++ z ++ joinZ z (q :: r)
theorem joinZ_toList (z : Str) : ∀ (ps : List Str), (Str.join z ps).cps.toList = joinZ z.cps.toList (ps.map (·.cps.toList))
  | [] => rfl
  | [p] => rfl
  | p :: q :: r => by
    show ((p ++ z ++ Str.join z (q :: r) : Str)).cps.toList = _
    rw [Str.cps_append, Str.cps_append]
    simp only [Array.toList_append, List.append_assoc]
    rw [joinZ_toList z (q :: r)]
    simp only [joinZ, List.map_cons, List.append_assoc]
theorem joinZ_cons (z p : List Nat) (a : Nat) (ps : List (List Nat)) : joinZ z ((a :: p) :: ps) = a :: joinZ z (p :: ps) := by
  cases ps <;> rfl
theorem joinZ_nil (z : List Nat) {p : List Nat} {ps : List (List Nat)} : joinZ z ([] :: p :: ps) = z ++ joinZ z (p :: ps) := rfl
theorem joinZ_split (c : Nat) (z : List Nat) : ∀ (l : List Nat), joinZ z (splitL c l) = l.flatMap fun a => if a = c then z else [a]
  | [] => rfl
  | a :: r => by
    obtain ⟨p, ps, e⟩ := splitL_ne c r
    have ih := joinZ_split c z r
    rw [e] at ih
    rw [List.flatMap_cons, ← ih, splitL, e]
    by_cases h : a = c
    · rw [if_pos h, if_pos h, joinZ_nil]
    · rw [if_neg h, if_neg h]
      show joinZ z ((a :: p) :: ps) = _
      rw [joinZ_cons, List.singleton_append]
theorem toS_toList (l : List Nat) : (toS l).cps.toList = l := by simp [toS]
theorem map_toList (ps : List (List Nat)) : (ps.map toS).map (·.cps.toList) = ps := by
  rw [List.map_map]
  have : ((fun (z : Str) => z.cps.toList) ∘ toS) = id := funext fun z => toS_toList z
  rw [this, List.map_id]
theorem replace_eq (l z : List Nat) (c : Nat) : Txt.replace (toS l) ⟨#[c]⟩ (toS z) = toS (l.flatMap fun a => if a = c then z else [a]) := by
  rw [StrLaws.replace_one, split_eq, toS_toList, ← joinZ_split, ← str_of_list (Str.join _ _), joinZ_toList, toS_toList, map_toList]
theorem qrep_eq (f : List Nat) : qrep (toS f) = toS (f.flatMap qb) := by
  have e1 : Str.ofString "'" = ⟨#[39]⟩ := by decide
  have e2 : Str.ofString "'\"'\"'" = toS [39, 34, 39, 34, 39] := by decide
  unfold qrep
  rw [e1, e2, replace_eq]
  rfl
theorem toS_append (a b : List Nat) : toS a ++ toS b = toS (a ++ b) := by
  apply PySem.Str.ext'
  rw [Str.cps_append]
  simp [toS]
theorem quote_eq (f : List Nat) : Str.ofString "'" ++ qrep (toS f) ++ Str.ofString "'" = toS (39 :: (f.flatMap qb ++ [39])) := by
  have e1 : Str.ofString "'" = toS [39] := by decide
  rw [e1, qrep_eq, toS_append, toS_append]
  rfl
theorem fields_eq : ∀ (l acc p : List Nat) (ps : List (List Nat)), splitL 47 l = p :: ps → fieldsGo ((l ++ [47]).map fun (c : Nat) => (c : Int)) (toS acc) = (((acc ++ p) :: ps).filter fun p => decide (p ≠ [])).map toS
  | [], acc, p, ps, e => by
    have e' : [] = p ∧ [] = ps := by have := List.cons.inj e; exact this
    obtain ⟨rfl, rfl⟩ := e'
    show fieldsGo [(47 : Int)] (toS acc) = _
    rw [List.append_nil]
    unfold fieldsGo
    rw [if_neg (by decide)]
    by_cases h : acc = []
    · subst h
      rw [if_neg (by decide)]
      rfl
    · have : (toS acc != Str.ofString "") = true := by
        rw [← toS_nil, bne_iff_ne]
        intro e; exact h (by have := congrArg (fun (s : Str) => s.cps.toList) e; simpa using this)
      rw [if_pos this]
      simp [h, fieldsGo]
  | a :: r, acc, p, ps, e => by
    obtain ⟨p', ps', e'⟩ := splitL_ne 47 r
    rw [splitL, e'] at e
    show fieldsGo ((a : Int) :: ((r ++ [47]).map fun (c : Nat) => (c : Int))) (toS acc) = _
    by_cases h : a = 47
    · subst h
      rw [if_pos rfl] at e
      obtain ⟨rfl, rfl⟩ := List.cons.inj e
      rw [fieldsGo, if_neg (by decide), List.append_nil]
      by_cases hA : acc = []
      · subst hA
        rw [if_neg (by decide), fields_eq r [] p' ps' e']
        simp
      · have : (toS acc != Str.ofString "") = true := by
          rw [← toS_nil, bne_iff_ne]
          intro e; exact hA (by have := congrArg (fun (s : Str) => s.cps.toList) e; simpa using this)
        rw [if_pos this, ← toS_nil, fields_eq r [] p' ps' e']
        simp [hA]
    · rw [if_neg h] at e
      obtain ⟨rfl, rfl⟩ := List.cons.inj e
      have h2 : ((⟨#[((a : Nat) : Int).toNat]⟩ : Str) != Str.ofString "/") = true := by
        rw [Int.toNat_natCast, bne_iff_ne]
        intro e; exact h (by have := congrArg (fun (s : Str) => s.cps.toList) e; simpa using (show [a] = [47] from this))
      rw [fieldsGo, if_pos h2, Int.toNat_natCast, toS_snoc, fields_eq r (acc ++ [a]) p' ps' e', List.append_assoc, List.singleton_append]
end Mine
end
section
namespace Mine
open PySem.Builtin.Str
theorem rfind_eq (x f : List Nat) (hf : 47 ∉ f) : Txt.rfind (toS (x ++ 47 :: f)) slS = (x.length : Int) := by
  have e1 : slS = ⟨#[47]⟩ := by decide
  unfold Txt.rfind
  rw [e1]
  have key : ∀ i, StrLaws.At (toS (x ++ 47 :: f)) ⟨#[47]⟩ (toS (x ++ 47 :: f)).length i ↔ (x ++ 47 :: f)[i]? = some 47 := by
    intro i
    have := StrLaws.subAt_one (toS (x ++ 47 :: f)) 47 i
    rw [toS_toList] at this
    exact this
  rcases StrLaws.last_spec (toS (x ++ 47 :: f)) ⟨#[47]⟩ with ⟨h1, h2⟩ | ⟨i, h1, h2, h3⟩
  · exact absurd ((key x.length).mpr (by simp)) (h2 x.length)
  · rw [h1]
    have h4 := (key i).mp h2
    have h5 : ¬ i < x.length := fun h => h3 x.length h ((key x.length).mpr (by simp))
    have h6 : i = x.length := by
      by_cases h7 : i = x.length
      · exact h7
      · exfalso
        have h8 : i - x.length = (i - x.length - 1) + 1 := by omega
        rw [List.getElem?_append_right (by omega), h8, List.getElem?_cons_succ] at h4
        exact hf (List.mem_of_getElem? h4)
    rw [h6]
theorem rstrip_eq (y : List Nat) (a : Nat) (ha : a ≠ 47) (s : List Nat) (hs : ∀ b ∈ s, b = 47) : Txt.rstripChars (toS (y ++ a :: s)) slS = toS (y ++ [a]) := by
  unfold Txt.rstripChars
  rw [PyProof.Rows.stripBy_eq, ← str_of_list (strSub _ _ _), StrLaws.strSub_toList, toS_toList]
  have g : slS.cps.contains = fun (b : Nat) => b == 47 := by
    funext b
    show (#[47] : Array Nat).contains b = (b == 47)
    by_cases h : b = 47
    · subst h; simp
    · have : (b == 47) = false := by simpa using h
      rw [this]
      simp [h]
  have h0 : stripLo slS.cps.contains false (toS (y ++ a :: s)) = 0 := rfl
  rw [h0, g]
  have h1 : stripHi (fun (b : Nat) => b == 47) true (toS (y ++ a :: s)) 0 = y.length + 1 := by
    show (toS (y ++ a :: s)).length - (((toS (y ++ a :: s)).cps.toList.drop 0).reverse.takeWhile _).length = _
    rw [toS_toList, toS_len, List.drop_zero, List.reverse_append, List.reverse_cons, List.append_assoc]
    have h2 : (s.reverse ++ ([a] ++ y.reverse)).takeWhile (fun (b : Nat) => b == 47) = s.reverse := by
      rw [List.takeWhile_append_of_pos (by intro b hb; simpa using hs b (by simpa using hb))]
      simp [ha]
    rw [h2]
    simp
    omega
  rw [h1]
  congr 1
  rw [List.drop_zero, Nat.sub_zero]
  rw [show y ++ a :: s = (y ++ [a]) ++ s by simp, List.take_left' (by simp)]
theorem slice_to_eq (l : List Nat) (k : Nat) (h : k ≤ l.length) : Txt.slice (toS l) none (some (k : Int)) = toS (l.take k) := by
  have := StrLaws.sliceText_to (x := toS l) (j := (k : Int)) ⟨by omega, by rw [toS_toList]; omega⟩
  rw [toS_toList] at this
  refine (show Txt.slice (toS l) none (some (k : Int)) = StrLaws.sliceText (toS l) none (some (k : Int)) from rfl).trans (this.trans ?_)
  show toS _ = toS _
  congr 1
theorem slice_fr_eq (l : List Nat) (k : Nat) (h : k ≤ l.length) : Txt.slice (toS l) (some (k : Int)) none = toS (l.drop k) := by
  have := slice_from_eq (x := toS l) (i := (k : Int)) (b := (l.length : Int)) (by omega) (by rw [toS_len]; omega) (by rw [toS_len])
  rw [this, toS_toList]
  show toS _ = toS _
  congr 1
  have e : ((l.length : Int) - (k : Int)).toNat = (l.drop k).length := by rw [List.length_drop]; omega
  rw [e, Int.toNat_natCast, List.take_length]
theorem base_eq (x f : List Nat) (hf : 47 ∉ f) : baseS (toS (x ++ 47 :: f)) = toS f := by
  unfold baseS
  rw [rfind_eq x f hf]
  have e : ((x.length : Int) + 1) = ((x.length + 1 : Nat) : Int) := by omega
  rw [e, slice_fr_eq _ _ (by simp)]
  congr 1
  rw [show x ++ 47 :: f = (x ++ [47]) ++ f by simp, List.drop_left' (by simp)]
theorem head_eq (x f : List Nat) (hf : 47 ∉ f) : hdS (toS (x ++ 47 :: f)) = toS (x ++ [47]) := by
  unfold hdS
  rw [rfind_eq x f hf]
  have e : ((x.length : Int) + 1) = ((x.length + 1 : Nat) : Int) := by omega
  rw [e, slice_to_eq _ _ (by simp)]
  congr 1
  rw [show x ++ 47 :: f = (x ++ [47]) ++ f by simp, List.take_left' (by simp)]
theorem mul_eq (n : Nat) (h : 0 < n) : Txt.mul slS (n : Int) = toS (List.replicate n 47) := by
  unfold Txt.mul
  rw [if_neg (by omega)]
  split
  · rename_i h2
    have h3 : n = 1 := by
      rcases Bool.or_eq_true_iff.mp h2 with h4 | h4
      · have := beq_iff_eq.mp h4; omega
      · exact absurd h4 (by decide)
    subst h3; decide
  · apply PySem.Str.ext'
    have key : ∀ (k : Nat) (acc : Array Nat), (List.replicate k slS.cps).foldl (fun x1 x2 => x1 ++ x2) acc = acc ++ (List.replicate k 47).toArray := by
      intro k
      induction k with
      | zero => intro acc; simp
      | succ k ih =>
        intro acc
        rw [List.replicate_succ, List.foldl_cons, ih, List.replicate_succ]
        have : slS.cps = #[47] := by decide
        rw [this]
        apply Array.ext'
        simp
    show (List.replicate (n : Int).toNat slS.cps).foldl (fun x1 x2 => x1 ++ x2) #[] = _
    rw [Int.toNat_natCast, key]
    simp [toS]
theorem dir_all (x f : List Nat) (hf : 47 ∉ f) (hx : ∀ b ∈ x, b = 47) : dirS (toS (x ++ 47 :: f)) = toS (x ++ [47]) := by
  unfold dirS
  rw [head_eq x f hf]
  have hr : x ++ [47] = List.replicate (x.length + 1) 47 := by
    rw [List.eq_replicate_iff]
    refine ⟨by simp, fun b hb => ?_⟩
    rcases List.mem_append.mp hb with h | h
    · exact hx b h
    · simpa using h
  have hl : (toS (x ++ [47])).length = x.length + 1 := by rw [toS_len]; simp
  rw [hl, mul_eq _ (by omega), ← hr]
  simp
theorem dir_some (y : List Nat) (a : Nat) (ha : a ≠ 47) (s : List Nat) (hs : ∀ b ∈ s, b = 47) (f : List Nat) (hf : 47 ∉ f) : dirS (toS (y ++ a :: s ++ 47 :: f)) = toS (y ++ [a]) := by
  unfold dirS
  rw [head_eq (y ++ a :: s) f hf]
  have hl : (toS (y ++ a :: s ++ [47])).length = y.length + s.length + 2 := by rw [toS_len]; simp; omega
  rw [hl, if_neg (by omega), mul_eq _ (by omega), if_pos]
  · rw [show y ++ a :: s ++ [47] = y ++ a :: (s ++ [47]) by simp, rstrip_eq y a ha]
    intro b hb
    rcases List.mem_append.mp hb with h | h
    · exact hs b h
    · simpa using h
  · rw [bne_iff_ne]
    intro e
    have e2 : y ++ a :: s ++ [47] = List.replicate (y.length + s.length + 2) 47 := by
      have := congrArg (fun (s : Str) => s.cps.toList) e
      simpa using this
    have : a ∈ List.replicate (y.length + s.length + 2) 47 := by rw [← e2]; simp
    exact ha (List.eq_of_mem_replicate this)
end Mine
end
section
namespace Mine
noncomputable def Bx : List (List Nat) → List Nat
  | [] => []
  | g :: gs => Bx gs ++ 47 :: g
theorem tail47 : ∀ (l : List Nat), (∀ b ∈ l, b = 47) ∨ ∃ y a s, l = y ++ a :: s ∧ a ≠ 47 ∧ ∀ b ∈ s, b = 47
  | [] => .inl (fun _ h => nomatch h)
  | c :: r => by
    rcases tail47 r with h | ⟨y, a, s, rfl, h2, h3⟩
    · by_cases hc : c = 47
      · refine .inl fun b hb => ?_
        rcases List.mem_cons.mp hb with rfl | hb
        · exact hc
        · exact h b hb
      · exact .inr ⟨[], c, r, rfl, hc, h⟩
    · exact .inr ⟨c :: y, a, s, rfl, h2, h3⟩
theorem climb_step0 (p : Str) (n : Nat) (h : baseS (dirS p) = toS []) : climbGo n p = [] := by
  cases n with
  | zero => rfl
  | succ n => rw [climbGo, if_pos (by rw [h, toS_nil]; decide)]
theorem toS_inj {a b : List Nat} (h : toS a = toS b) : a = b := by
  have := congrArg (fun (s : Str) => s.cps.toList) h
  simpa using this
theorem climb_eq : ∀ (rs : List (List Nat)), (∀ g ∈ rs, 47 ∉ g) → ∀ (n : Nat) (f : List Nat), 47 ∉ f → (rs.filter fun p => decide (p ≠ [])).length ≤ n → climbGo n (toS (Bx rs ++ 47 :: f)) = (rs.filter fun p => decide (p ≠ [])).map toS
  | [], _, n, f, hf, _ => by
    refine climb_step0 _ _ ?_
    rw [dir_all (Bx []) f hf (fun _ h => nomatch h)]
    exact base_eq (Bx []) [] (by simp)
  | g :: gs, h, n, f, hf, hn => by
    have ih := climb_eq gs (fun x hx => h x (.tail _ hx))
    by_cases hg : g = []
    · subst hg
      have e1 : ([] :: gs).filter (fun p : List Nat => decide (p ≠ [])) = gs.filter (fun p => decide (p ≠ [])) := by simp
      rw [e1] at hn ⊢
      rw [← ih n f hf hn]
      show climbGo n (toS (Bx gs ++ [47] ++ 47 :: f)) = _
      rcases tail47 (Bx gs) with hall | ⟨y, a, s, e, h2, h3⟩
      · rw [climb_step0, climb_step0]
        · rw [dir_all _ f hf hall]
          exact base_eq (Bx gs) [] (by simp)
        · rw [dir_all _ f hf (fun b hb => (List.mem_append.mp hb).elim (hall b) (fun h => by simpa using h))]
          exact base_eq (Bx gs ++ [47]) [] (by simp)
      · cases n with
        | zero => rfl
        | succ n =>
          have d1 : dirS (toS (Bx gs ++ [47] ++ 47 :: f)) = toS (y ++ [a]) := by
            rw [e, show y ++ a :: s ++ [47] = y ++ a :: (s ++ [47]) by simp]
            exact dir_some y a h2 (s ++ [47]) (fun b hb => (List.mem_append.mp hb).elim (h3 b) (fun h => by simpa using h)) f hf
          have d2 : dirS (toS (Bx gs ++ 47 :: f)) = toS (y ++ [a]) := by
            rw [e]
            exact dir_some y a h2 s h3 f hf
          rw [climbGo, climbGo, d1, d2]
    · have e1 : (g :: gs).filter (fun p : List Nat => decide (p ≠ [])) = g :: gs.filter (fun p => decide (p ≠ [])) := by simp [hg]
      rw [e1] at hn ⊢
      obtain ⟨g', a, rfl⟩ : ∃ g' a, g = g' ++ [a] := ⟨g.dropLast, g.getLast hg, (List.dropLast_concat_getLast hg).symm⟩
      have hfree := h (g' ++ [a]) (.head _)
      have ha : a ≠ 47 := fun e => hfree (by simp [e])
      have d1 : dirS (toS (Bx ((g' ++ [a]) :: gs) ++ 47 :: f)) = toS (Bx gs ++ 47 :: (g' ++ [a])) := by
        show dirS (toS (Bx gs ++ 47 :: (g' ++ [a]) ++ 47 :: f)) = _
        rw [show Bx gs ++ 47 :: (g' ++ [a]) = (Bx gs ++ 47 :: g') ++ a :: [] by simp]
        rw [dir_some (Bx gs ++ 47 :: g') a ha [] (fun _ h => nomatch h) f hf]
      have b1 := base_eq (Bx gs) (g' ++ [a]) hfree
      cases n with
      | zero => exact absurd hn (by simp)
      | succ n =>
        rw [climbGo, d1, b1, if_neg (by rw [← toS_nil, beq_iff_eq]; intro e; exact hg (toS_inj e)), ih n (g' ++ [a]) hfree (by simpa using hn)]
        rfl
theorem Bx_eq : ∀ (rs : List (List Nat)), Bx rs = rs.reverse.flatMap (fun p => 47 :: p)
  | [] => rfl
  | g :: gs => by rw [Bx, Bx_eq gs, List.reverse_cons, List.flatMap_append]; simp
theorem flat_split : ∀ (l : List Nat), (splitL 47 l).flatMap (fun p => 47 :: p) = 47 :: l
  | [] => rfl
  | a :: r => by
    have ih := flat_split r
    obtain ⟨p, ps, e⟩ := splitL_ne 47 r
    rw [e] at ih
    rw [splitL, e]
    by_cases h : a = 47
    · subst h
      rw [if_pos rfl, List.flatMap_cons, ih]
      rfl
    · rw [if_neg h]
      show (47 :: (a :: p)) ++ ps.flatMap _ = _
      have : 47 :: p ++ ps.flatMap (fun p => 47 :: p) = 47 :: r := ih
      have h2 : p ++ ps.flatMap (fun p => 47 :: p) = r := by simpa using this
      simp [h2]
theorem splitL_allfree (c : Nat) : ∀ (l : List Nat), ∀ p ∈ splitL c l, c ∉ p ∧ ∀ a ∈ p, a ∈ l
  | [], p, hp => by
    have : p = [] := by simpa [splitL] using hp
    subst this; simp
  | a :: r, p, hp => by
    obtain ⟨q, qs, e⟩ := splitL_ne c r
    have ih := splitL_allfree c r
    rw [splitL, e] at hp
    rw [e] at ih
    by_cases h : a = c
    · rw [if_pos h] at hp
      rcases List.mem_cons.mp hp with rfl | hp
      · simp
      · exact ⟨(ih p hp).1, fun b hb => .tail _ ((ih p hp).2 b hb)⟩
    · rw [if_neg h] at hp
      rcases List.mem_cons.mp hp with rfl | hp
      · have := ih q (.head _)
        refine ⟨fun hc => ?_, fun b hb => ?_⟩
        · rcases List.mem_cons.mp hc with e2 | hc
          · exact h e2.symm
          · exact this.1 hc
        · rcases List.mem_cons.mp hb with rfl | hb
          · exact .head _
          · exact .tail _ (this.2 b hb)
      · exact ⟨(ih p (.tail _ hp)).1, fun b hb => .tail _ ((ih p (.tail _ hp)).2 b hb)⟩
theorem splitL_len (c : Nat) : ∀ (l : List Nat), (splitL c l).length ≤ l.length + 1
  | [] => by simp [splitL]
  | a :: r => by
    obtain ⟨q, qs, e⟩ := splitL_ne c r
    have ih := splitL_len c r
    rw [e] at ih
    rw [splitL, e]
    by_cases h : a = c
    · rw [if_pos h]; simpa using ih
    · rw [if_neg h]
      simp only [List.length_cons] at ih ⊢
      omega
theorem climb_row (l : List Nat) : climbGo (toS (47 :: (l ++ [47]))).length (toS (47 :: (l ++ [47]))) = (((splitL 47 l).filter fun p => decide (p ≠ [])).reverse).map toS := by
  have h1 := climb_eq (splitL 47 l).reverse (fun g hg => (splitL_allfree 47 l g (by simpa using hg)).1) (toS (47 :: (l ++ [47]))).length [] (by simp) (by
    have a1 := List.length_filter_le (fun p : List Nat => decide (p ≠ [])) (splitL 47 l).reverse
    have a2 := splitL_len 47 l
    rw [List.length_reverse] at a1
    rw [toS_len]
    simp only [List.length_cons, List.length_append, List.length_nil]
    omega)
  rw [Bx_eq, List.reverse_reverse, flat_split, List.filter_reverse] at h1
  exact h1
end Mine
end
example : True ∧ True := by (w_top off; walk1 <;> exact True.intro)
section
local macro_rules | `(tactic| walk_at "zz") => `(tactic| skip)
example : True ∧ True := by (w_top off; walk1 <;> exact True.intro)
end
section
namespace Mine
local macro_rules | `(tactic| walk_at "ite") => `(tactic| first | with_reducible refine ite_neg (by with_reducible assumption) ?_ | with_reducible refine ite_pos (by with_reducible assumption) ?_  | (k_closed; first | refine ite_pos (by decide +kernel) ?_ | refine ite_neg (by decide +kernel) ?_))
local macro_rules | `(tactic| walk_at "pyIter str") => `(tactic| (refine halt_in ?_))
local macro_rules | `(tactic| walk_at "exec For") => `(tactic| (k_here; (rename Fr _ _ _ _ => lF'); (with_unfolding_all refine' For_invVF lF' ?k1 ?k2 ?_; (case k1 => exact rfl); (case k2 => exact rfl); k_whole)))
local macro_rules | `(tactic| walk_at "exec For Name BinOp cons nil") => `(tactic| (k_here; (rename Fr _ _ _ _ => lF'); (with_unfolding_all refine' For_invVF lF' ?k1 ?k2 ?_; (case k1 => exact rfl); (case k2 => exact rfl); k_whole)))
theorem fd_1 (w : World) (mean : ExcName → Option Value) (mg mb : Str → Option Value) (v : Str) (tv : Tok) (rest : List (Addr × Obj))
   (dp un : Nat) (gd : Option (List Code)) (cn : Str) (cs : Scope) (a : Addr) (ccd : Value) (cl : List (Str × Addr)) (outer : List Env) (A₀ : Around) (base h₀ : Heap) (L : Addr) (m : Str → Option Value) (s : Shared) (Q E : Value → Shared → Prop)
    (B : Below A₀ base outer h₀) (F : Fr h₀ L s.heap m) (X : (Mine.kk w.params).In h₀) (T : Top Mine.vq (looseW Mine.vq Mine.lo) mean mg mb h₀) (hcs : cs.kind = .function)
    (N : News h₀ L s.heap rest)
    (hdp : dp + 200 < recursionLimit) (hun : un + 500 < cLine) (hv : v.length ≤ 900)
    (hret : ∀ l h' tk' arr ep, (∀ p ∈ rest, p.1 < l) → StrsAre arr.toList (fieldsGo (KStt.codes (v ++ Str.ofString "/")) (Str.ofString "")) → Fr h₀ L h' m → News h₀ L h' ((l, W.listOf arr ep) :: rest) → Q (.ref l) { s with heap := h', toks := tk' }) :
      wpAny (model pg w) (ktrTop dp un gd cn cs L a ccd cl outer) (call (.ref 911) [.str v tv]) Q E s := by
  have hv2 : (v ++ Str.ofString "/").length ≤ 1000 := by rw [Str.length_append]; show _ + 1 ≤ _; omega
  refine wpAny_call ?_; k_dflt (walk_at "my enter")
  k_steps
  unfold Halt
  k_dflt (refine' fields_loop w mean mg mb _ _ _ _ rest ?hl _ _ _ _ _ _ _ _ _ _ _ _ ?B ?F ?X ?T ?N ?hm1 ?hm2 ?hdp ?hun hv2 ?_)
  (case F => k_asm)
  (case N => k_asm)
  (case B => k_asm)
  (case X => k_asm)
  (case T => k_asm)
  (case hl => first | exact fun p hp => Nat.ne_of_lt ((by assumption : ∀ p ∈ rest, p.1 < _) p hp) | exact fun p hp => Nat.ne_of_lt (kst_ltOf (by assumption) p hp))
  (case hm1 => exact rfl)
  (case hm2 => exact rfl)
  (case hdp => ktr_room)
  (case hun => ktr_units)
  k_whole
  intro m9 h9 tk9 arr9 ep9 hs9 hm9 F9 N9
  replace F9 := fr_one hm9 F9
  try dsimp only
  k_steps
  all_goals exact hret _ _ _ _ _ (by assumption) hs9 (by k_asm) (by k_asm)
end Mine
end
example : True ∧ True := by (w_top off; walk1 <;> exact True.intro)
section
local macro_rules | `(tactic| walk_at "zz") => `(tactic| skip)
example : True ∧ True := by (w_top off; walk1 <;> exact True.intro)
end
section
namespace Mine
local macro_rules | `(tactic| walk_at "ite") => `(tactic| first | with_reducible refine ite_neg (by with_reducible assumption) ?_ | with_reducible refine ite_pos (by with_reducible assumption) ?_  | (k_closed; first | refine ite_pos (by decide +kernel) ?_ | refine ite_neg (by decide +kernel) ?_))
local macro_rules | `(tactic| walk_at "pyIter ref") => `(tactic| (refine halt_in ?_))
theorem cl_1 (w : World) (mean : ExcName → Option Value) (mg mb : Str → Option Value) (v : Str) (tv : Tok) (rest : List (Addr × Obj))
   (dp un : Nat) (gd : Option (List Code)) (cn : Str) (cs : Scope) (a : Addr) (ccd : Value) (cl : List (Str × Addr)) (outer : List Env) (A₀ : Around) (base h₀ : Heap) (L : Addr) (m : Str → Option Value) (s : Shared) (Q E : Value → Shared → Prop)
    (B : Below A₀ base outer h₀) (F : Fr h₀ L s.heap m) (X : (Mine.kk w.params).In h₀) (T : Top Mine.vq (looseW Mine.vq Mine.lo) mean mg mb h₀) (hcs : cs.kind = .function)
    (N : News h₀ L s.heap rest)
    (hdp : dp + 200 < recursionLimit) (hun : un + 500 < cLine) (hv : v.length ≤ 1000)
    (hret : ∀ l h' tk' arr ep, (∀ p ∈ rest, p.1 < l) → StrsAre arr.toList (climbGo v.length v) → Fr h₀ L h' m → News h₀ L h' ((l, W.listOf arr ep) :: rest) → Q (.ref l) { s with heap := h', toks := tk' }) :
      wpAny (model pg w) (ktrTop dp un gd cn cs L a ccd cl outer) (call (.ref 918) [.str v tv]) Q E s := by
  refine wpAny_call ?_; k_dflt (walk_at "my enter")
  k_steps
  rename_i tkp t1 u1 v1 hR hF hN hK
  unfold Halt
  k_dflt (refine' climb_loop w mean mg mb v tv _ _ rest ?hl _ _ _ _ _ _ _ _ _ _ _ _ ?B hF ?X ?T hN t1 u1 v1 hR ?hm1 ?hm2 ?hdp ?hun hv ?_)
  (case B => k_asm)
  (case X => k_asm)
  (case T => k_asm)
  (case hl => first | exact fun p hp => Nat.ne_of_lt ((by assumption : ∀ p ∈ rest, p.1 < _) p hp) | exact fun p hp => Nat.ne_of_lt (kst_ltOf (by assumption) p hp))
  (case hm1 => exact rfl)
  (case hm2 => exact rfl)
  (case hdp => ktr_room)
  (case hun => ktr_units)
  k_whole
  intro m9 h9 tk9 arr9 ep9 hs9 hm9 F9 N9
  replace F9 := fr_one hm9 F9
  try dsimp only
  k_steps
  all_goals exact hret _ _ _ _ _ (by assumption) hs9 (by k_asm) (by k_asm)
end Mine
end
example : True ∧ True := by (w_top off; walk1 <;> exact True.intro)
section
local macro_rules | `(tactic| walk_at "zz") => `(tactic| skip)
example : True ∧ True := by (w_top off; walk1 <;> exact True.intro)
end
section
namespace Mine
local macro_rules | `(tactic| walk_at "ite") => `(tactic| first | with_reducible refine ite_neg (by with_reducible assumption) ?_ | with_reducible refine ite_pos (by with_reducible assumption) ?_  | (k_closed; first | refine ite_pos (by decide +kernel) ?_ | refine ite_neg (by decide +kernel) ?_))
theorem item_last {prog : Program} {w : World} {A : Around} {E : Value → Shared → Prop} {s : Shared} {value slice : PySem.Expr} {l : Addr} {items : Array Value} {u : Tok} {x : Value} {Q : Value → Shared → Prop} (hl : s.heap.IsList l items)
    (hx : items[items.size - 1]? = some x) (hz : items.size ≤ 1000) (h : Q x s)
    (hs : subscripted slice false (.ref l) (.int (-1) u) = operate [.ref l, .int (-1) u] (getItem (.ref l) (.int (-1) u)) := by with_unfolding_all rfl) (hg : ∀ r, letTemporaryGo value (.ref l) r = pure () := by intro _; with_unfolding_all rfl) :
    wpAny (model prog w) A (subscriptTail value slice (.ref l) (.int (-1) u)) Q E s := by
  have hp : 0 < items.size := by
    have := (Array.getElem?_eq_some_iff.mp hx).1
    omega
  refine subscriptTail_builtin hl.typeIs slot_list_getitem.lookup (wpAny_getItem_list_neg hl (by decide) (by omega) (by decide) ?_ h) hs hg
  rw [← hx]
  congr 1
  omega
noncomputable abbrev fl930 : { x : Stmt // bd_930.getD 3 (.Pass ⟨0,0,0,0⟩) = x } := ⟨_, by conv => { lhs; whnf }⟩
noncomputable abbrev fb930 : { x : List Stmt // (match fl930.1 with | .For _ _ b _ _ => b | _ => []) = x } := ⟨_, by conv => { lhs; whnf }⟩
structure DS where
  val : Int
  tv : Tok
noncomputable abbrev denv (L : Addr) : Env := envX (Str.ofString "_law_due") sc_930 L 930 (.ref 929) []
local macro_rules | `(tactic| walk_at "InvEndN") => `(tactic| (refine halt_in ?_))
theorem codes_nat (v : Str) : (KStt.codes v).map Int.toNat = v.cps.toList := by
  show (v.cps.toList.map _).map Int.toNat = _
  rw [List.map_map]
  conv => rhs; rw [← List.map_id v.cps.toList]
  exact List.map_congr_left fun c _ => Int.toNat_natCast c
open Builtin.Str in
theorem dig_occ : ∀ n, n < 128 → (occurrences (Str.ofString "0123456789") ⟨#[n]⟩ 0 (Str.length (Str.ofString "0123456789")) 1).isEmpty = !(decide (48 ≤ n) && decide (n ≤ 57)) := by decide +kernel
theorem dig_find : ∀ n, n < 128 → 48 ≤ n → n ≤ 57 → Txt.find (Str.ofString "0123456789") ⟨#[n]⟩ = (n : Int) - 48 := by decide +kernel
theorem due_loop (w : World) (mean : ExcName → Option Value) (mg mb : Str → Option Value) (v : Str) (tv t0 : Tok) (rest : List (Addr × Obj))
   (dp un : Nat) (gd : Option (List Code)) (outer : List Env) (A₀ : Around) (base h₀ : Heap) (L : Addr) (m : Str → Option Value) (s : Shared) (Q : Flow → Shared → Prop) (E : Value → Shared → Prop)
    (B : Below A₀ base outer h₀) (F : Fr h₀ L s.heap m) (X : (Mine.kk w.params).In h₀) (T : Top Mine.vq (looseW Mine.vq Mine.lo) mean mg mb h₀)
    (N : News h₀ L s.heap rest)
    (hm1 : m (Str.ofString "value") = some (.int 0 t0))
    (hdp : dp + 150 < recursionLimit) (hun : un + 400 < cLine) (hv : v.length ≤ 1000) (hc : ∀ c ∈ v.cps.toList, c < 128)
    (hR : ¬ NumText.AllDigits v.cps.toList → ∀ m' h' tk' t', Fr h₀ L h' m' → News h₀ L h' rest → Q (.ret (.str (Str.ofString "no number") t')) { s with heap := h', toks := tk' })
    (hQ : NumText.AllDigits v.cps.toList → ∀ m' h' tk' t', m' (Str.ofString "value") = some (.int (NumText.digitsVal v.cps.toList : Nat) t') → Fr h₀ L h' m' → News h₀ L h' rest → Q .next { s with heap := h', toks := tk' }) :
    wpAny (model pg w) (ktrTop dp un gd (Str.ofString "_law_due") sc_930 L 930 (.ref 929) [] outer) (pyIter (.str v tv)) (fun it s₂ => LoopAtV pg w (ktrTop dp un gd (Str.ofString "_law_due") sc_930 L 930 (.ref 929) [] outer) h₀ (denv L) (Str.ofString "sign") fb930.1 Q E it s₂) E s := by
  refine KStt.kst_text (σ := DS) (m₀ := m) (fun _ => rest) (fun c => [(Str.ofString "value", .int c.val c.tv)]) (fun _ => True) []
    (fun pre c => NumText.AllDigits (pre.map Int.toNat) ∧ c.val = (NumText.digitsVal (pre.map Int.toNat) : Nat)) ⟨0, t0⟩ rfl F N trivial ?hk ⟨fun c h => (by simp at h), rfl⟩ ?turn ?done
  case hk => intro p hp; simp only [List.mem_cons, List.not_mem_nil, or_false] at hp; rcases hp with rfl; assumption
  case done =>
    rintro ⟨val, tv9⟩ u h tk _ ⟨h1, h2⟩ F' N'
    dsimp only at h1 h2 F' N'
    rw [codes_nat] at h1 h2
    exact hQ h1 _ h tk tv9 (by rw [← h2]; rfl) F' N'
  case turn =>
    rintro ⟨val, tv9⟩ pre post n t u h tk own hk hoff _ ⟨h1, h2⟩ F' N'
    dsimp only at h1 h2 F' N'
    have hmem : n ∈ v.cps.toList := by
      rw [← codes_nat v, hk]
      simp
    have hn := hc n hmem
    show wpAny _ (ktrTop dp un gd (Str.ofString "_law_due") sc_930 L 930 (.ref 929) [] outer) (execs fb930.1 (denv L)) _ _ _
    k_steps
    · rename_i hf
      rw [dig_occ n hn] at hf
      refine hR (fun ha => ?_) _ _ _ _ F' (fun p hp => N' p (List.mem_append_left _ hp))
      have := ha n hmem
      simp [this] at hf
    · rename_i hf _ hf2 _ _ _ _
      rw [hf] at hf2
      cases hf2
    · unfold Halt
      rename_i hf _ _ _ h7 F7 N7
      rw [dig_occ n hn] at hf
      have hd : 48 ≤ n ∧ n ≤ 57 := by simpa using hf
      rw [dig_find n hn hd.1 hd.2] at F7
      have go : ∀ (val' : Int) (tv' : Tok) (m' : Str → Option Value) h' tk', val' = 10 * val + ((n : Int) - 48) → m' (Str.ofString "value") = some (.int val' tv') → (∀ z, z ≠ Str.ofString "sign" → z ≠ Str.ofString "value" → m' z = m z) →
          Fr h₀ L h' m' → News h₀ L h' (rest ++ own) →
          InvEndN h₀ L (KstS (fun _ : DS => rest) (fun c => [(Str.ofString "value", .int c.val c.tv)]) (fun _ => True) (Str.ofString "sign") [] m
            (fun pre c => NumText.AllDigits (pre.map Int.toNat) ∧ c.val = (NumText.digitsVal (pre.map Int.toNat) : Nat)) (pre ++ [(n : Int)])) own (List.map (fun x => x.fst) rest) { s with heap := h, toks := tk } { s with heap := h', toks := tk' } := by
        intro val' tv' m' h' tk' g1 g2 g3 FF NN
        refine kst_end (s₁ := { s with heap := h, toks := tk }) ⟨val', tv'⟩ FF NN ?n1 ?n2 rfl trivial ?n4 ?n5 ?n6
        case n1 => intro p hp; exact List.mem_append_left _ hp
        case n2 => intro p hp; exact List.mem_append_right _ hp
        case n4 => intro p hp; simp only [List.mem_cons, List.not_mem_nil, or_false] at hp; rcases hp with rfl; exact g2
        case n5 => intro z z1 z2 _; exact g3 z z1 (z2 _ (.head _))
        case n6 =>
          rw [List.map_append, List.map_cons, List.map_nil, Int.toNat_natCast]
          refine ⟨fun c hc' => ?_, ?_⟩
          · rcases List.mem_append.mp hc' with q | q
            · exact h1 c q
            · rw [List.mem_singleton.mp q]; exact hd
          · rw [NumText.digitsVal_snoc, g1, h2]
            push_cast
            omega
      refine go _ _ _ _ _ rfl rfl ?_ F7 N7
      intro z z1 z3
      show (if z = Str.ofString "value" then _ else if z = Str.ofString "sign" then _ else _) = _
      rw [if_neg z3, if_neg z1]
      simp only [kstB, z3, if_false, List.contains_nil, Bool.false_eq_true]
end Mine
end
example : True ∧ True := by (w_top off; walk1 <;> exact True.intro)
section
local macro_rules | `(tactic| walk_at "zz") => `(tactic| skip)
example : True ∧ True := by (w_top off; walk1 <;> exact True.intro)
end
section
namespace Mine
local macro_rules | `(tactic| walk_at "ite") => `(tactic| first | with_reducible refine ite_neg (by with_reducible assumption) ?_ | with_reducible refine ite_pos (by with_reducible assumption) ?_  | (k_closed; first | refine ite_pos (by decide +kernel) ?_ | refine ite_neg (by decide +kernel) ?_))
local macro_rules | `(tactic| walk_at "pyIter str") => `(tactic| (refine halt_in ?_))
local macro_rules | `(tactic| walk_at "exec For") => `(tactic| (k_here; (rename Fr _ _ _ _ => lF'); (with_unfolding_all refine' For_invVF lF' ?k1 ?k2 ?_; (case k1 => exact rfl); (case k2 => exact rfl); k_whole)))
local macro_rules | `(tactic| walk_at "exec For Name BinOp cons nil") => `(tactic| (k_here; (rename Fr _ _ _ _ => lF'); (with_unfolding_all refine' For_invVF lF' ?k1 ?k2 ?_; (case k1 => exact rfl); (case k2 => exact rfl); k_whole)))
local macro_rules | `(tactic| walk_at "eval ListComp") => `(tactic| (k_here; k_dflt (refine LCg.ListComp_U (F₀ := by k_asm) (by rfl) (by decide) (by rfl) (by decide) (by rfl) ?_)))
local macro_rules | `(tactic| walk_at "CompSrc") => `(tactic| (refine halt_in ?_))
local macro_rules | `(tactic| walk_at "CompEnd") => `(tactic| (refine halt_in ?_))
local macro_rules | `(tactic| walk_at "call builtin:sum") => `(tactic| (refine halt_in ?_))
theorem strs_last {pre : List Str} {x : Str} {vs : List Value} (h : StrsAre vs (pre ++ [x])) : ∃ t, vs[vs.length - 1]? = some (.str x t) := by
  have hl : vs.length = pre.length + 1 := by rw [StrsAre.len_eq h]; simp
  obtain ⟨y, t, h1, h2⟩ := strs_at h (vs.length - 1) (vs[vs.length - 1]'(by omega)) (List.getElem?_eq_getElem _)
  rw [show vs.length - 1 = pre.length by omega, List.getElem?_append_right (Nat.le_refl _)] at h1
  simp at h1
  exact ⟨t, by rw [List.getElem?_eq_getElem (by omega), h2, h1]⟩
theorem du_1 (w : World) (mean : ExcName → Option Value) (mg mb : Str → Option Value) (v : Str) (tv : Tok) (D : Nat) (arr : Array Value) (ep : Nat) (names : List Str) (hs : StrsAre arr.toList names) (rest : List (Addr × Obj))
   (dp un : Nat) (gd : Option (List Code)) (cn : Str) (cs : Scope) (a : Addr) (ccd : Value) (cl : List (Str × Addr)) (outer : List Env) (A₀ : Around) (base h₀ : Heap) (L : Addr) (m : Str → Option Value) (s : Shared) (Q E : Value → Shared → Prop)
    (B : Below A₀ base outer h₀) (F : Fr h₀ L s.heap m) (X : (Mine.kk w.params).In h₀) (T : Top Mine.vq (looseW Mine.vq Mine.lo) mean mg mb h₀) (hcs : cs.kind = .function)
    (N : News h₀ L s.heap ((D, W.listOf arr ep) :: rest))
    (hdp : dp + 200 < recursionLimit) (hun : un + 500 < cLine) (hv : v.length ≤ 900) (hnl : ∀ z ∈ names, z.length ≤ 900) (hnn : names.length ≤ 900)
    (hA : (v.length : Int) + 2 - (names.map fun x => (x.length : Int)).sum ≠ 4 → ∀ h' tk' t', Fr h₀ L h' m → News h₀ L h' ((D, W.listOf arr ep) :: rest) → Q (.str (Str.ofString "no address") t') { s with heap := h', toks := tk' })
    (hB : (v.length : Int) + 2 - (names.map fun x => (x.length : Int)).sum = 4 → (Txt.slice v (some (-1)) none == Str.ofString "/") = true → ∀ h' tk' t', Fr h₀ L h' m → News h₀ L h' ((D, W.listOf arr ep) :: rest) → Q (.str (Str.ofString "no number") t') { s with heap := h', toks := tk' })
    (hC : (v.length : Int) + 2 - (names.map fun x => (x.length : Int)).sum = 4 → (Txt.slice v (some (-1)) none == Str.ofString "/") = false → ∃ pre x, names = pre ++ [x] ∧ (∀ c ∈ x.cps.toList, c < 128) ∧
      (NumText.AllDigits x.cps.toList → ∀ h' tk' D' t1 t2, Fr h₀ L h' m → News h₀ L h' ((D', { cls := .type "tuple", data := .seq #[.str (Str.ofString "h") t1, .int (NumText.digitsVal x.cps.toList : Nat) t2] }) :: (D, W.listOf arr ep) :: rest) → (∀ p ∈ (D, W.listOf arr ep) :: rest, p.1 < D') → Q (.ref D') { s with heap := h', toks := tk' }) ∧
      (¬ NumText.AllDigits x.cps.toList → ∀ h' tk' t', Fr h₀ L h' m → News h₀ L h' ((D, W.listOf arr ep) :: rest) → Q (.str (Str.ofString "no number") t') { s with heap := h', toks := tk' })) :
      wpAny (model pg w) (ktrTop dp un gd cn cs L a ccd cl outer) (call (.ref 930) [.str v tv, .ref D]) Q E s := by
  have hlen : arr.size = names.length := by rw [← Array.length_toList]; exact StrsAre.len_eq hs
  refine wpAny_call ?_; k_dflt (walk_at "my enter")
  k_steps
  unfold Halt
  refine LCg.CompSrc.ledger rfl (by k_asm) (by k_asm) (.head _) ?hsz ?_
  case hsz => rw [hlen, sizeLine_eq]; omega
  intro gg
  refine cp_rest (fun i y => ∃ (z : Str) (t : Tok), names[i]? = some z ∧ y = .int (z.length : Int) t) ?turn ?fin
  case turn =>
    intro i v9 I oI C oC D9 m₂ ys h9 tk9 E9 hv9 hi9 hC9 hx9 F9 N9 off9 ne9
    obtain ⟨z, tz, hz, rfl⟩ := strs_at hs i v9 (by simpa using hv9)
    have hzl : z.length ≤ 900 := hnl z (List.mem_of_getElem? hz)
    k_steps
    unfold Halt
    exact cp_end (by k_asm) (by k_asm) (fun p hp => hp) off9 (.inr ⟨_, .head _, rfl, _, rfl⟩) ⟨z, _, hz, rfl⟩
  case fin =>
    intro ys hl hy
    have hys : IntsAre ys (names.map fun x => (x.length : Int)) := ints_of (by rw [hl, hlen, List.length_map]) (fun i v hv => by
      obtain ⟨z, t, h1, h2⟩ := hy i v hv
      exact ⟨_, t, by rw [List.getElem?_map, h1]; rfl, h2⟩)
    unfold LCg.FinE
    intro D9 h9 tk9 F9 N9 o9
    k_steps
    unfold Halt
    refine sumK rfl (by k_asm) (by k_asm) (News.isList (by k_asm) (.head _)) hys ?_
    intro h8 tk8 t8 F8 N8
    clear hys hl hy
    generalize (names.map fun x => (x.length : Int)).sum = ss at hA hB hC ⊢
    k_steps
    · exact hA (by assumption) _ _ _ (by assumption) (news_tail (x := (D9, LCg.lst ys)) (by assumption))
    · exact hB (by assumption) (by assumption) _ _ _ (by assumption) (news_tail (x := (D9, LCg.lst ys)) (by assumption))
    · obtain ⟨pre, x, hnm, hx128, hX1, hX2⟩ := hC (by assumption) (by assumption)
      subst hnm
      obtain ⟨tx, hx⟩ := strs_last hs
      have hxl : x.length ≤ 900 := hnl x (by simp)
      refine item_last (News.isList (by assumption) (List.mem_cons_of_mem _ (.head _))) (x := .str x tx) (by simpa using hx) (by rw [hlen]; omega) ?_
      k_steps
      unfold Halt
      k_dflt (refine' due_loop w mean mg mb _ _ _ _ _ _ _ _ _ _ _ _ _ _ _ _ ?B ?F ?X ?T ?N ?hm1 ?hdp ?hun ?hv hx128 ?_ ?_)
      (case F => k_asm)
      (case N => k_asm)
      (case B => k_asm)
      (case X => k_asm)
      (case T => k_asm)
      (case hm1 => exact rfl)
      (case hdp => ktr_room)
      (case hun => ktr_units)
      (case hv => omega)
      all_goals k_whole
      · intro hnd m6 h6 tk6 t6 F6 N6
        have hX2 := hX2 hnd
        clear hX1 hnd
        try dsimp only
        k_steps
        exact hX2 _ _ _ (by assumption) (news_tail (x := (D9, LCg.lst ys)) (by assumption))
      · intro hnd m6 h6 tk6 t6 hm6 F6 N6
        have hX1 := hX1 hnd
        clear hX2 hnd
        replace F6 := fr_one hm6 F6
        try dsimp only
        k_steps
        rename_i l1 _ _ _ _
        exact hX1 _ _ _ _ _ (by assumption) (news_skip (y := (D9, LCg.lst ys)) (by assumption)) (fun p hp => by
          rcases List.mem_cons.mp hp with rfl | hp
          · exact l1.2.1
          · exact allLt_all l1.2.2 p hp)
end Mine
end
section
open PySem.NumText
open Sem (wp)
namespace Mine
section
variable {prog : Program} {w : World} {M : Model} {A : Around} {E : Value → Shared → Prop} {s : Shared}
theorem wpC_ite_true {α : Type} {c : Prop} [Decidable c] {a b : Sem α} {Q : α → Shared → Prop} (hc : c) (h : wpC M A a Q E s) : wpC M A (if c then a else b) Q E s := by rw [if_pos hc]; exact h
theorem wpC_ite_false {α : Type} {c : Prop} [Decidable c] {a b : Sem α} {Q : α → Shared → Prop} (hc : ¬ c) (h : wpC M A b Q E s) : wpC M A (if c then a else b) Q E s := by rw [if_neg hc]; exact h
theorem wpC_markTheRefusal {own : List String} {e : Value} {Q : Unit → Shared → Prop} (h : Q () s) : wpC M A (markTheRefusal own e) Q E s := fun Γ p _ hc => by
  unfold markTheRefusal
  have hc' := hc p
  show wp M Γ (stack >>= fun acts => if pythonCodeMadeTheCall own (acts.map (·.1)) = true then _ else _) _ _ p s
  rw [Sem.wp_bind']
  show wp M Γ (if pythonCodeMadeTheCall own (((Γ.code, p) :: Γ.below).map (·.1)) = true then _ else _) _ _ p s
  have e : pythonCodeMadeTheCall own (((Γ.code, p) :: Γ.below).map (·.1)) = false := by
    obtain ⟨x, hx, a, ha⟩ := hc'
    have h1 : x.1 ∈ ((Γ.code, p) :: Γ.below).map (·.1) := List.mem_map_of_mem hx
    rw [ha] at h1
    generalize ((Γ.code, p) :: Γ.below).map (·.1) = l at h1
    unfold pythonCodeMadeTheCall
    refine Bool.and_eq_false_iff.mpr (.inl (Bool.and_eq_false_iff.mpr (.inl ?_)))
    rw [Bool.not_eq_false', List.any_eq_true]
    exact ⟨_, h1, rfl⟩
  rw [e]
  exact h
theorem wpC_cast {α : Type} {t t' : Sem α} {Q : α → Shared → Prop} (_d : ∀ (M : Model) (A : Around) (Q : α → Shared → Prop) (E : Value → Shared → Prop) (s : Shared), wpAny M A t' Q E s → wpAny M A t Q E s) (e : t = t') (h : wpC M A t' Q E s) : wpC M A t Q E s := e ▸ h
theorem Str_append_len (a b : Str) : (a ++ b).length = a.length + b.length := by
  show (a.cps ++ b.cps).size = _
  rw [Array.size_append]; rfl
theorem NewExc_base {h₁ h₂ h' : Heap} {e : Addr} {c : String} (x : Heap.NewExc h₂ h' e c) (k : h₁ = h₂) : Heap.NewExc h₁ h' e c := k ▸ x
theorem int_text_bad {x : Str} {u : Tok} {text : List Nat} {Q : Value → Shared → Prop} (hh : A.handled = none)
    (hs : (text.takeWhile (· != 0)).length ≤ 640) (hr : (int_private% "readNumeral") 0 10 (text.takeWhile (· != 0)) = int_private% "Numeral.invalid") (hx : x.length ≤ 1000) (hc : ∀ c ∈ x.cps.toList, c < 128)
    (h : ∀ h' e tk, Heap.NewExc s.heap h' e "ValueError" → E (.ref e) { s with heap := h', toks := tk }) : wpC (model prog w) A ((int_private% "intFromText") (.str x u) text 10) Q E s := by
    refine wpC_cast (t' := ?t) ?d ?e ?_
    case d => intro M A Q E s H; wp_delta; exact H
    case e => rfl
    refine wpC_ite_true hs ?_
    refine wpC_abind (wpAny_pure ?_)
    dsimp only
    rw [hr]
    dsimp only
    have hl : (reprText x).length ≤ sizeLine := by
      have := PySem.StrLaws.reprText_len x (fun c hc' => Nat.lt_trans (hc c hc') (by decide))
      rw [sizeLine_eq]
      omega
    refine wpC_abind ?_
    refine wpAny_pure ?_
    refine wpC_ite_false Bool.false_ne_true ?_
    refine wpC_abind (wpAny_rule ?_)
    refine wpC_abind (wpAny_pure ?_)
    dsimp only
    refine wpC_abind (wpAny_pyRepr_str ?_ hl)
    refine wpC_abind (wpAny_mkStr ?_ ?_)
    · refine wpC_abind (wpAny_newExc_plain ?_ fun h' e hm => wpC_bind (wpC_markTheRefusal ?_))
      · exact plainExc_ValueError
      · exact wpC_of_any (wpAny_raiseNew_none hh (h h' e _ hm.newExc))
    · rw [Str_append_len, sizeLine_eq]
      have h1 : ((⟨(reprText x).cps.extract 0 200⟩ : Str)).length ≤ 200 := by
        show ((reprText x).cps.extract 0 200).size ≤ 200
        rw [Array.size_extract]; omega
      have h2 : (Str.ofString (toString "invalid literal for int() with base " ++ toString 10 ++ toString ": ")).length ≤ 100 := by decide +kernel
      omega
set_option maxHeartbeats 2000000 in
theorem int_obj_bad {x : Str} {u : Tok} {Q : Value → Shared → Prop} (hh : A.handled = none)
    (hs : (numSeenOf x).length ≤ 640) (hr : (int_private% "readNumeral") 0 10 (numSeenOf x) = int_private% "Numeral.invalid") (hx : x.length ≤ 1000) (hc : ∀ c ∈ x.cps.toList, c < 128)
    (h : ∀ h' e tk, Heap.NewExc s.heap h' e "ValueError" → E (.ref e) { s with heap := h', toks := tk }) : wpC (model prog w) A ((int_private% "intFromObject") (.str x u)) Q E s := by
    have f3 := KIN.str_int
    have f4 := KIN.str_idx
    have f5 := KIN.str_trunc
    have f6 : typeOf (.str x u) = pure (.type "str") := rfl
    refine wpC_cast (t' := ?t) ?d ?e ?_
    case d => intro M A Q E s H; wp_delta; exact H
    case e => rfl
    repeat (first
      | (refine wpC_ite_false ?hc ?_; (case hc => first | exact Bool.false_ne_true | (simp; done)))
      | (refine wpC_abind ?_; (repeat wp_step); (fail_if_success (with_reducible show wpAny _ _ _ _ _ _))))
    exact int_text_bad hh hs hr hx hc h
set_option maxHeartbeats 2000000 in
theorem int_new_bad {x : Str} {u : Tok} {Q : Fin → Shared → Prop} (hh : A.handled = none)
    (hs : (numSeenOf x).length ≤ 640) (hr : (int_private% "readNumeral") 0 10 (numSeenOf x) = int_private% "Numeral.invalid") (hx : x.length ≤ 1000) (hc : ∀ c ∈ x.cps.toList, c < 128)
    (h : ∀ h' e tk, Heap.NewExc s.heap h' e "ValueError" → E (.ref e) { s with heap := h', toks := tk }) : wpC (model prog w) A (Builtin.«int.__new__» ⟨[.type "int", .str x u], []⟩) Q E s := by
    have f1 := F.conv_sub_int
    have f2 := F.madeHere_int
    unfold Builtin.«int.__new__»
    dsimp only
    repeat (first
      | (refine wpC_ite_false ?hc ?_; (case hc => first | exact Bool.false_ne_true | (simp; done)))
      | (refine wpC_abind ?_; (repeat wp_step); (fail_if_success (with_reducible show wpAny _ _ _ _ _ _))))
    refine wpC_bind ?_
    exact int_obj_bad hh hs hr hx hc h
end
end Mine
end
section
open PySem.NumText
open Sem (wp)
namespace Mine
section
variable {prog : Program} {w : World} {M : Model} {A : Around} {E : Value → Shared → Prop} {s : Shared}
theorem wpC_ite_false' {α : Type} {c : Prop} [Decidable c] {a b : Sem α} {Q : α → Shared → Prop} (h : wpC M A b Q E s) (hc : ¬ c) : wpC M A (if c then a else b) Q E s := by rw [if_neg hc]; exact h
theorem codeC_builtin {R : Result → Shared → Prop} {id : String} {args : Args} {b : Builtin} (hb : entryFor table id = some b)
    (h : wpC (model prog w) (A.under (.builtin id args)) (b args)
      (fun fin s' => match fin with | .done f => R (.ok f) s' | .again c' => c'.quiet = true ∧ codeC (model prog w) A c' R s') (fun e s' => R (.error e) s') s) :
    codeC (model prog w) A (.builtin id args) R s := by
  refine codeC_of_tree ?_
  show wpC _ _ (match entryFor table id with | some b => b args | none => unsupported ((withoutEnding? id "#data").getD id)) _ _ s
  rw [hb]; exact h
theorem codeC_int_new {x : Str} {u : Tok} {Q : Value → Shared → Prop} (hh : A.handled = none)
    (hs : (numSeenOf x).length ≤ 640) (hr : (int_private% "readNumeral") 0 10 (numSeenOf x) = int_private% "Numeral.invalid") (hx : x.length ≤ 1000) (hc : ∀ c ∈ x.cps.toList, c < 128)
    (h : ∀ h' e tk, Heap.NewExc s.heap h' e "ValueError" → E (.ref e) { s with heap := h', toks := tk }) :
    codeC (model prog w) A (.call (.builtin "int.__new__") ⟨[.type "int", .str x u], []⟩) (fun r s' => match r with | .ok (.ret v) => Q v s' | .ok _ => False | .error e => E e s') s := by
  refine codeC_of_tree ?_
  show wpC _ A.in1 (do checkBuiltinCall "int.__new__" ⟨[.type "int", .str x u], []⟩; again (.builtin "int.__new__" ⟨[.type "int", .str x u], []⟩)) _ _ s
  have hp : plainId "int.__new__" = true := F.called_int.plain
  refine wpC_abind (wpAny_of_eq (F.newCall_int_1 _) (wpC_pure ⟨plainId_quiet hp _, codeC_builtin F.entry_int_new ?_⟩))
  rw [Around.under_plainId hp _]
  exact wpC_mono (int_new_bad (E := E) (Q := fun _ _ => False) hh hs hr hx hc h) (fun _ _ x => x.elim) fun _ _ x => x
theorem call_int_bad {x : Str} {u : Tok} {Q : Value → Shared → Prop} (hh : A.handled = none)
    (hs : (numSeenOf x).length ≤ 640) (hr : (int_private% "readNumeral") 0 10 (numSeenOf x) = int_private% "Numeral.invalid") (hx : x.length ≤ 1000) (hc : ∀ c ∈ x.cps.toList, c < 128)
    (h : ∀ h' e tk, Heap.NewExc s.heap h' e "ValueError" → E (.ref e) { s with heap := h', toks := tk }) :
    wpC (model prog w) A (call (.type "int") [.str x u]) Q E s := by
  obtain ⟨c, tl, hmro⟩ := F.called_int.mro
  have hmade := F.called_int.made
  have hsub := F.called_int.sub
  refine wpC_call (codeC_of_tree ?_)
  show wpC _ _ (callAny (.type "int") _) _ _ _
  refine wpC_pure ⟨Code.quiet_builtin _ (by decide +kernel), codeC_builtin F.entry_type_call ?_⟩
  rw [Around.under_plain (weight_type_call_type "int" _ []) (units_type_call_type "int" _ [])]
  have h1 := F.called_int.notType
  have h2 := F.called_int.canCreate
  have h3 := F.typeCall_int_1 (.str x u)
  unfold Builtin.«type.__call__»
  dsimp only
  repeat (first
      | (refine wpC_ite_false ?hc ?_; (case hc => first | exact Bool.false_ne_true | (simp [*]; done)))
      | (refine wpC_abind ?_; (repeat wp_step); (fail_if_success (with_reducible show wpAny _ _ _ _ _ _)); (fail_if_success (with_reducible show codeAny _ _ _ _ _))))
  refine wpC_bind (wpC_holding (wpC_call (codeC_mono (codeC_int_new (Q := fun _ _ => False) (E := E) hh hs hr hx hc h) fun r s' h' => ?_)))
  cases r with
  | error e => exact h'
  | ok fl => cases fl <;> exact h'.elim
end
end Mine
end
example : True ∧ True := by (w_top off; walk1 <;> exact True.intro)
section
local macro_rules | `(tactic| walk_at "zz") => `(tactic| skip)
example : True ∧ True := by (w_top off; walk1 <;> exact True.intro)
end
section
namespace Mine
structure Hd (p : Prop) : Prop where
  out : p
theorem ite_fH {b : Bool} {A B : Prop} (h : Hd (b = false)) (x : B) : if b = true then A else B := by rw [h.out]; exact x
theorem ite_tH {b : Bool} {A B : Prop} (h : Hd (b = true)) (x : A) : if b = true then A else B := by rw [h.out]; exact x
local macro_rules | `(tactic| walk_at "ite") => `(tactic| first | with_reducible refine ite_fH (by with_reducible assumption) ?_ | with_reducible refine ite_tH (by with_reducible assumption) ?_ | (k_closed; first | refine ite_pos (by decide +kernel) ?_ | refine ite_neg (by decide +kernel) ?_))
abbrev tR (v : Str) : Str := Str.ofString "229 Go (" ++ v ++ Str.ofString ") 5"
section
variable {prog : Program} {w : World} {A : Around} {E : Value → Shared → Prop} {s : Shared}
theorem find_to {x y : Str} {t u : Tok} {k : Int} {Q : Value → Shared → Prop} (e : Hd (Txt.find x y = k)) (h : Q (.int k s.toks) { s with toks := s.toks + 1 }) : wpAny (model prog w) A (call (.builtin "str.find") [.str x t, .str y u]) Q E s := SC.find (e.out ▸ h)
theorem find3_to {x y : Str} {t u u2 : Tok} {i k : Int} {Q : Value → Shared → Prop} (e : Hd (Txt.find3 x y i = k)) (h : Q (.int k s.toks) { s with toks := s.toks + 1 }) : wpAny (model prog w) A (call (.builtin "str.find") [.str x t, .str y u, .int i u2]) Q E s := SC.find3 (e.out ▸ h)
end
section
variable {prog : Program} {w : World} {A : Around} {E : Value → Shared → Prop} {s : Shared} {value slice : PySem.Expr} {x y : Str} {t u : Tok} {k : Nat} {i : Int} {Q : Value → Shared → Prop}
theorem item_to1 (hk : Hd (x.length = 11 + k)) (hi : i = 8) (e : Hd (Txt.item x 8 = y)) (hn : k ≤ 1000) (h : Q (.str y s.toks) { s with toks := s.toks + 1 })
    (hs : subscripted slice false (.str x t) (.int i u) = operate [.str x t, .int i u] (getItem (.str x t) (.int i u)) := by with_unfolding_all rfl)
    (ht : ∀ r, letTemporaryGo value (.str x t) r = pure () := by intro _; with_unfolding_all rfl) : wpAny (model prog w) A (subscriptTail value slice (.str x t) (.int i u)) Q E s := by
  subst hi
  have hk := hk.out
  have e := e.out
  exact KXi.item hk (by omega) (by omega) (by omega) (fun _ => by rw [e]; exact h) hs ht
theorem item_to2 (hk : Hd (x.length = 11 + k)) (hi : i = 7 + (k : Int)) (e : Hd (Txt.item x (7 + (k : Int)) = y)) (hn : k ≤ 1000) (h : Q (.str y s.toks) { s with toks := s.toks + 1 })
    (hs : subscripted slice false (.str x t) (.int i u) = operate [.str x t, .int i u] (getItem (.str x t) (.int i u)) := by with_unfolding_all rfl)
    (ht : ∀ r, letTemporaryGo value (.str x t) r = pure () := by intro _; with_unfolding_all rfl) : wpAny (model prog w) A (subscriptTail value slice (.str x t) (.int i u)) Q E s := by
  subst hi
  have hk := hk.out
  have e := e.out
  exact KXi.item hk (by omega) (by omega) (by omega) (fun _ => by rw [e]; exact h) hs ht
end
local macro_rules | `(tactic| walk_at "subscriptTail") => `(tactic| (k_here; (with_reducible show wpAny _ _ (subscriptTail _ _ (Value.str _ _) (Value.int _ _)) _ _ _); first
  | refine item_to1 (by assumption) (by omega) (by assumption) (by assumption) ?_
  | refine item_to2 (by assumption) (by omega) (by assumption) (by assumption) ?_))
local macro_rules | `(tactic| walk_at "call builtin:str.find") => `(tactic| (k_here; first | refine find_to (by assumption) ?_ | refine find3_to (by assumption) ?_))
theorem split_to {w : World} {A : Around} {E : Value → Shared → Prop} {s : Shared} {h₀ : Heap} {L : Addr} {m : Str → Option Value} {news : List (Addr × Obj)} {x v : Str} {c : Nat} {t u : Tok} {Q : Value → Shared → Prop} (hF : Fr h₀ L s.heap m) (hN : News h₀ L s.heap news) (hx : Hd (x = v)) (hv : v.length ≤ 1000)
    (h : ∀ D l h' k, l.map (·.1) = Txt.split v ⟨#[c]⟩ → StrsAre (strValues l) (l.map (·.1)) → Fr h₀ L h' m → News h₀ L h' ((D, W.listOf (strValues l).toArray 0) :: news) → (∀ p ∈ news, p.1 < D) → Q (.ref D) { s with heap := h', toks := k }) :
    wpAny (model pg w) A (call (.builtin "str.split") [.str x t, .str ⟨#[c]⟩ u]) Q E s := by
  have hx := hx.out
  subst hx
  exact KSpl.split1 hF hN rfl h (by have : (2000 : Nat) ≤ sizeLine := by decide
                                    omega)
local macro_rules | `(tactic| walk_at "call builtin:str.split") => `(tactic| (k_here; k_dflt (refine' split_to ?F ?N ?hx ?hv ?_; (case F => k_asm); (case N => k_asm); (case hx => assumption); (case hv => assumption); k_whole); intro D9 l9 h9 k9 e9 s9 F9 N9 o9; (try k_lt o9); (try dsimp only); (try k_fold)))
theorem td_C (w : World) (mean : ExcName → Option Value) (mg mb : Str → Option Value) (v R : Str) (tv : Tok) (rest : List (Addr × Obj))
   (dp un : Nat) (gd : Option (List Code)) (cn : Str) (cs : Scope) (a : Addr) (ccd : Value) (cl : List (Str × Addr)) (A₀ : Around) (base h₀ : Heap) (L : Addr) (m : Str → Option Value) (s : Shared) (Q E : Value → Shared → Prop)
    (B : Below A₀ base [] h₀) (F : Fr h₀ L s.heap m) (XB : (Mine.kk w.params).In base) (TB : Top Mine.vq (looseW Mine.vq Mine.lo) mean mg mb base) (X : (Mine.kk w.params).In h₀) (T : Top Mine.vq (looseW Mine.vq Mine.lo) mean mg mb h₀) (hcs : cs.kind = .function)
    (N : News h₀ L s.heap rest)
    (hdp : dp + 200 < recursionLimit) (hun : un + 500 < cLine) (hb : v.length ≤ 1000)
    (hR : Hd (tR v = R)) (fR : Hd (R.length = 11 + v.length)) (f1 : Hd ((Txt.slice R none (some 3) != Str.ofString "229") = false)) (f2 : Hd (Txt.find R (Str.ofString "(") = 7)) (f3 : Hd ((Txt.find3 R (Str.ofString ")") (7 + 1)) = 8 + (v.length : Int))) (c d : Nat) (f4 : Hd (Txt.item R 8 = ⟨#[c]⟩)) (f5 : Hd (Txt.item R (7 + (v.length : Int)) = ⟨#[d]⟩))
    (fS : Hd (Txt.slice R (some (7 + 1)) (some (8 + (v.length : Int))) = v))
    (hlen : ∀ p ∈ Txt.split v ⟨#[c]⟩, p.length ≤ 600)
    (hA : (c ≠ d ∨ (Txt.split v ⟨#[c]⟩).length ≠ 5) → ∀ h' tk' t', Fr h₀ L h' m → News h₀ L h' rest → Q (.str (Str.ofString "no address") t') { s with heap := h', toks := tk' })
    (hI : ∀ p0 p1 p2 p3 p4, c = d → Txt.split v ⟨#[c]⟩ = [p0, p1, p2, p3, p4] →
      (∃ n, PySem.intText? p3 = some n ∧ ∀ h' tk' D t1 t2, Fr h₀ L h' m → News h₀ L h' ((D, { cls := .type "tuple", data := .seq #[.str (Str.ofString "h") t1, .int n t2] }) :: rest) → (∀ p ∈ rest, p.1 < D) → Q (.ref D) { s with heap := h', toks := tk' }) ∨
      ((numSeenOf p3).length ≤ 640 ∧ (int_private% "readNumeral") 0 10 (numSeenOf p3) = (int_private% "Numeral.invalid") ∧ (∀ c ∈ p3.cps.toList, c < 128) ∧ ∀ h' tk' t', Fr h₀ L h' m → News h₀ L h' rest → Q (.str (Str.ofString "no number") t') { s with heap := h', toks := tk' })) :
      wpC (model pg w) (ktrTop dp un gd cn cs L a ccd cl []) (call (.ref 925) [.str v tv]) Q E s := by
  have hlen := Hd.mk hlen
  have hA := Hd.mk hA
  have hI := Hd.mk hI
  refine wpC_call ?_
  k_dflt (refine' defX0_1 (Str.ofString "inside") ?hf ?cK ?k1 ?k2 ?k3 ?k4 ?k5 ?kA ?k6 ?k7 ?k8 ?k9 ?kB ?_ ?c2 ?c3 ?c4 ?c5; (case kA => exact rfl); (case hf => exact rfl); (case k2 => k_asm); (case k1 => k_asm); (case k3 => k_asm); (case k4 => k_asm); (case k5 => k_asm); (case k6 => k_is); (case k7 => k_is); (case k8 => ktr_room); (case k9 => exact rfl); (case kB => exact locs rfl); (case cK => first | exact rfl | assumption); (case c2 => exact rfl); (case c3 => exact rfl); (case c4 => exact rfl); (case c5 => decide); k_whole; intro g' L' h' FG' F' N' B' X' T' D'; (try dsimp only); (try k_lift B'); (try k_fold))
  refine wpC_execs_cons (wpC_Try_except (wpC_execs_cons (wpC_Return_some (wpC_Call ?_))))
  k_steps
  refine callC X' (by k_is) ?_
  k_steps
  rename_i t1 k1 a1 t2 k2 a2 D1 h1 F1 N1 l1
  clear a1 a2
  have hR' : Str.ofString "229 Go (" ++ v ++ Str.ofString ") 5" = R := hR.out
  rw [hR']
  clear hR'
  have fRl : R.length ≤ 1011 := by have := fR.out; omega
  refine wpC_call ?_
  k_dflt (refine' defC1_2 (Str.ofString "resp") (Str.ofString "peer") ?k1 ?k2 ?k3 ?k4 ?k5 ?XB ?TB ?D ?T0 ?kA ?k6 ?k7 ?k8 ?k9 ?kB ?_ ?cK ?c2 ?c3 ?c4 ?c5; (case kA => exact rfl); (case k2 => k_asm); (case k1 => k_asm); (case XB => assumption); (case TB => assumption); (case D => assumption); (case T0 => first | assumption | exact KtsTurn.refl); (case k3 => k_asm); (case k4 => k_asm); (case k5 => k_asm); (case k6 => k_is); (case k7 => k_is); (case k8 => ktr_room); (case k9 => exact rfl); (case kB => exact locs rfl); (case cK => exact rfl); (case c2 => exact rfl); (case c3 => exact rfl); (case c4 => exact rfl); (case c5 => decide); k_whole; intro g'' L'' h'' FG'' F'' N'' B'' X'' T'' D''; (try dsimp only); (try k_lift B''); (try k_fold))
  refine wpC_execs_cons (wpC_of_any ?_)
  k_steps
  (try dsimp only)
  rename_i xa
  clear xa
  refine wpC_execs_cons (wpC_of_any ?_)
  k_steps
  (try dsimp only)
  refine wpC_execs_cons (wpC_of_any ?_)
  k_steps
  (try dsimp only)
  refine wpC_execs_cons (wpC_of_any ?_)
  k_steps
  (try dsimp only)
  refine wpC_execs_cons (wpC_of_any ?_)
  k_steps
  (try dsimp only)
  by_cases hcd : c = d
  · have fcd : Hd (((⟨#[c]⟩ : Str) != ⟨#[d]⟩) = false) := ⟨by rw [hcd]; exact bne_self_eq_false' ..⟩
    refine wpC_execs_cons (wpC_of_any ?_)
    k_steps
    (try dsimp only)
    refine wpC_execs_cons (wpC_of_any ?_)
    k_steps
    (try dsimp only)
    rename_i xa D9 l9 h9 k9 e9 s9 o9 hh FF NN
    clear xa
    by_cases h5 : l9.length = 5
    · obtain ⟨⟨p0, u0⟩, ⟨p1, u1⟩, ⟨p2, u2⟩, ⟨p3, u3⟩, ⟨p4, u4⟩, rfl⟩ : ∃ q0 q1 q2 q3 q4, l9 = [q0, q1, q2, q3, q4] := by
        match l9, h5 with
        | [q0, q1, q2, q3, q4], _ => exact ⟨q0, q1, q2, q3, q4, rfl⟩
      have hI := Hd.mk (hI.out p0 p1 p2 p3 p4 hcd e9.symm)
      have hp3 := Hd.mk (hlen.out p3 (by rw [← e9]; simp))
      clear s9 h5 e9 hA hlen
      refine wpC_execs_cons (wpC_of_any ?_)
      k_steps
      (try dsimp only)
      refine wpC_execs_cons (wpC_of_any ?_)
      k_steps
      (try dsimp only)
      refine wpC_execs_cons (wpC_Assign_Name (wpC_Call ?_))
      k_steps
      refine callT ?_
      k_steps
      obtain ⟨hI⟩ := hI
      rcases hI with ⟨n, hn, hQ⟩ | ⟨h1, h2, h3, hQ⟩
      · have hQ := Hd.mk hQ
        refine wpC_of_any (KIN.call_text hn (Nat.le_trans hp3.out (by decide)) ?_)
        have hn := Hd.mk hn
        refine wpC_of_any ?_
        k_steps
        (try dsimp only)
        refine wpC_execs_cons (wpC_of_any ?_)
        k_steps
        rename_i l8 _ _ _ _ kF kN _ _
        exact hQ.out _ _ _ _ _ kF (news_drop kN) (allLt_all l8.2.2)
      · have hQ := Hd.mk hQ
        refine call_int_bad rfl h1 h2 (Nat.le_trans hp3.out (by decide)) h3 ?_
        clear h1 h2 h3
        intro h7 e7 tk7 X7
        k_steps
        rename_i kF kN _ _
        exact hQ.out _ _ _ kF (fun p hp => kN p (List.mem_cons_of_mem _ (List.mem_cons_of_mem _ hp)))
    · clear s9
      have hA := hA.out (.inr (by rw [← e9, List.length_map]; exact h5))
      refine wpC_execs_cons (wpC_of_any ?_)
      k_steps
      rename_i kF kN _ _
      exact hA _ _ _ kF (fun p hp => kN p (List.mem_cons_of_mem _ (List.mem_cons_of_mem _ hp)))
      rename_i hz
      exact absurd hz (by omega)
  · have fcd : Hd (((⟨#[c]⟩ : Str) != ⟨#[d]⟩) = true) := ⟨by rw [bne_iff_ne]; intro e; injection e with e; injection e with e; injection e with e; exact hcd e⟩
    have hA := hA.out (.inl hcd)
    refine wpC_execs_cons (wpC_of_any ?_)
    k_steps
    rename_i kF kN _ _
    exact hA _ _ _ kF (fun p hp => kN p (List.mem_cons_of_mem _ hp))
end Mine
end
section
namespace Mine
open PySem.Builtin.Str
theorem toS_len' (l : List Nat) : (toS l).length = l.length := by show (toS l).cps.size = _; simp [toS]
theorem slice_last (q : List Nat) (a : Nat) : Txt.slice (toS (q ++ [a])) (some (-1)) none = toS [a] := by
  have h := StrLaws.sliceText_from_neg (x := toS (q ++ [a])) (i := -1) (by decide) (by rw [toS_len']; simp; omega)
  refine (show Txt.slice (toS (q ++ [a])) (some (-1)) none = StrLaws.sliceText (toS (q ++ [a])) (some (-1)) none from rfl).trans (h.trans ?_)
  rw [toS_toList, toS_len']
  have e1 : (-1 + ((q ++ [a]).length : Int)).toNat = q.length := by simp; omega
  have e2 : (((q ++ [a]).length : Int) - (-1 + ((q ++ [a]).length : Int))).toNat = 1 := by omega
  rw [e1, e2, List.drop_left]
  rfl
theorem slice_init (q : List Nat) (a : Nat) : Txt.slice (toS (q ++ [a])) none (some (-1)) = toS q := by
  have h := StrLaws.sliceText_to_neg (x := toS (q ++ [a])) (j := -1) (by decide) (by rw [toS_len']; simp; omega)
  refine (show Txt.slice (toS (q ++ [a])) none (some (-1)) = StrLaws.sliceText (toS (q ++ [a])) none (some (-1)) from rfl).trans (h.trans ?_)
  rw [toS_toList, toS_len']
  have e1 : (-1 + ((q ++ [a]).length : Int) - 0).toNat = q.length := by simp; omega
  rw [e1, List.drop_zero, List.take_left]
theorem slice_last_nil : Txt.slice (toS []) (some (-1)) none = toS [] := by decide
theorem toS_sl (a : Nat) : (toS [a] == Str.ofString "/") = decide (a = 47) := by
  rw [show Str.ofString "/" = toS [47] by decide]
  by_cases h : a = 47
  · subst h; decide
  · rw [decide_eq_false h, beq_eq_false_iff_ne]
    intro e
    have := congrArg (fun z : Str => z.cps.toList) e
    rw [toS_toList] at this
    simp at this
    exact h this
theorem slice_slash (r : List Nat) : (Txt.slice (toS r) (some (-1)) none == Str.ofString "/") = decide (r.getLast? = some 47) := by
  rcases List.eq_nil_or_concat r with rfl | ⟨q, a, rfl⟩
  · decide
  · rw [List.concat_eq_append, slice_last, toS_sl]
    simp
def preL : List Nat := [50, 50, 57, 32, 71, 111, 32, 40]
theorem tR_eq (x : List Nat) : Str.ofString "229 Go (" ++ toS x ++ Str.ofString ") 5" = toS (preL ++ (x ++ [41, 32, 53])) := by
  rw [show Str.ofString "229 Go (" = toS preL by decide, show Str.ofString ") 5" = toS [41, 32, 53] by decide, toS_append, toS_append, List.append_assoc]
theorem told_len (x : List Nat) : (toS (preL ++ (x ++ [41, 32, 53]))).length = 11 + x.length := by
  rw [toS_len']; simp [preL]; omega
theorem told_229 (x : List Nat) : (Txt.slice (toS (preL ++ (x ++ [41, 32, 53]))) none (some 3) != Str.ofString "229") = false := by
  rw [show (3 : Int) = ((3 : Nat) : Int) from rfl, slice_to_eq _ 3 (by simp [preL])]
  show (toS [50, 50, 57] != Str.ofString "229") = false
  decide
theorem told_find (x : List Nat) : Txt.find (toS (preL ++ (x ++ [41, 32, 53]))) (Str.ofString "(") = 7 := by
  rw [show Str.ofString "(" = ⟨#[40]⟩ by decide]
  unfold Txt.find
  have key : ∀ i, StrLaws.At (toS (preL ++ (x ++ [41, 32, 53]))) ⟨#[40]⟩ (toS (preL ++ (x ++ [41, 32, 53]))).length i ↔ (preL ++ (x ++ [41, 32, 53]))[i]? = some 40 := by
    intro i
    have := StrLaws.subAt_one (toS (preL ++ (x ++ [41, 32, 53]))) 40 i
    rw [toS_toList] at this
    exact this
  rcases StrLaws.occ_head (toS (preL ++ (x ++ [41, 32, 53]))) ⟨#[40]⟩ 1 (Nat.le_refl 1) with ⟨_, h2⟩ | ⟨i, rr, h1, h2, h3⟩
  · exact absurd ((key 7).mpr (by simp [preL])) (h2 7)
  · rw [h1]
    have h4 := (key i).mp h2
    have h5 : i ≤ 7 := Nat.le_of_not_lt fun h => h3 7 h ((key 7).mpr (by simp [preL]))
    have h6 : ∀ j, j < 7 → (preL ++ (x ++ [41, 32, 53]))[j]? ≠ some 40 := by
      intro j hj
      rw [List.getElem?_append_left (by simp [preL]; omega)]
      revert j
      decide
    have h7 : i = 7 := by
      by_cases h : i < 7
      · exact absurd h4 (h6 i h)
      · omega
    rw [h7]
    rfl
theorem told_slice (x : List Nat) : Txt.slice (toS (preL ++ (x ++ [41, 32, 53]))) (some (7 + 1)) (some (8 + (x.length : Int))) = toS x := by
  have h := StrLaws.sliceText_nat (toS (preL ++ (x ++ [41, 32, 53]))) (a := 8) (b := 8 + x.length) (by omega) (by rw [told_len]; omega)
  have e : ((8 + x.length : Nat) : Int) = 8 + (x.length : Int) := by omega
  rw [e] at h
  refine (show Txt.slice (toS (preL ++ (x ++ [41, 32, 53]))) (some (7 + 1)) (some (8 + (x.length : Int))) = StrLaws.sliceText (toS (preL ++ (x ++ [41, 32, 53]))) (some ((8 : Nat) : Int)) (some (8 + (x.length : Int))) from rfl).trans (h.trans ?_)
  rw [toS_toList, show 8 = preL.length from rfl, List.drop_left, show preL.length + x.length - preL.length = x.length by omega, List.take_left]
theorem item_at (l : List Nat) (k a : Nat) (h : l[k]? = some a) : Txt.item (toS l) (k : Int) = ⟨#[a]⟩ := by
  have hk := (List.getElem?_eq_some_iff.mp h).1
  unfold Txt.item Txt.charAt seqIndex?
  rw [toS_len']
  simp only [show ¬ ((k : Int) < 0) by omega, if_false]
  rw [if_pos (by simp; omega)]
  simp [toS, h]
theorem told_item1 (x : List Nat) (a : Nat) (y : List Nat) (e : x = a :: y) : Txt.item (toS (preL ++ (x ++ [41, 32, 53]))) 8 = ⟨#[a]⟩ := by
  subst e
  exact item_at _ 8 a (by simp [preL])
theorem told_item2 (x : List Nat) (a : Nat) (ha : (40 :: x).getLast? = some a) : Txt.item (toS (preL ++ (x ++ [41, 32, 53]))) (7 + (x.length : Int)) = ⟨#[a]⟩ := by
  have e : (7 + (x.length : Int)) = ((7 + x.length : Nat) : Int) := by omega
  rw [e]
  refine item_at _ _ a ?_
  have e2 : preL ++ (x ++ [41, 32, 53]) = [50, 50, 57, 32, 71, 111, 32] ++ ((40 :: x) ++ [41, 32, 53]) := rfl
  rw [e2, List.getElem?_append_right (by simp), show 7 + x.length - [50, 50, 57, 32, 71, 111, 32].length = x.length by simp, List.getElem?_append_left (by simp)]
  rw [List.getLast?_eq_getElem?] at ha
  simpa using ha
theorem told_find3 (x : List Nat) (h : 41 ∉ x) : Txt.find3 (toS (preL ++ (x ++ [41, 32, 53]))) (Str.ofString ")") (7 + 1) = 8 + (x.length : Int) := by
  rw [show Str.ofString ")" = ⟨#[41]⟩ by decide]
  have hf : fromIndex (toS (preL ++ (x ++ [41, 32, 53]))).length (7 + 1) = 8 := rfl
  have hlen := told_len x
  have get : ∀ k, (toS (preL ++ (x ++ [41, 32, 53]))).cps.getD k 0 = ((preL ++ (x ++ [41, 32, 53]))[k]?).getD 0 := by
    intro k
    simp only [toS, Array.getD_eq_getD_getElem?, List.getElem?_toArray]
  have at41 : (toS (preL ++ (x ++ [41, 32, 53]))).cps.getD (8 + x.length) 0 = 41 := by
    rw [get, List.getElem?_append_right (by simp [preL]), show 8 + x.length - preL.length = x.length by simp [preL], List.getElem?_append_right (Nat.le_refl _)]
    simp
  have no41 : ∀ k, 8 ≤ k → k < 8 + x.length → (toS (preL ++ (x ++ [41, 32, 53]))).cps.getD k 0 ≠ 41 := by
    intro k h1 h2 e
    rw [get, List.getElem?_append_right (by simpa [preL] using h1), List.getElem?_append_left (by simp [preL]; omega)] at e
    have hk : k - preL.length < x.length := by simp [preL]; omega
    rw [List.getElem?_eq_getElem hk] at e
    exact h (e ▸ List.getElem_mem hk)
  rcases StrLaws.find3_spec (toS (preL ++ (x ++ [41, 32, 53]))) 41 (7 + 1) with ⟨_, h2⟩ | ⟨k, h1, h2, h3, h4, h5⟩
  · exact absurd at41 (h2 (8 + x.length) (by rw [hf]; omega) (by rw [hlen]; omega))
  · rw [h1]
    rw [hf] at h2 h5
    have a1 : ¬ k < 8 + x.length := fun hk => no41 k h2 hk h4
    have a2 : ¬ 8 + x.length < k := fun hk => h5 (8 + x.length) (by omega) hk at41
    omega
end Mine
end
example : True ∧ True := by (w_top off; walk1 <;> exact True.intro)
section
local macro_rules | `(tactic| walk_at "zz") => `(tactic| skip)
example : True ∧ True := by (w_top off; walk1 <;> exact True.intro)
end
section
namespace Mine
local macro_rules | `(tactic| walk_at "ite") => `(tactic| first | with_reducible refine ite_neg (by with_reducible assumption) ?_ | with_reducible refine ite_pos (by with_reducible assumption) ?_ | with_reducible refine ite_f (by with_reducible assumption) ?_ | with_reducible refine ite_t (by with_reducible assumption) ?_ | (k_closed; first | refine ite_pos (by decide +kernel) ?_ | refine ite_neg (by decide +kernel) ?_))
example : True := by ((k_with "mk7" => (k_here; (with_reducible show wpAny _ _ (call (Value.ref 735) [Value.str _ _] _) _ _ _); k_dflt (refine' make735 _ _ _ _ _ _ _ _ _ _ _ _ _ _ _ _ _ _ _ _ _ _ _ _ ?Bmk7 ?Fmk7 ?Xmk7 ?Tmk7 ?hcsmk7 ?Nmk7 ?hdpmk7 ?hunmk7 ?hbmk7 ?_; (case Bmk7 => k_asm); (case Fmk7 => k_asm); (case Xmk7 => k_asm); (case Nmk7 => k_asm); (case Tmk7 => k_asm); (case hcsmk7 => exact rfl); (case hbmk7 => assumption); (case hdpmk7 => ktr_room); (case hunmk7 => ktr_units); k_whole); intro _ _ _ _ _ _ _ _ _ _ l8mk7 l9mk7 _ _; (try k_lt l8mk7); (try k_lt2 l9mk7); (try dsimp only); (try k_fold))); trivial)
local macro_rules | `(tactic| walk_at "call ref") => `(tactic| k_extra "mk7")
example : True := by ((k_with "dqn" => (k_here; (with_reducible show wpAny _ _ (call (Value.type "collections.deque") [] _) _ _ _); k_dflt (refine dq_new (by k_asm) (by k_asm) ?_; k_whole); intro _ _ _ _ l9dqn; (try k_lt l9dqn); (try dsimp only); (try k_fold))); trivial)
local macro_rules | `(tactic| walk_at "call type:collections.deque") => `(tactic| k_extra "dqn")
abbrev hsW (w : World) (n : Nat) : Int := match n with
  | 0 => PyData.keyHash w.params (Str.ofString "instream")
  | 1 => PyData.keyHash w.params (Str.ofString "infile")
  | 2 => PyData.keyHash w.params (Str.ofString "posix")
  | 3 => PyData.keyHash w.params (Str.ofString "eof")
  | 4 => PyData.keyHash w.params (Str.ofString "commenters")
  | 5 => PyData.keyHash w.params (Str.ofString "wordchars")
  | 6 => PyData.keyHash w.params (Str.ofString "whitespace")
  | 7 => PyData.keyHash w.params (Str.ofString "whitespace_split")
  | 8 => PyData.keyHash w.params (Str.ofString "quotes")
  | 9 => PyData.keyHash w.params (Str.ofString "escape")
  | 10 => PyData.keyHash w.params (Str.ofString "escapedquotes")
  | 11 => PyData.keyHash w.params (Str.ofString "state")
  | 12 => PyData.keyHash w.params (Str.ofString "pushback")
  | 13 => PyData.keyHash w.params (Str.ofString "lineno")
  | 14 => PyData.keyHash w.params (Str.ofString "debug")
  | 15 => PyData.keyHash w.params (Str.ofString "token")
  | 16 => PyData.keyHash w.params (Str.ofString "filestack")
  | 17 => PyData.keyHash w.params (Str.ofString "source")
  | 18 => PyData.keyHash w.params (Str.ofString "_punctuation_chars")
  | 20 => PyData.keyHash w.params (Str.ofString "_StringIO__newline")
  | 21 => PyData.keyHash w.params (Str.ofString "_StringIO__buf")
  | 22 => PyData.keyHash w.params (Str.ofString "_StringIO__pos")
  | _ => 0
abbrev lexG (hs : Nat → Int) (ts : Nat → Tok) (y q1 q2 : Nat) (com wss st : Value) (tok : Str) (tk : Tok) (vt : Nat → Tok) : List DictEntry :=
  [⟨hs 0, .str (Str.ofString "instream") (ts 0), .ref y⟩, ⟨hs 1, .str (Str.ofString "infile") (ts 1), .none⟩, ⟨hs 2, .str (Str.ofString "posix") (ts 2), .bool true⟩,
   ⟨hs 3, .str (Str.ofString "eof") (ts 3), .none⟩, ⟨hs 4, .str (Str.ofString "commenters") (ts 4), com⟩, ⟨hs 5, .str (Str.ofString "wordchars") (ts 5), .str wcS (vt 1)⟩,
   ⟨hs 6, .str (Str.ofString "whitespace") (ts 6), .str (Str.ofString " \t\r\n") (vt 2)⟩, ⟨hs 7, .str (Str.ofString "whitespace_split") (ts 7), wss⟩,
   ⟨hs 8, .str (Str.ofString "quotes") (ts 8), .str (Str.ofString "'\"") (vt 3)⟩, ⟨hs 9, .str (Str.ofString "escape") (ts 9), .str (Str.ofString "\\") (vt 4)⟩,
   ⟨hs 10, .str (Str.ofString "escapedquotes") (ts 10), .str (Str.ofString "\"") (vt 5)⟩, ⟨hs 11, .str (Str.ofString "state") (ts 11), st⟩,
   ⟨hs 12, .str (Str.ofString "pushback") (ts 12), .ref q1⟩, ⟨hs 13, .str (Str.ofString "lineno") (ts 13), .int 1 (vt 6)⟩, ⟨hs 14, .str (Str.ofString "debug") (ts 14), .int 0 (vt 7)⟩,
   ⟨hs 15, .str (Str.ofString "token") (ts 15), .str tok tk⟩, ⟨hs 16, .str (Str.ofString "filestack") (ts 16), .ref q2⟩, ⟨hs 17, .str (Str.ofString "source") (ts 17), .none⟩,
   ⟨hs 18, .str (Str.ofString "_punctuation_chars") (ts 18), .str (Str.ofString "") (vt 8)⟩]
theorem lx_init (w : World) (mean : ExcName → Option Value) (mg mb : Str → Option Value) (v : Str) (tv : Tok) (rest : List (Addr × Obj))
   (dp un : Nat) (gd : Option (List Code)) (cn : Str) (cs : Scope) (a : Addr) (ccd : Value) (cl : List (Str × Addr)) (outer : List Env) (A₀ : Around) (base h₀ : Heap) (L : Addr) (m : Str → Option Value) (s : Shared) (Q E : Value → Shared → Prop)
    (B : Below A₀ base outer h₀) (F : Fr h₀ L s.heap m) (X : (Mine.kk w.params).In h₀) (T : Top Mine.vq (looseW Mine.vq Mine.lo) mean mg mb h₀) (hcs : cs.kind = .function)
    (N : News h₀ L s.heap rest)
    (hdp : dp + 100 < recursionLimit) (hun : un + 300 < cLine) (hb : v.length ≤ 1000)
    (hret : ∀ (x dx y dy q1 q2 : Nat) h' tk' (ts vt : Nat → Tok) (tn tb tp t0 t1 t2 : Tok), dx < x → x < dy → dy < y → y < q1 → q1 < q2 → (∀ p ∈ rest, p.1 < dx) → Fr h₀ L h' m →
      News h₀ L h' ((q2, deqO) :: (q1, deqO) :: (y, instObj 735 dy) :: (dy, dictOf (sioD (hsW w) ts (.str (Str.ofString "\n") tn) v tb 0 tp) 3) :: (x, instObj 870 dx) :: (dx, dictOf (lexG (hsW w) ts y q1 q2 (.str (Str.ofString "#") t0) (.bool false) (.str (Str.ofString " ") t1) (Str.ofString "") t2 vt) 19) :: rest) →
      Q (.ref x) { s with heap := h', toks := tk' }) :
      wpAny (model pg w) (ktrTop dp un gd cn cs L a ccd cl outer) (call (.ref 870) [.str v tv] [(Str.ofString "posix", .bool true)]) Q E s := by
  refine call_cls (fI := 794) F X N (by kernel_rfl) (by kernel_rfl) (by kernel_rfl) ?_
  intro x dx h1 F1 N1 l1 l2; k_lt2 l2
  show codeAny _ (ktrTop (dp + 1) (un + 1) _ cn cs L a ccd cl outer) _ _ _
  k_dflt (walk_at "my enter")
  k_steps
  refine' hret _ _ _ _ _ _ _ _ (fun n => ([_, _, _, _, _, _, _, _, _, _, _, _, _, _, _, _, _, _, _, 0, _, _, _] : List Tok).getD n 0) (fun n => ([0, _, _, _, _, _, _, _, _] : List Tok).getD n 0) _ _ _ _ _ _ ?o1 ?o2 ?a ?b ?c l1 (by k_asm) ?n
  case n => assumption
  all_goals omega
end Mine
end
example : True ∧ True := by (w_top off; walk1 <;> exact True.intro)
section
local macro_rules | `(tactic| walk_at "zz") => `(tactic| skip)
example : True ∧ True := by (w_top off; walk1 <;> exact True.intro)
end
section
namespace Mine
local macro_rules | `(tactic| walk_at "ite") => `(tactic| first | with_reducible refine ite_neg (by with_reducible assumption) ?_ | with_reducible refine ite_pos (by with_reducible assumption) ?_ | with_reducible refine ite_f (by with_reducible assumption) ?_ | with_reducible refine ite_t (by with_reducible assumption) ?_ | (k_closed; first | refine ite_pos (by decide +kernel) ?_ | refine ite_neg (by decide +kernel) ?_))
theorem list_lex2 (w : World) (mean : ExcName → Option Value) (mg mb : Str → Option Value) (x dx y dy q1 q2 : Nat) (ts vt : Nat → Tok) (tb tc : Tok) (nl : Value) (buf : Str) (rest : List (Addr × Obj))
   (t1 t2 tp : Tok) (hx : dx < x) (hxy : x < dy) (hy : dy < y) (hq1 : y < q1) (hq2 : q1 < q2) (hr0 : ∀ p ∈ rest, p.1 < dx)
   (hb : buf.length ≤ 1000)
   (toks : List (List Nat)) (H : LexAll false buf.cps.toList toks) (hlen : toks.length ≤ 1000)
   (dp un : Nat) (gd : Option (List Code)) (cn : Str) (cs : Scope) (a : Addr) (ccd : Value) (outer : List Env) (A₀ : Around) (base h₀ : Heap) (L : Addr) (m : Str → Option Value) (s : Shared) (Q E : Value → Shared → Prop)
    (B : Below A₀ base outer h₀) (F : Fr h₀ L s.heap m) (X : (Mine.kk w.params).In h₀) (T : Top Mine.vq (looseW Mine.vq Mine.lo) mean mg mb h₀) (hcs : cs.kind = .function) (XTB : (Mine.kk w.params).In base ∧ Top Mine.vq (looseW Mine.vq Mine.lo) mean mg mb base) (D : KtsDicts (outer.filterMap (·.frame)) h₀)
    (N : News h₀ L s.heap ((q2, deqO) :: (q1, deqO) :: (y, instObj 735 dy) :: (dy, dictOf (sioD (hsW w) ts nl buf tb 0 tp) 3) :: (x, instObj 870 dx) :: (dx, dictOf (lexG (hsW w) ts y q1 q2 (.str (Str.ofString "") tc) (.bool true) (.str (Str.ofString " ") t1) (Str.ofString "") t2 vt) 19) :: rest))
    (hdp : dp + 70 < recursionLimit) (hun : un + 300 < cLine)
    (hret : ∀ S h' g' tk' c' vs, StrVals toks vs → (∀ p ∈ rest, p.1 < S) → KtsTurn (outer.filterMap (·.frame)) h₀ g' → Fr g' L h' m → News g' L h' ((S, W.listOf vs.toArray c') :: rest) → Below A₀ base outer g' → (Mine.kk w.params).In g' → Top Mine.vq (looseW Mine.vq Mine.lo) mean mg mb g' → KtsDicts (outer.filterMap (·.frame)) g' → Q (.ref S) { s with heap := h', toks := tk' }) :
      wpAny (model pg w) (ktrTop dp un gd cn cs L a ccd [] outer) (call (.type "list") [.ref x]) Q E s :=
  list_lex w mean mg mb x dx y dy q1 q2 (hsW w) ts (fun n => if n = 0 then tc else vt n) tb nl buf rest t1 t2 tp hx hxy hy hq1 hq2 hr0 hb toks H hlen dp un gd cn cs a ccd [] outer A₀ base h₀ L m s Q E B F X T hcs
    (outer.filterMap (·.frame)) h₀ XTB.1 XTB.2 rfl D .refl rfl (fun p hp => N p (by
      rcases hp with _ | ⟨_, _ | ⟨_, _ | ⟨_, _ | ⟨_, _ | ⟨_, _ | ⟨_, hp⟩⟩⟩⟩⟩⟩
      · exact .tail _ (.tail _ (.tail _ (.tail _ (.head _))))
      · exact .tail _ (.tail _ (.tail _ (.tail _ (.tail _ (.head _)))))
      · exact .tail _ (.tail _ (.head _))
      · exact .tail _ (.tail _ (.tail _ (.head _)))
      · exact .tail _ (.head _)
      · exact .head _
      · exact .tail _ (.tail _ (.tail _ (.tail _ (.tail _ (.tail _ hp))))))) hdp hun hret
example : True := by ((k_with "lxi" => (k_here; (with_reducible show wpAny _ _ (call (Value.ref 870) [Value.str _ _] _) _ _ _); k_dflt (refine' lx_init _ _ _ _ _ _ _ _ _ _ _ _ _ _ _ _ _ _ _ _ _ _ _ _ ?Blxi ?Flxi ?Xlxi ?Tlxi ?hcslxi ?Nlxi ?hdplxi ?hunlxi ?hblxi ?_; (case Blxi => k_asm); (case Flxi => k_asm); (case Xlxi => k_asm); (case Nlxi => k_asm); (case Tlxi => k_asm); (case hcslxi => exact rfl); (case hblxi => assumption); (case hdplxi => ktr_room); (case hunlxi => ktr_units); k_whole); intro _ _ _ _ _ _ _ _ _ _ _ _ _ _ _ _ _ _ _ _ _ _ _ _; (try dsimp only); (try k_fold))); trivial)
local macro_rules | `(tactic| walk_at "call ref") => `(tactic| k_extra "lxi")
example : True := by ((k_with "ll2" => (k_here; (with_reducible show wpAny _ _ (call (Value.type "list") [Value.ref _] _) _ _ _); k_dflt (refine' list_lex2 _ _ _ _ _ _ _ _ _ _ _ _ _ _ _ _ _ _ _ _ ?o1ll2 ?o2ll2 ?o3ll2 ?o4ll2 ?o5ll2 ?o6ll2 ?hbll2 ?tkll2 ?Hll2 ?hlll2 _ _ _ _ _ _ _ _ _ _ _ _ _ _ _ _ ?Bll2 ?Fll2 ?Xll2 ?Tll2 ?hcsll2 ?XTBll2 ?Dll2 ?Nll2 ?hdpll2 ?hunll2 ?_; (case Bll2 => k_asm); (case Fll2 => k_asm); (case Xll2 => k_asm); (case Nll2 => k_asm); (case Tll2 => k_asm); (case hcsll2 => exact rfl); (case XTBll2 => assumption); (case Dll2 => assumption); (case hbll2 => assumption); (case Hll2 => assumption); (case hlll2 => assumption); (case hdpll2 => ktr_room); (case hunll2 => ktr_units); (case o1ll2 => assumption); (case o2ll2 => assumption); (case o3ll2 => assumption); (case o4ll2 => assumption); (case o5ll2 => assumption); (case o6ll2 => assumption); k_whole); intro _ _ _ _ _ _ _ _ _ _ _ _ _ _ _; (try dsimp only); (try k_fold))); trivial)
local macro_rules | `(tactic| walk_at "call type:list") => `(tactic| k_extra "ll2")
theorem sp_1 (w : World) (mean : ExcName → Option Value) (mg mb : Str → Option Value) (v : Str) (tv : Tok) (rest : List (Addr × Obj))
   (dp un : Nat) (gd : Option (List Code)) (cn : Str) (cs : Scope) (a : Addr) (ccd : Value) (cl : List (Str × Addr)) (A₀ : Around) (base h₀ : Heap) (L : Addr) (m : Str → Option Value) (s : Shared) (Q E : Value → Shared → Prop)
    (B : Below A₀ base [] h₀) (F : Fr h₀ L s.heap m) (X : (Mine.kk w.params).In h₀) (T : Top Mine.vq (looseW Mine.vq Mine.lo) mean mg mb h₀) (XTB : (Mine.kk w.params).In base ∧ Top Mine.vq (looseW Mine.vq Mine.lo) mean mg mb base) (hcs : cs.kind = .function)
    (N : News h₀ L s.heap rest)
    (hdp : dp + 200 < recursionLimit) (hun : un + 500 < cLine) (hb : v.length ≤ 1000)
    (toks : List (List Nat)) (H : LexAll false v.cps.toList toks) (hlen : toks.length ≤ 1000)
    (hret : ∀ S h' tk' c' vs, StrVals toks vs → (∀ p ∈ rest, p.1 < S) → Fr h₀ L h' m → News h₀ L h' ((S, W.listOf vs.toArray c') :: rest) → Q (.ref S) { s with heap := h', toks := tk' }) :
      wpAny (model pg w) (ktrTop dp un gd cn cs L a ccd cl []) (call (.ref 882) [.str v tv]) Q E s := by
  refine wpAny_call ?_
  k_dflt (refine' defA0 ?hf ?cK ?k1 ?k2 ?k3 ?k4 ?k5 ?kA ?k6 ?k7 ?k8 ?k9 ?kB ?_ ?c2 ?c3 ?c4 ?c5; (case kA => exact rfl); (case hf => exact rfl); (case k2 => k_asm); (case k1 => k_asm); (case k3 => k_asm); (case k4 => k_asm); (case k5 => k_asm); (case k6 => k_is); (case k7 => k_is); (case k8 => ktr_room); (case k9 => first | exact binds_K (by k_in) rfl (by k_is) rfl rfl rfl | exact BindsTo.of_eq rfl | fail "kts_go: no rule for these arguments"); (case kB => exact locs rfl); (case cK => first | exact rfl | assumption); (case c2 => exact rfl); (case c3 => exact rfl); (case c4 => exact rfl); (case c5 => decide); k_whole; intro g' L' h' FG' F' N' B' X' T' D'; (try dsimp only); (try k_lift B'); (try k_fold))
  k_steps
  all_goals exact hret _ _ _ _ _ (by assumption) (by assumption) (by k_asm) (by k_asm)
end Mine
end
example : True ∧ True := by (w_top off; walk1 <;> exact True.intro)
section
local macro_rules | `(tactic| walk_at "zz") => `(tactic| skip)
example : True ∧ True := by (w_top off; walk1 <;> exact True.intro)
end
section
namespace Mine
local macro_rules | `(tactic| walk_at "ite") => `(tactic| first | with_reducible refine ite_neg (by with_reducible assumption) ?_ | with_reducible refine ite_pos (by with_reducible assumption) ?_  | (k_closed; first | refine ite_pos (by decide +kernel) ?_ | refine ite_neg (by decide +kernel) ?_))
local macro_rules | `(tactic| walk_at "pyIter str") => `(tactic| (refine halt_in ?_))
local macro_rules | `(tactic| walk_at "exec For") => `(tactic| (k_here; (rename Fr _ _ _ _ => lF'); (with_unfolding_all refine' For_invVF lF' ?k1 ?k2 ?_; (case k1 => exact rfl); (case k2 => exact rfl); k_whole)))
local macro_rules | `(tactic| walk_at "exec For Name BinOp cons nil") => `(tactic| (k_here; (rename Fr _ _ _ _ => lF'); (with_unfolding_all refine' For_invVF lF' ?k1 ?k2 ?_; (case k1 => exact rfl); (case k2 => exact rfl); k_whole)))
local macro_rules | `(tactic| walk_at "exec Assign cons ListComp") => `(tactic| (k_here; k_dflt (refine LCg.Assign_ListComp_U (F₀ := by k_asm) (by rfl) (by with_unfolding_all rfl) (by with_unfolding_all rfl) (by decide) (by rfl) (by decide) (by rfl) (by rfl) (by rfl) ?_)))
local macro_rules | `(tactic| walk_at "eval ListComp") => `(tactic| (k_here; k_dflt (refine LCg.ListComp_U (F₀ := by k_asm) (by with_unfolding_all rfl) (by decide) (by rfl) (by decide) (by rfl) ?_)))
local macro_rules | `(tactic| walk_at "CompSrc") => `(tactic| (refine halt_in ?_))
local macro_rules | `(tactic| walk_at "CompEnd") => `(tactic| (refine halt_in ?_))
local macro_rules | `(tactic| walk_at "call ref") => `(tactic| (refine halt_in ?_))
local macro_rules | `(tactic| walk_at "eval Name") => `(tactic| (k_here; (with_reducible show wpAny _ _ (eval (Expr.Name _ _) (lenv _ _)) _ _ _); refine ld_loc (by k_asm) (by with_reducible assumption) ?_ (by rfl) (by decide)))
local macro_rules | `(tactic| walk_at "storeName") => `(tactic| (k_here; k_dflt (refine' st_loc ?F ?N ?_ ?hl; (case F => k_asm); (case N => k_asm); (case hl => rfl); k_whole); intro h7' F7' N7'; (try dsimp only)))
local macro_rules | `(tactic| walk_at "call builtin:str.split") => `(tactic| (refine halt_in ?_))
local macro_rules | `(tactic| walk_at "call builtin:str.join") => `(tactic| (refine halt_in ?_))
theorem splitL_mem {c : Nat} : ∀ (l : List Nat), ∀ p ∈ splitL c l, ∀ a ∈ p, a ∈ l ∧ a ≠ c
  | [], p, hp, a, ha => by
    have : p = [] := by simpa [splitL] using hp
    subst this
    cases ha
  | b :: r, p, hp, a, ha => by
    have ih := splitL_mem (c := c) r
    unfold splitL at hp
    by_cases e : b = c
    · rw [if_pos e] at hp
      rcases List.mem_cons.mp hp with rfl | hp
      · cases ha
      · exact ⟨List.mem_cons_of_mem _ (ih p hp a ha).1, (ih p hp a ha).2⟩
    · rw [if_neg e] at hp
      obtain ⟨q, qs, eq⟩ := splitL_ne c r
      rw [eq] at hp ih
      rcases List.mem_cons.mp hp with rfl | hp
      · rcases List.mem_cons.mp ha with rfl | ha
        · exact ⟨List.mem_cons_self, e⟩
        · exact ⟨List.mem_cons_of_mem _ (ih q (.head _) a ha).1, (ih q (.head _) a ha).2⟩
      · exact ⟨List.mem_cons_of_mem _ (ih p (.tail _ hp) a ha).1, (ih p (.tail _ hp) a ha).2⟩
theorem splitL_sum {c : Nat} : ∀ (l : List Nat), ((splitL c l).map (·.length)).sum + (splitL c l).length = l.length + 1
  | [] => rfl
  | b :: r => by
    have ih := splitL_sum (c := c) r
    unfold splitL
    by_cases e : b = c
    · rw [if_pos e]
      simp only [List.map_cons, List.sum_cons, List.length_cons, List.length_nil]
      omega
    · rw [if_neg e]
      obtain ⟨q, qs, eq⟩ := splitL_ne c r
      rw [eq] at ih ⊢
      simp only [List.map_cons, List.sum_cons, List.length_cons] at ih ⊢
      omega
theorem mem_len {ps : List (List Nat)} {p : List Nat} (h : p ∈ ps) : p.length ≤ (ps.map (·.length)).sum := by
  induction ps with
  | nil => cases h
  | cons q qs ih =>
    simp only [List.map_cons, List.sum_cons]
    rcases List.mem_cons.mp h with rfl | h
    · omega
    · have := ih h; omega
theorem qb_len (p : List Nat) : (p.flatMap qb).length ≤ 5 * p.length := by
  induction p with
  | nil => simp
  | cons a p ih =>
    rw [List.flatMap_cons, List.length_append, List.length_cons]
    have : (qb a).length ≤ 5 := by unfold qb; split <;> simp
    omega
theorem qq_len (p : List Nat) : (qq p).length ≤ 5 * p.length + 2 := by
  unfold qq
  split
  · simp
  · unfold qL
    split
    · omega
    · simp only [List.length_cons, List.length_append, List.length_nil]
      have := qb_len p
      omega
theorem sum_qq : ∀ ps : List (List Nat), ((ps.map fun p => (toS (qq p)).length)).sum ≤ 5 * (ps.map (·.length)).sum + 2 * ps.length
  | [] => by simp
  | p :: ps => by
    have ih := sum_qq ps
    have h1 := qq_len p
    have h2 : (toS (qq p)).length = (qq p).length := by show (toS (qq p)).cps.size = _; simp [toS]
    simp only [List.map_cons, List.sum_cons, List.length_cons, h2]
    omega
theorem joinL_len (c : Nat) : ∀ ps : List (List Nat), (joinL c ps).length ≤ (ps.map (·.length)).sum + ps.length
  | [] => by simp [joinL]
  | [p] => by simp [joinL]
  | p :: q :: r => by
    have ih := joinL_len c (q :: r)
    show (p ++ c :: joinL c (q :: r)).length ≤ _
    simp only [List.map_cons, List.sum_cons, List.length_cons, List.length_append] at ih ⊢
    omega
theorem toS_size (l : List Nat) : (toS l).cps.size = l.length := by simp [toS]
theorem toS_length (l : List Nat) : (toS l).length = l.length := toS_size l
theorem toS_getD (l : List Nat) (i : Nat) (h : i < l.length) : (toS l).cps.getD i 0 ∈ l := by
  have : (toS l).cps.getD i 0 = l[i] := by simp [toS, Array.getD, h]
  rw [this]
  exact List.getElem_mem h
theorem join_eq (c : Nat) (ps : List (List Nat)) : Txt.join ⟨#[c]⟩ (ps.map toS) = toS (joinL c ps) := by
  rw [txt_join, ← str_of_list (Str.join _ _), join_toList, map_toList]
theorem qq_dig {p : List Nat} (h : ∀ a ∈ p, dig a) : qq p = p := by
  unfold qq qL
  split
  · rename_i e; exact e.symm
  · rw [if_pos (List.all_eq_true.mpr fun a ha => decide_eq_true (h a ha))]
theorem qq_quo {p : List Nat} (hne : p ≠ []) (h : ¬ ∀ a ∈ p, dig a) : qq p = 39 :: (p.flatMap qb ++ [39]) := by
  unfold qq qL
  rw [if_neg hne, if_neg (fun e => h fun a ha => of_decide_eq_true (List.all_eq_true.mp e a ha))]
theorem strvals_of : ∀ {ts : List (List Nat)} {vs : List Value}, StrVals ts vs → StrsAre vs (ts.map toS)
  | _, _, .nil => .nil
  | _, _, .cons h => .cons _ _ (strvals_of h)
noncomputable abbrev lb2 : { x : List Stmt // (match ls2.1 with | .For _ _ b _ _ => b | _ => []) = x } := ⟨_, by conv => { lhs; whnf }⟩
noncomputable abbrev lr0 : { x : Stmt // lb2.1.getD 0 (.Pass ⟨0,0,0,0⟩) = x } := ⟨_, by conv => { lhs; whnf }⟩
noncomputable def namesOf (r : List Nat) : List (List Nat) := (splitL 47 r).filter fun p => decide (p ≠ [])
theorem law_names (w : World) (mean : ExcName → Option Value) (mg mb : Str → Option Value)
   (dp un : Nat) (gd : Option (List Code)) (A₀ : Around) (base h₀ : Heap) (L c : Nat) (m : Str → Option Value) (s : Shared) (Q : Flow → Shared → Prop) (E : Value → Shared → Prop)
    (B : Below A₀ base [] h₀) (F : Fr h₀ L s.heap m) (X : (Mine.kk w.params).In h₀) (T : Top Mine.vq (looseW Mine.vq Mine.lo) mean mg mb h₀)
    (XTB : (Mine.kk w.params).In base ∧ Top Mine.vq (looseW Mine.vq Mine.lo) mean mg mb base)
    (hdp : dp + 300 < recursionLimit) (hun : un + 700 < cLine) (r : List Nat) (tr : Tok) (hr : ∀ a ∈ r, Okc a ∨ a = 47) (hrl : r.length ≤ 8) (hm : m (Str.ofString "row") = some (.str (toS r) tr)) (rest : List (Addr × Obj))
    (N : News h₀ L s.heap rest)
    (hQ : ∀ (S : Nat) (arr : Array Value) ep h' tk', StrsAre arr.toList ((namesOf r).map toS) → Fr h₀ L h' (fun y => if y = Str.ofString "names" then some (.ref S) else m y) → News h₀ L h' ((S, W.listOf arr ep) :: rest) → (∀ p ∈ rest, p.1 < S) → Q .next { s with heap := h', toks := tk' }) :
    wpAny (model pg w) (ktrTop dp un gd (Str.ofString "law") sc_935 L 935 (.ref 934) [(Str.ofString "signs", c)] []) (exec lr0.1 (lenv L c)) Q E s := by
  have hrz : (toS r).length ≤ 1000 := by show (toS r).cps.size ≤ 1000; simp [toS]; omega
  have hsum := splitL_sum (c := 47) r
  have hpo : ∀ p ∈ splitL 47 r, ∀ a ∈ p, Okc a := fun p hp a ha => (hr a (splitL_mem r p hp a ha).1).elim id fun e => absurd e (splitL_mem r p hp a ha).2
  have e47 : Str.ofString "/" = ⟨#[47]⟩ := by decide
  have e32 : Str.ofString " " = ⟨#[32]⟩ := by decide
  k_steps
  unfold Halt
  k_dflt (refine' KSpl.split1 ?F ?N ?hy ?_ ?hs; (case F => k_asm); (case N => k_asm); (case hy => decide); (case hs => rw [sizeLine_eq]; omega); k_whole)
  intro D1 l1 h1 k1 e1 s1 F1 N1 o1
  rw [e47, split_eq, toS_toList] at e1
  rw [e1] at s1
  generalize hvs : strValues l1 = vs at *
  clear e1
  have hvl : vs.toArray.size = (splitL 47 r).length := by rw [List.size_toArray, StrsAre.len_eq s1, List.length_map]
  try dsimp only
  refine LCg.CompSrc.ledger rfl F1 N1 (.head _) ?hsz ?_
  case hsz => rw [sizeLine_eq, hvl]; omega
  intro gg
  refine cp_rest (fun i y => ∃ p t, (splitL 47 r)[i]? = some p ∧ y = .str (toS (qq p)) t) ?turn ?fin
  case turn =>
    intro i v9 I oI C oC9 D9 m₂ zs h6 tk6 E9 hv9 hi9 hC9 hx9 F6 N6 off9 ne9
    obtain ⟨z, tz, hz, rfl⟩ := strs_at s1 i v9 (by simpa using hv9)
    rw [List.getElem?_map] at hz
    obtain ⟨p, hp, rfl⟩ : ∃ p, (splitL 47 r)[i]? = some p ∧ toS p = z := by
      cases e : (splitL 47 r)[i]? with
      | none => rw [e] at hz; simp at hz
      | some p => rw [e] at hz; exact ⟨p, rfl, by simpa using hz⟩
    have hpm := List.mem_of_getElem? hp
    have hpl := mem_len hpm
    clear hz
    k_steps
    · unfold Halt
      rename_i hne
      have hne' : p ≠ [] := by rintro rfl; revert hne; decide
      have hpos : 0 < p.length := List.length_pos_iff.mpr hne'
      by_cases hd : ∀ a ∈ p, dig a
      · k_dflt (refine' qu_1 w mean mg mb _ _ _ _ _ _ _ _ _ _ _ _ _ _ _ _ _ _ _ _ ?B ?F ?X ?T ?hcs ?N ?hdp ?hun ?hv ?h0 ?hdd ?_; (case B => k_asm); (case F => exact F6); (case X => k_asm); (case T => k_asm); (case hcs => exact rfl); (case N => exact N6); (case hdp => ktr_room); (case hun => ktr_units); (case hv => rw [toS_size]; omega); (case h0 => rw [toS_size]; exact hpos); (case hdd => intro i hi; rw [toS_size] at hi; exact hd _ (toS_getD p i hi)); k_whole)
        intro h8 tk8 F8 N8
        try dsimp only
        k_steps
        unfold Halt
        exact cp_end F8 N8 (fun p hp => hp) off9 (.inr ⟨_, .head _, rfl, _, rfl⟩) ⟨p, _, hp, by rw [qq_dig hd]⟩
      · have hq : ∃ i, i < (toS p).cps.size ∧ ((toS p).cps.getD i 0 = 39 ∨ (toS p).cps.getD i 0 = 34) := by
          rw [toS_size]
          apply Classical.byContradiction
          intro hno
          refine hd fun a ha => ?_
          obtain ⟨i, hi, rfl⟩ := List.getElem_of_mem ha
          have e : (toS p).cps.getD i 0 = p[i] := by simp [toS, Array.getD, hi]
          rcases hpo p hpm _ ha with h | h | h
          · exact absurd ⟨i, hi, .inl (e.trans h)⟩ hno
          · exact absurd ⟨i, hi, .inr (e.trans h)⟩ hno
          · exact h
        k_dflt (refine' qu_2 w mean mg mb _ _ _ _ _ _ _ _ _ _ _ _ _ _ _ _ _ _ _ _ ?B ?F ?X ?T ?hcs ?N ?hdp ?hun ?hv ?h0 ?hdd ?hq ?hrl ?_; (case B => k_asm); (case F => exact F6); (case X => k_asm); (case T => k_asm); (case hcs => exact rfl); (case N => exact N6); (case hdp => ktr_room); (case hun => ktr_units); (case hv => rw [toS_size]; omega); (case h0 => rw [toS_size]; exact hpos); (case hdd => intro i hi; rw [toS_size] at hi; exact hpo p hpm _ (toS_getD p i hi)); (case hq => exact hq); (case hrl => rw [qrep_eq, toS_length]; have := qb_len p; omega); k_whole)
        intro h8 tk8 t8 F8 N8
        rw [quote_eq]
        try dsimp only
        k_steps
        unfold Halt
        exact cp_end F8 N8 (fun p hp => hp) off9 (.inr ⟨_, .head _, rfl, _, rfl⟩) ⟨p, _, hp, by rw [qq_quo hne' hd]⟩
    · unfold Halt
      rename_i hne
      have hne' : p = [] := by
        cases p with
        | nil => rfl
        | cons a q =>
          exfalso
          have : (toS (a :: q) != Str.ofString "") = true := by
            rw [bne_iff_ne]
            intro e
            have := congrArg (fun z : Str => z.cps.size) e
            have h0 : (Str.ofString "").cps.size = 0 := by decide
            dsimp only at this
            rw [h0, toS_size] at this
            cases this
          rw [this] at hne
          cases hne
      subst hne'
      exact cp_end F6 N6 (fun p hp => hp) off9 (.inr ⟨_, .head _, rfl, _, rfl⟩) ⟨[], _, hp, rfl⟩
  case fin =>
    intro zs hlen hz
    unfold LCg.FinE
    intro D9 h6 tk6 F6 N6 o6
    k_steps
    unfold Halt
    have hzs : StrsAre zs (((splitL 47 r).map qq).map toS) := strs_of (by rw [hlen, hvl, List.length_map, List.length_map]) (fun i v hv => by
      obtain ⟨p, t, hp, rfl⟩ := hz i v hv
      exact ⟨_, t, by rw [List.getElem?_map, List.getElem?_map, hp]; rfl, rfl⟩)
    have hl9 : h6.IsList D9 zs.toArray := ⟨_, (N6 _ (.head _)).1, rfl, _, rfl⟩
    have hsq := sum_qq (splitL 47 r)
    have hjl := joinL_len 32 ((splitL 47 r).map qq)
    rw [List.map_map, List.length_map] at hjl
    have hjm : ((splitL 47 r).map ((fun x => x.length) ∘ qq)).sum = ((splitL 47 r).map fun p => (toS (qq p)).length).sum := by
      congr 1
    rw [hjm] at hjl
    refine join_list hl9 hzs ?_ ?_
    · rw [List.map_map, List.map_map, List.length_map, List.length_map]
      have e : (((fun x : Str => x.length) ∘ toS) ∘ qq) = fun p => (toS (qq p)).length := rfl
      rw [e, show (Str.ofString " ").length = 1 by decide]
      omega
    intro t4 k4
    rw [e32, join_eq]
    try dsimp only
    k_steps
    unfold Halt
    k_dflt (refine' sp_1 w mean mg mb _ _ rest _ _ _ _ _ _ _ _ _ _ _ _ _ _ _ _ ?B ?F ?X ?T ?XTB ?hcs ?N ?hdp ?hun ?hb (namesOf r) ?H ?hlen ?_; (case B => k_asm); (case F => exact F6); (case X => k_asm); (case T => k_asm); (case XTB => exact XTB); (case hcs => exact rfl); (case N => exact news_tail (news_tail N6)); (case hdp => ktr_room); (case hun => ktr_units); (case hb => rw [toS_length]; omega); (case H => rw [toS_toList]; exact lexAll_line _ hpo); (case hlen => exact Nat.le_trans (List.length_filter_le _ _) (by omega)); k_whole)
    intro S8 h8 tk8 c8 vs8 hv8 o8 F8 N8
    dsimp only
    refine storeX_L F8 N8 ?_ rfl rfl
    intro h7 F7 N7
    exact hQ S8 _ _ _ _ (strvals_of hv8) F7 N7 o8
end Mine
end
section
open PySem.NumText
namespace Mine
theorem seen_ok {p : List Nat} (h : ∀ a ∈ p, Okc a) : numTextOf (toS p) = p ∧ numSeenOf (toS p) = p := by
  have e1 : numTextOf (toS p) = p := by
    refine (if_pos ?_).trans (toS_toList p)
    rw [← Array.all_toList, toS_toList, List.all_eq_true]
    intro a ha
    rcases h a ha with rfl | rfl | h
    · decide
    · decide
    · exact decide_eq_true (by omega)
  refine ⟨e1, ?_⟩
  show (numTextOf (toS p)).takeWhile _ = _
  rw [e1]
  refine takeWhile_all fun a ha => ?_
  rcases h a ha with rfl | rfl | h
  · decide
  · decide
  · exact bne_iff_ne.mpr (by omega)
theorem core_ok {p : List Nat} (h : ∀ a ∈ p, Okc a) : core p = p := by
  have nb : ∀ {q : List Nat}, (∀ a ∈ q, Okc a) → q.dropWhile blank = q := by
    intro q hq
    cases q with
    | nil => rfl
    | cons a r => exact dropWhile_of (by rcases hq a (.head _) with h | h | h <;> omega)
  unfold core
  rw [nb h]
  have hs : (sign p).2 = p := by
    cases p with
    | nil => rfl
    | cons a r => rw [sign_of (by rcases h a (.head _) with h | h | h <;> omega) (by rcases h a (.head _) with h | h | h <;> omega)]
  rw [hs, nb (fun a ha => h a (List.mem_reverse.mp ha)), List.reverse_reverse]
theorem foldl_bad : ∀ (cs : List Nat) (p : Array Nat × Bool), (∀ c ∈ cs, Okc c) → ¬ (∀ c ∈ cs, dig c) → cs.foldlM (step 10) p = none
  | [], _, _, h => absurd (by simp) h
  | c :: cs, (ds, b), hs, hm => by
    rw [List.foldlM_cons]
    rcases hs c (.head _) with rfl | rfl | hc
    · rfl
    · rfl
    · rw [step_digit hc]
      refine foldl_bad cs _ (fun d hd => hs d (.tail _ hd)) fun h => hm fun d hd => ?_
      rcases List.mem_cons.mp hd with rfl | hd
      · exact hc
      · exact h d hd
theorem int_bad {p : List Nat} (h : ∀ a ∈ p, Okc a) (hb : p = [] ∨ ¬ ∀ a ∈ p, dig a) : (int_private% "readNumeral") 0 10 (numSeenOf (toS p)) = int_private% "Numeral.invalid" := by
  rw [(seen_ok h).2, readNumeral_ten, core_ok h]
  have e : digits? 10 p = none := by
    rcases hb with rfl | hb
    · rfl
    · unfold digits?
      rw [foldl_bad p _ h hb]
      rfl
  rw [e, judge_none]
theorem int_good {p : List Nat} (h : ∀ a ∈ p, dig a) (hne : p ≠ []) (hl : p.length ≤ 600) : PySem.intText? (toS p) = some ((digitsVal p : Nat) : Int) := by
  have := intText_digits (x := toS p) (by rw [toS_toList]; exact h) (by rw [toS_toList]; exact hne) (by rw [toS_len']; omega)
  rw [toS_toList] at this
  exact this
inductive Res where
  | addr
  | num
  | val (n : Nat)
open Classical in
noncomputable def numR (p : List Nat) : Res := if p ≠ [] ∧ ∀ a ∈ p, dig a then .val (digitsVal p) else .num
noncomputable def partR : List (List Nat) → Res
  | [_, _, _, p, _] => numR p
  | _ => .addr
open Classical in
noncomputable def toldR (b : Nat) (x : List Nat) : Res := if x.getLast? = some b then partR (splitL b x) else .addr
open Classical in
noncomputable def dueR (v : List Nat) (nm : List (List Nat)) : Res :=
  if (v.length : Int) + 2 - (nm.map fun p => (p.length : Int)).sum ≠ 4 then .addr else if v.getLast? = some 47 then .num else numR (nm.getLast?.getD [])
open Classical in
noncomputable def shortR (r : List Nat) (nm : List (List Nat)) : Res := if r.getLast? = some 47 then dueR r.dropLast nm else .addr
def sub (b a : Nat) : Nat := if a = 47 then b else a
theorem split_sub {b : Nat} : ∀ (r : List Nat), (∀ a ∈ r, a ≠ 47 → a ≠ b) → splitL b (r.map (sub b)) = splitL 47 r
  | [], _ => rfl
  | a :: r, h => by
    have ih := split_sub (b := b) r fun c hc => h c (.tail _ hc)
    rw [List.map_cons]
    unfold splitL
    by_cases e : a = 47
    · subst e
      rw [if_pos rfl, show sub b 47 = b from if_pos rfl, if_pos rfl, ih]
    · rw [if_neg e, show sub b a = a from if_neg e, if_neg (h a (.head _) e), ih]
theorem split_cons (b : Nat) (l : List Nat) : splitL b (b :: l) = [] :: splitL b l := by rw [splitL, if_pos rfl]
theorem split_snoc (b : Nat) : ∀ (l : List Nat), splitL b (l ++ [b]) = splitL b l ++ [[]]
  | [] => split_cons b []
  | a :: r => by
    have ih := split_snoc b r
    rw [List.cons_append]
    unfold splitL
    by_cases e : a = b
    · rw [if_pos e, if_pos e, ih]; rfl
    · rw [if_neg e, if_neg e, ih]
      obtain ⟨p, ps, eq⟩ := splitL_ne b r
      rw [eq]
      rfl
theorem sum_filter : ∀ ps : List (List Nat), (((ps.filter fun p => decide (p ≠ [])).map fun p => (p.length : Int))).sum = (((ps.map (·.length)).sum : Nat) : Int)
  | [] => rfl
  | p :: ps => by
    have ih := sum_filter ps
    by_cases e : p = []
    · subst e
      rw [List.filter_cons_of_neg (by simp), ih]
      simp
    · rw [List.filter_cons_of_pos (by simpa using e), List.map_cons, List.sum_cons, ih, List.map_cons, List.sum_cons]
      push_cast
      rfl
theorem split_snoc_ne {b a : Nat} (hab : a ≠ b) : ∀ (l : List Nat), ∃ init p, splitL b l = init ++ [p] ∧ splitL b (l ++ [a]) = init ++ [p ++ [a]]
  | [] => ⟨[], [], rfl, by show splitL b (a :: []) = _; rw [splitL, if_neg hab]; rfl⟩
  | c :: r => by
    obtain ⟨init, p, h1, h2⟩ := split_snoc_ne hab r
    rw [List.cons_append]
    by_cases e : c = b
    · refine ⟨[] :: init, p, ?_, ?_⟩
      · rw [splitL, if_pos e, h1]; rfl
      · rw [splitL, if_pos e, h2]; rfl
    · cases init with
      | nil =>
        refine ⟨[], c :: p, ?_, ?_⟩
        · rw [splitL, if_neg e, h1]; rfl
        · rw [splitL, if_neg e, h2]; rfl
      | cons q qs =>
        refine ⟨(c :: q) :: qs, p, ?_, ?_⟩
        · rw [splitL, if_neg e, h1]; rfl
        · rw [splitL, if_neg e, h2]; rfl
theorem partR_ne : ∀ {l : List (List Nat)}, l.length ≠ 5 → partR l = .addr
  | [], _ => rfl
  | [_], _ => rfl
  | [_, _], _ => rfl
  | [_, _, _], _ => rfl
  | [_, _, _, _], _ => rfl
  | [_, _, _, _, _], h => absurd rfl h
  | _ :: _ :: _ :: _ :: _ :: _ :: _, _ => rfl
theorem numR_nil : numR [] = .num := by unfold numR; rw [if_neg (fun h => h.1 rfl)]
theorem last_snoc (x : Nat) (l : List Nat) (y : Nat) : (x :: (l ++ [y])).getLast? = some y := by
  rw [← List.cons_append, List.getLast?_append]
  rfl
theorem last_filter {f : List Nat} (l : List (List Nat)) (hne : f ≠ []) : ((l ++ [f]).filter fun p => decide (p ≠ [])).getLast? = some f := by
  rw [List.filter_append, List.getLast?_append, List.filter_cons_of_pos (by simpa using hne)]
  rfl
theorem law_one (q : List Nat) : partR ([] :: (splitL 47 q ++ [[]])) = dueR q ((splitL 47 q).filter fun p => decide (p ≠ [])) := by
  have hsum := splitL_sum (c := 47) q
  have hf := sum_filter (splitL 47 q)
  unfold dueR
  rw [hf]
  by_cases h3 : (splitL 47 q).length = 3
  · rw [if_neg (by omega)]
    match hs : splitL 47 q, h3 with
    | [f1, f2, f3], _ =>
      show numR f3 = _
      rcases List.eq_nil_or_concat q with rfl | ⟨q', a, rfl⟩
      · cases hs
      · rw [List.concat_eq_append] at hs ⊢
        by_cases ha : a = 47
        · subst ha
          rw [split_snoc] at hs
          have h4 := congrArg List.getLast? hs
          simp at h4
          rw [if_pos (by simp), h4]
          exact numR_nil
        · obtain ⟨init, p, h1, h2⟩ := split_snoc_ne ha q'
          rw [h2] at hs
          have h4 := congrArg List.getLast? hs
          simp at h4
          have hne : f3 ≠ [] := by rw [← h4]; simp
          rw [if_neg (by simp [ha])]
          have e : ([f1, f2, f3].filter fun p => decide (p ≠ [])).getLast? = some f3 := last_filter [f1, f2] hne
          rw [e]
          rfl
  · rw [if_pos (by omega), partR_ne (by simp only [List.length_cons, List.length_append, List.length_nil]; omega)]
theorem law_due_told {b : Nat} {r : List Nat} (h : ∀ a ∈ r, a ≠ 47 → a ≠ b) : toldR b (b :: (r.map (sub b) ++ [b])) = dueR r (namesOf r) := by
  unfold toldR
  rw [if_pos (last_snoc _ _ _), split_cons, split_snoc, split_sub r h]
  exact law_one r
theorem law_short_told {b : Nat} {r : List Nat} (h : ∀ a ∈ r, a ≠ 47 → a ≠ b) : toldR b (b :: r.map (sub b)) = shortR r (namesOf r) := by
  unfold toldR shortR
  rcases List.eq_nil_or_concat r with rfl | ⟨q, a, rfl⟩
  · rw [if_pos (by simp), if_neg (by simp), split_cons]
    exact partR_ne (l := [[], []]) (by decide)
  · rw [List.concat_eq_append] at h ⊢
    by_cases ha : a = 47
    · subst ha
      rw [if_pos (by rw [List.map_append]; exact last_snoc _ _ _), if_pos (by simp), split_cons, split_sub _ h, split_snoc, List.dropLast_concat, law_one]
      unfold namesOf
      rw [split_snoc, List.filter_append]
      simp
    · have hb : sub b a ≠ b := by
        rw [show sub b a = a from if_neg ha]
        exact h a (by simp) ha
      rw [if_neg (by rw [List.map_append, List.map_cons, List.map_nil, last_snoc]; simpa using hb), if_neg (by simp [ha])]
end Mine
end
section
open Mine
local macro_rules | `(tactic| walk_at "ite") => `(tactic| first | with_reducible refine ite_neg (by with_reducible assumption) ?_ | with_reducible refine ite_pos (by with_reducible assumption) ?_  | (k_closed; first | refine ite_pos (by decide +kernel) ?_ | refine ite_neg (by decide +kernel) ?_))
local macro_rules | `(tactic| walk_at "pyIter str") => `(tactic| (refine halt_in ?_))
local macro_rules | `(tactic| walk_at "exec For") => `(tactic| (k_here; (rename Fr _ _ _ _ => lF'); (with_unfolding_all refine' For_invVF lF' ?k1 ?k2 ?_; (case k1 => exact rfl); (case k2 => exact rfl); k_whole)))
local macro_rules | `(tactic| walk_at "exec For Name BinOp cons nil") => `(tactic| (k_here; (rename Fr _ _ _ _ => lF'); (with_unfolding_all refine' For_invVF lF' ?k1 ?k2 ?_; (case k1 => exact rfl); (case k2 => exact rfl); k_whole)))
local macro_rules | `(tactic| walk_at "exec Assign cons ListComp") => `(tactic| (k_here; k_dflt (refine LCg.Assign_ListComp_U (F₀ := by k_asm) (by rfl) (by with_unfolding_all rfl) (by with_unfolding_all rfl) (by decide) (by rfl) (by decide) (by rfl) (by rfl) (by rfl) ?_)))
local macro_rules | `(tactic| walk_at "eval ListComp") => `(tactic| (k_here; k_dflt (refine LCg.ListComp_U (F₀ := by k_asm) (by with_unfolding_all rfl) (by decide) (by rfl) (by decide) (by rfl) ?_)))
local macro_rules | `(tactic| walk_at "CompSrc") => `(tactic| (refine halt_in ?_))
local macro_rules | `(tactic| walk_at "CompEnd") => `(tactic| (refine halt_in ?_))
local macro_rules | `(tactic| walk_at "call ref") => `(tactic| (refine halt_in ?_))
local macro_rules | `(tactic| walk_at "eval Name") => `(tactic| (k_here; (with_reducible show wpAny _ _ (eval (Expr.Name _ _) (lenv _ _)) _ _ _); refine ld_loc (by k_asm) (by with_reducible assumption) ?_ (by rfl) (by decide)))
local macro_rules | `(tactic| walk_at "storeName") => `(tactic| (k_here; k_dflt (refine' st_loc ?F ?N ?_ ?hl; (case F => k_asm); (case N => k_asm); (case hl => rfl); k_whole); intro h7' F7' N7'; (try dsimp only)))
local macro_rules | `(tactic| walk_at "call builtin:str.split") => `(tactic| (refine halt_in ?_))
local macro_rules | `(tactic| walk_at "call builtin:str.join") => `(tactic| (refine halt_in ?_))
local macro_rules | `(tactic| walk_at "compareOp NotEq ref") => `(tactic| (refine halt_in ?_))
local macro_rules | `(tactic| walk_at "compareOp NotEq") => `(tactic| (refine halt_in ?_))
local macro_rules | `(tactic| walk_at "compareOp NotEq ref ref") => `(tactic| (refine halt_in ?_))
section
namespace Mine
open PySem.SeqAt in
theorem ne_same {prog : Program} {w : World} {A : Around} {E : Value → Shared → Prop} {s : Shared} {a b : Value} {d : PyData} {as bs : List Addr} {Q : Value → Shared → Prop} (ra : Reads s.heap a d as) (rb : Reads s.heap b d bs) (hs : shaped d = true) (hm : noMix d d = true) (hu : A.units + 64 < cLine)
    (h : Q (.bool false) s) : wpAny (model prog w) A (compareOp .NotEq a b) Q E s :=
  ne_dataH_same ra rb hs hs hu hm (by rw [same_refl]; exact h)
theorem reads_strs {h : Heap} : ∀ {vs : List Value} {ss : List Str}, StrsAre vs ss → ReadsAll h vs (ss.map PyData.str) []
  | _, _, .nil => .nil
  | _, _, .cons x t r => by simpa using ReadsAll.cons (Reads.str (h := h) x t) (reads_strs (h := h) r)
theorem canLay_strs : ∀ ss : List Str, (∀ x ∈ ss, PyData.strOk x = true) → PyData.canLayAll0 (ss.map PyData.str) = true
  | [], _ => by simp [PyData.canLayAll0]
  | x :: r, h => by simp [PyData.canLayAll0, PyData.canLay0, canLay_strs r fun y hy => h y (.tail _ hy), h x (.head _)]
theorem depth_strs : ∀ ss : List Str, PyData.depthAll (ss.map PyData.str) ≤ 1
  | [] => by simp [PyData.depthAll]
  | x :: r => by
    have := depth_strs r
    simp only [List.map_cons, PyData.depthAll, PyData.depth]
    omega
open PySem.SeqAt in
theorem shaped_strs (ss : List Str) (hok : ∀ x ∈ ss, PyData.strOk x = true) : shaped (.list (ss.map PyData.str)) = true := by
  have h1 := depth_strs ss
  have h2 : PyData.depth (.list (ss.map PyData.str)) ≤ 64 := by simp only [PyData.depth]; omega
  show (PyData.canLay0 (.list (ss.map PyData.str)) && decide (PyData.depth (.list (ss.map PyData.str)) ≤ 64)) = true
  rw [Bool.and_eq_true]
  exact ⟨by simp only [PyData.canLay0]; exact canLay_strs ss hok, decide_eq_true h2⟩
open PySem.SeqAt in
theorem noMix_strs : ∀ ss : List Str, noMixAll (ss.map PyData.str) (ss.map PyData.str) = true
  | [] => by simp [noMixAll]
  | _ :: r => by simp [noMixAll, noMix, noMix_strs r]
open PySem.SeqAt in
theorem ne_strs {prog : Program} {w : World} {A : Around} {E : Value → Shared → Prop} {s : Shared} {a b : Addr} {xs ys : Array Value} {ss : List Str} {Q : Value → Shared → Prop} (ha : s.heap.IsList a xs) (hb : s.heap.IsList b ys) (hx : StrsAre xs.toList ss) (hy : StrsAre ys.toList ss) (hok : ∀ x ∈ ss, PyData.strOk x = true) (hu : A.units + 64 < cLine)
    (h : Q (.bool false) s) : wpAny (model prog w) A (compareOp .NotEq (.ref a) (.ref b)) Q E s := by
  obtain ⟨o, h1, h2, n, h3⟩ := ha
  obtain ⟨o', h1', h2', n', h3'⟩ := hb
  exact ne_same (Reads.list h1 h2 h3 (reads_strs hx)) (Reads.list h1' h2' h3' (reads_strs hy)) (shaped_strs ss hok) (by simp only [noMix]; exact noMix_strs ss) hu h
noncomputable abbrev lr1 : { x : Stmt // lb2.1.getD 1 (.Pass ⟨0,0,0,0⟩) = x } := ⟨_, by conv => { lhs; whnf }⟩
noncomputable abbrev lr2 : { x : Stmt // lb2.1.getD 2 (.Pass ⟨0,0,0,0⟩) = x } := ⟨_, by conv => { lhs; whnf }⟩
theorem fields_names (r : List Nat) : fieldsGo (KStt.codes (toS r ++ Str.ofString "/")) (Str.ofString "") = (namesOf r).map toS := by
  obtain ⟨p, ps, e⟩ := splitL_ne 47 r
  have h := fields_eq r [] p ps e
  have e1 : KStt.codes (toS r ++ Str.ofString "/") = (r ++ [47]).map fun (c : Nat) => (c : Int) := by
    rw [show Str.ofString "/" = toS [47] by decide, toS_append]
    show (toS (r ++ [47])).cps.toList.map _ = _
    rw [toS_toList]
  rw [e1, show Str.ofString "" = toS [] by decide, h]
  unfold namesOf
  rw [e]
  rfl
theorem names_ok {r : List Nat} (hr : ∀ a ∈ r, Okc a ∨ a = 47) : ∀ x ∈ (namesOf r).map toS, PyData.strOk x = true := by
  intro x hx
  obtain ⟨p, hp, rfl⟩ := List.mem_map.mp hx
  have hp' := (List.mem_filter.mp hp).1
  show (toS p).cps.all _ = true
  rw [← Array.all_toList, toS_toList, List.all_eq_true]
  intro a ha
  have := splitL_mem r p hp' a ha
  rcases hr a this.1 with h | h
  · rcases h with rfl | rfl | h
    · decide
    · decide
    · exact decide_eq_true (by omega)
  · exact absurd h this.2
theorem law_if1 (w : World) (mean : ExcName → Option Value) (mg mb : Str → Option Value)
   (dp un : Nat) (gd : Option (List Code)) (A₀ : Around) (base h₀ : Heap) (L c : Nat) (m : Str → Option Value) (s : Shared) (Q : Flow → Shared → Prop) (E : Value → Shared → Prop)
    (B : Below A₀ base [] h₀) (F : Fr h₀ L s.heap m) (X : (Mine.kk w.params).In h₀) (T : Top Mine.vq (looseW Mine.vq Mine.lo) mean mg mb h₀)
    (hdp : dp + 300 < recursionLimit) (hun : un + 700 < cLine) (r : List Nat) (tr : Tok) (hr : ∀ a ∈ r, Okc a ∨ a = 47) (hrl : r.length ≤ 8) (hm : m (Str.ofString "row") = some (.str (toS r) tr)) (S : Nat) (arr : Array Value) (ep : Nat) (hs : StrsAre arr.toList ((namesOf r).map toS)) (hmn : m (Str.ofString "names") = some (.ref S)) (rest : List (Addr × Obj))
    (N : News h₀ L s.heap ((S, W.listOf arr ep) :: rest))
    (hQ : ∀ h' tk', Fr h₀ L h' m → News h₀ L h' ((S, W.listOf arr ep) :: rest) → Q .next { s with heap := h', toks := tk' }) :
    wpAny (model pg w) (ktrTop dp un gd (Str.ofString "law") sc_935 L 935 (.ref 934) [(Str.ofString "signs", c)] []) (exec lr1.1 (lenv L c)) Q E s := by
  have hrz : (toS r).length ≤ 1000 := by rw [toS_length]; omega
  k_steps
  unfold Halt
  k_dflt (refine' fd_1 w mean mg mb _ _ ((S, W.listOf arr ep) :: rest) _ _ _ _ _ _ _ _ _ _ _ _ _ _ _ _ _ ?B ?F ?X ?T ?hcs ?N ?hdp ?hun ?hv ?_; (case B => k_asm); (case F => k_asm); (case X => k_asm); (case T => k_asm); (case hcs => exact rfl); (case N => k_asm); (case hdp => ktr_room); (case hun => ktr_units); (case hv => rw [toS_length]; omega); k_whole)
  intro l8 h8 tk8 arr8 ep8 o8 hs8 F8 N8
  rw [fields_names] at hs8
  try dsimp only
  k_steps
  unfold Halt
  have hl1 : h8.IsList S arr := ⟨_, (N8 _ (.tail _ (.head _))).1, rfl, _, rfl⟩
  have hl2 : h8.IsList l8 arr8 := ⟨_, (N8 _ (.head _)).1, rfl, _, rfl⟩
  refine ne_strs hl1 hl2 hs hs8 (names_ok hr) ?_ ?_
  · show un + 64 < cLine
    omega
  clear hs hs8 hl1 hl2
  k_steps
  exact hQ _ _ F8 (news_tail N8)
end Mine
end
example : True ∧ True := by (w_top off; walk1 <;> exact True.intro)
section
local macro_rules | `(tactic| walk_at "zz") => `(tactic| skip)
example : True ∧ True := by (w_top off; walk1 <;> exact True.intro)
end
section
namespace Mine
local macro_rules | `(tactic| walk_at "subscriptTail Name Slice ref ref") => `(tactic| (refine halt_in ?_))
theorem strs_rev {vs : List Value} {ss : List Str} (h : StrsAre vs ss) : StrsAre vs.reverse ss.reverse := by
  have hl := StrsAre.len_eq h
  refine strs_of (by simp [hl]) fun i v hv => ?_
  have hi := (List.getElem?_eq_some_iff.mp hv).1
  rw [List.length_reverse] at hi
  rw [List.getElem?_reverse hi] at hv
  obtain ⟨x, t, h1, h2⟩ := strs_at h _ v hv
  refine ⟨x, t, ?_, h2⟩
  rw [List.getElem?_reverse (by omega), ← hl]
  exact h1
theorem law_if2 (w : World) (mean : ExcName → Option Value) (mg mb : Str → Option Value)
   (dp un : Nat) (gd : Option (List Code)) (A₀ : Around) (base h₀ : Heap) (L c : Nat) (m : Str → Option Value) (s : Shared) (Q : Flow → Shared → Prop) (E : Value → Shared → Prop)
    (B : Below A₀ base [] h₀) (F : Fr h₀ L s.heap m) (X : (Mine.kk w.params).In h₀) (T : Top Mine.vq (looseW Mine.vq Mine.lo) mean mg mb h₀)
    (hdp : dp + 300 < recursionLimit) (hun : un + 700 < cLine) (r : List Nat) (tr : Tok) (hr : ∀ a ∈ r, Okc a ∨ a = 47) (hrl : r.length ≤ 8) (hm : m (Str.ofString "row") = some (.str (toS r) tr)) (S : Nat) (arr : Array Value) (ep : Nat) (hs : StrsAre arr.toList ((namesOf r).map toS)) (hmn : m (Str.ofString "names") = some (.ref S)) (rest : List (Addr × Obj))
    (N : News h₀ L s.heap ((S, W.listOf arr ep) :: rest))
    (hQ : ∀ h' tk', Fr h₀ L h' m → News h₀ L h' ((S, W.listOf arr ep) :: rest) → Q .next { s with heap := h', toks := tk' }) :
    wpAny (model pg w) (ktrTop dp un gd (Str.ofString "law") sc_935 L 935 (.ref 934) [(Str.ofString "signs", c)] []) (exec lr2.1 (lenv L c)) Q E s := by
  have hrz : (toS r).length ≤ 1000 := by rw [toS_length]; omega
  have hs := Hd.mk hs
  k_steps
  unfold Halt
  rename_i a1 t2 k2 a2
  clear a1 a2
  have et : Str.ofString "/" ++ toS r ++ Str.ofString "/" = toS (47 :: (r ++ [47])) := by
    rw [show Str.ofString "/" = toS [47] by decide, toS_append, toS_append]
    rfl
  rw [et]
  k_dflt (refine' cl_1 w mean mg mb _ _ ((S, W.listOf arr ep) :: rest) _ _ _ _ _ _ _ _ _ _ _ _ _ _ _ _ _ ?B ?F ?X ?T ?hcs ?N ?hdp ?hun ?hv ?_; (case B => k_asm); (case F => k_asm); (case X => k_asm); (case T => k_asm); (case hcs => exact rfl); (case N => k_asm); (case hdp => ktr_room); (case hun => ktr_units); (case hv => rw [toS_length]; simp only [List.length_cons, List.length_append, List.length_nil]; omega); k_whole)
  intro l8 h8 tk8 arr8 ep8 o8 hs8 F8 N8
  rw [climb_row] at hs8
  replace hs8 := Hd.mk hs8
  try dsimp only
  clear et
  k_steps
  unfold Halt
  have hlen : arr.size = (namesOf r).length := by rw [← Array.length_toList, StrsAre.len_eq hs.out, List.length_map]
  have hlen2 : (namesOf r).length ≤ 9 := Nat.le_trans (List.length_filter_le _ _) (by have := splitL_sum (c := 47) r; omega)
  have hl0 : h8.IsList S arr := ⟨_, (N8 _ (.tail _ (.head _))).1, rfl, _, rfl⟩
  k_dflt (refine' krv_lit (its := arr) (zs := arr.toList.reverse) ?F ?N ?hl (.int _ _) rfl ?_ ?hs ?ht ?hz; (case F => exact F8); (case N => exact N8); (case hl => exact hl0); (case hs => with_unfolding_all rfl); (case ht => intro _; with_unfolding_all rfl); (case hz => rw [hlen, sizeLine_eq]; omega); k_whole)
  intro D7 h7 F7 N7 o7
  clear hlen hl0
  try dsimp only
  k_steps
  unfold Halt
  have hl1 : h7.IsList l8 arr8 := ⟨_, (N7 _ (.tail _ (.head _))).1, rfl, _, rfl⟩
  have hl2 : h7.IsList D7 arr.toList.reverse.toArray := ⟨_, (N7 _ (.head _)).1, rfl, _, rfl⟩
  refine ne_strs hl1 hl2 hs8.out (by rw [List.map_reverse]; exact strs_rev hs.out) ?_ ?_ ?_
  · intro x hx
    refine names_ok hr x ?_
    rw [List.map_reverse] at hx
    exact List.mem_reverse.mp hx
  · show un + 64 < cLine
    omega
  clear hl1 hl2 hs hs8
  k_steps
  exact hQ _ _ F7 (news_tail (news_tail N7))
end Mine
end
section
namespace Mine
abbrev tupO (t1 : Tok) (n : Nat) (t2 : Tok) : Obj := { cls := .type "tuple", data := .seq #[.str (Str.ofString "h") t1, .int (n : Int) t2] }
def RV (r : Res) (v : Value) (x : List (Addr × Obj)) : Prop := match r with
  | .addr => x = [] ∧ ∃ t, v = .str (Str.ofString "no address") t
  | .num => x = [] ∧ ∃ t, v = .str (Str.ofString "no number") t
  | .val n => ∃ D t1 t2, v = .ref D ∧ x = [(D, tupO t1 n t2)]
open PySem.SeqAt in
theorem ne_RV {w : World} {A : Around} {E : Value → Shared → Prop} {s : Shared} {h₀ : Heap} {L : Addr} {news : List (Addr × Obj)} {r : Res} {v1 v2 : Value} {x1 x2 : List (Addr × Obj)} {Q : Value → Shared → Prop}
    (N : News h₀ L s.heap news) (r1 : RV r v1 x1) (r2 : RV r v2 x2) (s1 : ∀ p ∈ x1, p ∈ news) (s2 : ∀ p ∈ x2, p ∈ news) (hu : A.units + 64 < cLine) (h : Q (.bool false) s) : wpAny (model pg w) A (compareOp .NotEq v1 v2) Q E s := by
  cases r with
  | addr =>
    obtain ⟨_, t, rfl⟩ := r1
    obtain ⟨_, u, rfl⟩ := r2
    exact ne_same (Reads.str _ t) (Reads.str _ u) (by decide +kernel) (by simp [noMix]) hu h
  | num =>
    obtain ⟨_, t, rfl⟩ := r1
    obtain ⟨_, u, rfl⟩ := r2
    exact ne_same (Reads.str _ t) (Reads.str _ u) (by decide +kernel) (by simp [noMix]) hu h
  | val n =>
    obtain ⟨D, t1, t2, rfl, rfl⟩ := r1
    obtain ⟨D', u1, u2, rfl, rfl⟩ := r2
    have g1 := N _ (s1 _ (.head _))
    have g2 := N _ (s2 _ (.head _))
    have ra : ∀ (a1 a2 : Tok), ReadsAll s.heap [.str (Str.ofString "h") a1, .int (n : Int) a2] [.str (Str.ofString "h"), .int (n : Int)] [] := fun a1 a2 => by
      simpa using ReadsAll.cons (Reads.str (h := s.heap) (Str.ofString "h") a1) (ReadsAll.cons (Reads.int (n : Int) a2) .nil)
    refine ne_same (d := .tuple [.str (Str.ofString "h"), .int (n : Int)]) (Reads.tuple g1.1 rfl rfl (ra t1 t2)) (Reads.tuple g2.1 rfl rfl (ra u1 u2)) ?_ ?_ hu h
    · show (PyData.canLay0 _ && decide (PyData.depth _ ≤ 64)) = true
      rw [Bool.and_eq_true]
      exact ⟨by simp [PyData.canLay0, PyData.canLayAll0, show PyData.strOk (Str.ofString "h") = true by decide +kernel], by simp [PyData.depth, PyData.depthAll]⟩
    · simp [noMix, noMixAll]
theorem names_last {r : List Nat} {a : Nat} {q : List Nat} (e : r = q ++ [a]) (ha : a ≠ 47) : ∃ pre f, namesOf r = pre ++ [f] := by
  obtain ⟨init, p, h1, h2⟩ := split_snoc_ne ha q
  unfold namesOf
  rw [e, h2, List.filter_append, List.filter_cons_of_pos (by simp)]
  exact ⟨_, _, rfl⟩
theorem names_mem {r : List Nat} (hr : ∀ a ∈ r, Okc a ∨ a = 47) {p : List Nat} (hp : p ∈ namesOf r) : p ≠ [] ∧ (∀ a ∈ p, Okc a) ∧ p.length ≤ r.length := by
  obtain ⟨h1, h2⟩ := List.mem_filter.mp hp
  refine ⟨by simpa using h2, fun a ha => (hr a (splitL_mem r p h1 a ha).1).elim id fun e => absurd e (splitL_mem r p h1 a ha).2, ?_⟩
  have := mem_len h1
  have h3 := splitL_sum (c := 47) r
  have h4 : 1 ≤ (splitL 47 r).length := by
    obtain ⟨q, qs, e⟩ := splitL_ne 47 r
    rw [e]; simp
  omega
theorem dig_all {p : List Nat} : NumText.AllDigits (toS p).cps.toList ↔ ∀ a ∈ p, dig a := by rw [toS_toList]; exact Iff.rfl
theorem du_R (w : World) (mean : ExcName → Option Value) (mg mb : Str → Option Value) (r : List Nat) (tv : Tok) (hr : ∀ a ∈ r, Okc a ∨ a = 47) (hrl : r.length ≤ 8) (D : Nat) (arr : Array Value) (ep : Nat) (hs : StrsAre arr.toList ((namesOf r).map toS)) (rest : List (Addr × Obj))
   (dp un : Nat) (gd : Option (List Code)) (cn : Str) (cs : Scope) (a : Addr) (ccd : Value) (cl : List (Str × Addr)) (outer : List Env) (A₀ : Around) (base h₀ : Heap) (L : Addr) (m : Str → Option Value) (s : Shared) (Q E : Value → Shared → Prop)
    (B : Below A₀ base outer h₀) (F : Fr h₀ L s.heap m) (X : (Mine.kk w.params).In h₀) (T : Top Mine.vq (looseW Mine.vq Mine.lo) mean mg mb h₀) (hcs : cs.kind = .function)
    (N : News h₀ L s.heap ((D, W.listOf arr ep) :: rest))
    (hdp : dp + 200 < recursionLimit) (hun : un + 500 < cLine)
    (hret : ∀ v x h' tk', RV (dueR r (namesOf r)) v x → Fr h₀ L h' m → News h₀ L h' (x ++ (D, W.listOf arr ep) :: rest) → Q v { s with heap := h', toks := tk' }) :
      wpAny (model pg w) (ktrTop dp un gd cn cs L a ccd cl outer) (call (.ref 930) [.str (toS r) tv, .ref D]) Q E s := by
  have hsum : ((((namesOf r).map toS).map fun x => (x.length : Int))).sum = ((namesOf r).map fun p => (p.length : Int)).sum := by
    rw [List.map_map]
    congr 1
  have hlen2 : (namesOf r).length ≤ 9 := Nat.le_trans (List.length_filter_le _ _) (by have := splitL_sum (c := 47) r; omega)
  refine du_1 w mean mg mb (toS r) tv D arr ep _ hs rest dp un gd cn cs a ccd cl outer A₀ base h₀ L m s Q E B F X T hcs N hdp hun (by rw [toS_len']; omega) ?_ (by rw [List.length_map]; omega) ?_ ?_ ?_
  · intro z hz
    obtain ⟨p, hp, rfl⟩ := List.mem_map.mp hz
    have := (names_mem hr hp).2.2
    rw [toS_len']; omega
  · intro hne h' tk' t' F' N'
    rw [hsum, toS_len'] at hne
    refine hret _ [] h' tk' ?_ F' N'
    unfold dueR
    rw [if_pos hne]
    exact ⟨rfl, t', rfl⟩
  · intro he hsl h' tk' t' F' N'
    rw [hsum, toS_len'] at he
    rw [slice_slash] at hsl
    refine hret _ [] h' tk' ?_ F' N'
    unfold dueR
    rw [if_neg (by simpa using he), if_pos (of_decide_eq_true hsl)]
    exact ⟨rfl, t', rfl⟩
  · intro he hsl
    rw [hsum, toS_len'] at he
    rw [slice_slash] at hsl
    have hsl := of_decide_eq_false hsl
    have hdue : dueR r (namesOf r) = numR ((namesOf r).getLast?.getD []) := by
      unfold dueR
      rw [if_neg (by simpa using he), if_neg hsl]
    rcases List.eq_nil_or_concat r with rfl | ⟨q, a9, hq⟩
    · exact absurd he (by decide)
    · rw [List.concat_eq_append] at hq
      have ha : a9 ≠ 47 := by rintro rfl; exact hsl (by rw [hq]; simp)
      obtain ⟨pre, f, hpf⟩ := names_last hq ha
      have hdue2 : dueR r (namesOf r) = numR f := by rw [hdue, hpf, List.getLast?_concat]; rfl
      clear hdue
      have hf := names_mem hr (p := f) (by rw [hpf]; simp)
      refine ⟨pre.map toS, toS f, by rw [hpf]; simp, ?_, ?_, ?_⟩
      · rw [toS_toList]
        intro c hc
        rcases hf.2.1 c hc with h | h | h <;> omega
      · intro hd h' tk' D' t1 t2 F' N' o'
        rw [dig_all] at hd
        refine hret _ [(D', tupO t1 (NumText.digitsVal f) t2)] h' tk' ?_ F' (by rw [toS_toList] at N'; exact N')
        rw [hdue2]
        unfold numR
        rw [if_pos ⟨hf.1, by simpa using hd⟩]
        exact ⟨D', t1, t2, rfl, rfl⟩
      · intro hd h' tk' t' F' N'
        rw [dig_all] at hd
        refine hret _ [] h' tk' ?_ F' N'
        rw [hdue2]
        unfold numR
        rw [if_neg (by simpa using fun _ => hd)]
        exact ⟨rfl, t', rfl⟩
end Mine
end
section
open PySem.NumText
namespace Mine
theorem part_cases (l : List (List Nat)) : l.length ≠ 5 ∨ ∃ p0 p1 p2 p3 p4, l = [p0, p1, p2, p3, p4] := by
  by_cases h : l.length = 5
  · match l, h with
    | [p0, p1, p2, p3, p4], _ => exact .inr ⟨p0, p1, p2, p3, p4, rfl⟩
  · exact .inl h
theorem told_R (w : World) (mean : ExcName → Option Value) (mg mb : Str → Option Value) (b : Nat) (y : List Nat) (tv : Tok) (hy : ∀ a ∈ y, Okc a ∨ a = b) (hb : b ≠ 41) (hyl : y.length ≤ 9) (rest : List (Addr × Obj))
   (dp un : Nat) (gd : Option (List Code)) (cn : Str) (cs : Scope) (a : Addr) (ccd : Value) (cl : List (Str × Addr)) (A₀ : Around) (base h₀ : Heap) (L : Addr) (m : Str → Option Value) (s : Shared) (Q E : Value → Shared → Prop)
    (B : Below A₀ base [] h₀) (F : Fr h₀ L s.heap m) (XB : (Mine.kk w.params).In base) (TB : Top Mine.vq (looseW Mine.vq Mine.lo) mean mg mb base) (X : (Mine.kk w.params).In h₀) (T : Top Mine.vq (looseW Mine.vq Mine.lo) mean mg mb h₀) (hcs : cs.kind = .function)
    (N : News h₀ L s.heap rest)
    (hdp : dp + 200 < recursionLimit) (hun : un + 500 < cLine)
    (hret : ∀ v x h' tk', RV (toldR b (b :: y)) v x → Fr h₀ L h' m → News h₀ L h' (x ++ rest) → Q v { s with heap := h', toks := tk' }) :
      wpC (model pg w) (ktrTop dp un gd cn cs L a ccd cl []) (call (.ref 925) [.str (toS (b :: y)) tv]) Q E s := by
  obtain ⟨d, hd⟩ : ∃ d, (b :: y).getLast? = some d := ⟨_, List.getLast?_eq_getLast (by simp)⟩
  have hx : ∀ p ∈ splitL b (b :: y), ∀ a ∈ p, Okc a := by
    intro p hp a ha
    have h1 := splitL_mem _ p hp a ha
    rcases List.mem_cons.mp h1.1 with h | h
    · exact absurd h h1.2
    · exact (hy a h).elim id fun e => absurd e h1.2
  have h41 : 41 ∉ b :: y := by
    intro h
    rcases List.mem_cons.mp h with h | h
    · exact hb h.symm
    · rcases hy 41 h with h | h
      · rcases h with h | h | h <;> omega
      · exact hb h.symm
  have hsp : Txt.split (toS (b :: y)) ⟨#[b]⟩ = (splitL b (b :: y)).map toS := by rw [split_eq, toS_toList]
  have hpl : ∀ p ∈ splitL b (b :: y), p.length ≤ 600 := by
    intro p hp
    have h1 := mem_len hp
    have h2 := splitL_sum (c := b) (b :: y)
    simp only [List.length_cons] at h2
    omega
  refine td_C w mean mg mb (toS (b :: y)) (toS (preL ++ ((b :: y) ++ [41, 32, 53]))) tv rest dp un gd cn cs a ccd cl A₀ base h₀ L m s Q E B F XB TB X T hcs N hdp hun (by rw [toS_len']; simp; omega)
    ⟨tR_eq _⟩ ⟨by rw [told_len, toS_len']⟩ ⟨told_229 _⟩ ⟨told_find _⟩ ⟨by rw [toS_len']; exact told_find3 _ h41⟩ b d ⟨told_item1 _ b y rfl⟩ ⟨by rw [toS_len']; exact told_item2 _ d (by rw [List.getLast?_cons_cons]; exact hd)⟩ ⟨by rw [toS_len']; exact told_slice _⟩ ?_ ?_ ?_
  · intro p hp
    rw [hsp] at hp
    obtain ⟨q, hq, rfl⟩ := List.mem_map.mp hp
    rw [toS_len']
    exact hpl q hq
  · intro hne h' tk' t' F' N'
    refine hret _ [] h' tk' ?_ F' N'
    have e : toldR b (b :: y) = .addr := by
      unfold toldR
      rw [hd]
      rcases hne with h | h
      · rw [if_neg (fun e => h (Option.some.inj e).symm)]
      · rw [hsp, List.length_map] at h
        split
        · exact partR_ne h
        · rfl
    rw [e]
    exact ⟨rfl, t', rfl⟩
  · intro p0 p1 p2 p3 p4 hbd hp
    rw [hsp] at hp
    rcases part_cases (splitL b (b :: y)) with h5 | ⟨q0, q1, q2, q3, q4, hq⟩
    · have := congrArg List.length hp
      rw [List.length_map] at this
      exact absurd this h5
    · rw [hq] at hp
      simp only [List.map_cons, List.map_nil, List.cons.injEq, and_true] at hp
      obtain ⟨_, _, _, rfl, _⟩ := hp
      have hq3 : q3 ∈ splitL b (b :: y) := by rw [hq]; simp
      have e : toldR b (b :: y) = numR q3 := by
        unfold toldR
        rw [hd, if_pos (by rw [hbd]), hq]
        rfl
      by_cases hdg : q3 ≠ [] ∧ ∀ a ∈ q3, dig a
      · refine .inl ⟨_, int_good hdg.2 hdg.1 (hpl q3 hq3), ?_⟩
        intro h' tk' D t1 t2 F' N' o'
        refine hret _ [(D, tupO t1 (digitsVal q3) t2)] h' tk' ?_ F' N'
        rw [e]
        unfold numR
        rw [if_pos hdg]
        exact ⟨D, t1, t2, rfl, rfl⟩
      · refine .inr ⟨?_, int_bad (hx q3 hq3) ?_, ?_, ?_⟩
        · rw [(seen_ok (hx q3 hq3)).2]
          have := hpl q3 hq3
          omega
        · by_cases h : q3 = []
          · exact .inl h
          · exact .inr fun h2 => hdg ⟨h, h2⟩
        · rw [toS_toList]
          intro a ha
          rcases hx q3 hq3 a ha with h | h | h <;> omega
        · intro h' tk' t' F' N'
          refine hret _ [] h' tk' ?_ F' N'
          rw [e]
          unfold numR
          rw [if_neg hdg]
          exact ⟨rfl, t', rfl⟩
end Mine
end
example : True ∧ True := by (w_top off; walk1 <;> exact True.intro)
section
local macro_rules | `(tactic| walk_at "zz") => `(tactic| skip)
example : True ∧ True := by (w_top off; walk1 <;> exact True.intro)
end
section
namespace Mine
local macro_rules | `(tactic| walk_at "subscriptTail Name Slice ref ref") => `(tactic| (refine halt_in ?_))
noncomputable abbrev lr3 : { x : Stmt // lb2.1.getD 3 (.Pass ⟨0,0,0,0⟩) = x } := ⟨_, by conv => { lhs; whnf }⟩
noncomputable abbrev lr4 : { x : Stmt // lb2.1.getD 4 (.Pass ⟨0,0,0,0⟩) = x } := ⟨_, by conv => { lhs; whnf }⟩
theorem names_slash (q : List Nat) : namesOf (q ++ [47]) = namesOf q := by
  unfold namesOf
  rw [split_snoc, List.filter_append]
  simp
theorem law_due (w : World) (mean : ExcName → Option Value) (mg mb : Str → Option Value)
   (dp un : Nat) (gd : Option (List Code)) (A₀ : Around) (base h₀ : Heap) (L c : Nat) (m : Str → Option Value) (s : Shared) (Q : Flow → Shared → Prop) (E : Value → Shared → Prop)
    (B : Below A₀ base [] h₀) (F : Fr h₀ L s.heap m) (X : (Mine.kk w.params).In h₀) (T : Top Mine.vq (looseW Mine.vq Mine.lo) mean mg mb h₀)
    (hdp : dp + 300 < recursionLimit) (hun : un + 700 < cLine) (r : List Nat) (tr : Tok) (hr : ∀ a ∈ r, Okc a ∨ a = 47) (hrl : r.length ≤ 8) (hm : m (Str.ofString "row") = some (.str (toS r) tr)) (S : Nat) (arr : Array Value) (ep : Nat) (hs : StrsAre arr.toList ((namesOf r).map toS)) (hmn : m (Str.ofString "names") = some (.ref S)) (rest : List (Addr × Obj))
    (N : News h₀ L s.heap ((S, W.listOf arr ep) :: rest))
    (hQ : ∀ v x h' tk', RV (dueR r (namesOf r)) v x → Fr h₀ L h' (fun y => if y = Str.ofString "due" then some v else m y) → News h₀ L h' (x ++ (S, W.listOf arr ep) :: rest) → Q .next { s with heap := h', toks := tk' }) :
    wpAny (model pg w) (ktrTop dp un gd (Str.ofString "law") sc_935 L 935 (.ref 934) [(Str.ofString "signs", c)] []) (exec lr3.1 (lenv L c)) Q E s := by
  have hs := Hd.mk hs
  have hr := Hd.mk hr
  k_steps
  unfold Halt
  k_dflt (refine' du_R w mean mg mb _ _ hr.out hrl _ _ _ hs.out _ _ _ _ _ _ _ _ _ _ _ _ _ _ _ _ _ _ ?B ?F ?X ?T ?hcs ?N ?hdp ?hun ?_; (case B => k_asm); (case F => k_asm); (case X => k_asm); (case T => k_asm); (case hcs => exact rfl); (case N => k_asm); (case hdp => ktr_room); (case hun => ktr_units); k_whole)
  intro v8 x8 h8 tk8 r8 F8 N8
  try dsimp only
  refine storeX_L F8 N8 ?_ rfl rfl
  intro h7 F7 N7
  exact hQ v8 x8 _ _ r8 F7 N7
theorem law_short (w : World) (mean : ExcName → Option Value) (mg mb : Str → Option Value)
   (dp un : Nat) (gd : Option (List Code)) (A₀ : Around) (base h₀ : Heap) (L c : Nat) (m : Str → Option Value) (s : Shared) (Q : Flow → Shared → Prop) (E : Value → Shared → Prop)
    (B : Below A₀ base [] h₀) (F : Fr h₀ L s.heap m) (X : (Mine.kk w.params).In h₀) (T : Top Mine.vq (looseW Mine.vq Mine.lo) mean mg mb h₀)
    (hdp : dp + 300 < recursionLimit) (hun : un + 700 < cLine) (r : List Nat) (tr : Tok) (hr : ∀ a ∈ r, Okc a ∨ a = 47) (hrl : r.length ≤ 8) (hm : m (Str.ofString "row") = some (.str (toS r) tr)) (S : Nat) (arr : Array Value) (ep : Nat) (hs : StrsAre arr.toList ((namesOf r).map toS)) (hmn : m (Str.ofString "names") = some (.ref S)) (rest : List (Addr × Obj))
    (N : News h₀ L s.heap ((S, W.listOf arr ep) :: rest))
    (hQ : ∀ v x h' tk', RV (shortR r (namesOf r)) v x → Fr h₀ L h' (fun y => if y = Str.ofString "short" then some v else m y) → News h₀ L h' (x ++ (S, W.listOf arr ep) :: rest) → Q .next { s with heap := h', toks := tk' }) :
    wpAny (model pg w) (ktrTop dp un gd (Str.ofString "law") sc_935 L 935 (.ref 934) [(Str.ofString "signs", c)] []) (exec lr4.1 (lenv L c)) Q E s := by
  have hs := Hd.mk hs
  have hr := Hd.mk hr
  k_steps
  · rename (Txt.slice _ (some (-1)) none == _) = true => hsl
    rw [slice_slash] at hsl
    have hsl := of_decide_eq_true hsl
    obtain ⟨q, rfl⟩ : ∃ q, r = q ++ [47] := by
      rcases List.eq_nil_or_concat r with rfl | ⟨q, a9, hq⟩
      · cases hsl
      · rw [List.concat_eq_append] at hq
        subst hq
        rw [List.getLast?_concat] at hsl
        injection hsl with hsl
        exact ⟨q, by rw [hsl]⟩
    rw [slice_init]
    unfold Halt
    rw [names_slash] at hs
    k_dflt (refine' du_R w mean mg mb q _ (fun a ha => hr.out a (List.mem_append_left _ ha)) (by simp at hrl; omega) _ _ _ hs.out _ _ _ _ _ _ _ _ _ _ _ _ _ _ _ _ _ _ ?B ?F ?X ?T ?hcs ?N ?hdp ?hun ?_; (case B => k_asm); (case F => k_asm); (case X => k_asm); (case T => k_asm); (case hcs => exact rfl); (case N => k_asm); (case hdp => ktr_room); (case hun => ktr_units); k_whole)
    intro v8 x8 h8 tk8 r8 F8 N8
    try dsimp only
    refine storeX_L F8 N8 ?_ rfl rfl
    intro h7 F7 N7
    refine hQ v8 x8 _ _ ?_ F7 N7
    unfold shortR
    rw [if_pos (by simp), List.dropLast_concat, names_slash]
    exact r8
  · rename (Txt.slice _ (some (-1)) none == _) = false => hsl
    rw [slice_slash] at hsl
    have hsl := of_decide_eq_false hsl
    rename News h₀ L _ _ => N7
    rename Fr h₀ L _ _ => F7
    refine hQ _ [] _ _ ?_ F7 N7
    unfold shortR
    rw [if_neg hsl]
    exact ⟨rfl, _, rfl⟩
end Mine
end
example : True ∧ True := by (w_top off; walk1 <;> exact True.intro)
section
local macro_rules | `(tactic| walk_at "zz") => `(tactic| skip)
example : True ∧ True := by (w_top off; walk1 <;> exact True.intro)
end
section
namespace Mine
local macro_rules | `(tactic| walk_at "subscriptTail Name Slice ref ref") => `(tactic| (refine halt_in ?_))
local macro_rules | `(tactic| walk_at "call builtin:str.replace") => `(tactic| (refine halt_in ?_))
local macro_rules | `(tactic| walk_at "binaryOp Add str str") => `(tactic| (refine halt_in ?_))
noncomputable abbrev lr5 : { x : Stmt // lb2.1.getD 5 (.Pass ⟨0,0,0,0⟩) = x } := ⟨_, by conv => { lhs; whnf }⟩
noncomputable abbrev lb6 : { x : List Stmt // (match lr5.1 with | .For _ _ b _ _ => b | _ => []) = x } := ⟨_, by conv => { lhs; whnf }⟩
noncomputable abbrev li6 : { x : Expr // (match lr5.1 with | .For _ i _ _ _ => i | _ => .Constant .none 0 ⟨0,0,0,0⟩) = x } := ⟨_, by conv => { lhs; whnf }⟩
noncomputable abbrev lq0 : { x : Stmt // lb6.1.getD 0 (.Pass ⟨0,0,0,0⟩) = x } := ⟨_, by conv => { lhs; whnf }⟩
noncomputable abbrev lq1 : { x : Stmt // lb6.1.getD 1 (.Pass ⟨0,0,0,0⟩) = x } := ⟨_, by conv => { lhs; whnf }⟩
theorem nb_of {w : World} {mean : ExcName → Option Value} {mg mb : Str → Option Value} {h : Heap} (X : (Mine.kk w.params).In h) (T : Top Mine.vq (looseW Mine.vq Mine.lo) mean mg mb h) : NoneBooked h := by
  obtain ⟨mc, hn, _⟩ := T.nodigits
  have e : nsIn (Mine.kk w.params) cStatics sharingNotToldKey = some none := by rfl
  refine ⟨mc, hn, ?_⟩
  obtain ⟨o, es, ep, ho, hd, _, hf⟩ := hn
  unfold nsIn at e
  split at e
  · rename_i c d es' n' sl q
    have := X _ _ q
    rw [ho] at this
    cases this
    cases hd
    split at e
    · cases e
    · rename_i he
      rw [← hf]
      unfold PySem.nsFind PySem.findBy
      rw [← Array.find?_toList, he]
      rfl
  · cases e
theorem flat_sub (b : Nat) (r : List Nat) : (r.flatMap fun a => if a = 47 then [b] else [a]) = r.map (sub b) := by
  induction r with
  | nil => rfl
  | cons a r ih =>
    rw [List.flatMap_cons, List.map_cons, ih]
    unfold sub
    by_cases h : a = 47
    · rw [if_pos h, if_pos h]; rfl
    · rw [if_neg h, if_neg h]; rfl
theorem law_inside (w : World) (mean : ExcName → Option Value) (mg mb : Str → Option Value)
   (dp un : Nat) (gd : Option (List Code)) (A₀ : Around) (base h₀ : Heap) (L c : Nat) (m : Str → Option Value) (s : Shared) (Q : Flow → Shared → Prop) (E : Value → Shared → Prop)
    (B : Below A₀ base [] h₀) (F : Fr h₀ L s.heap m) (X : (Mine.kk w.params).In h₀) (T : Top Mine.vq (looseW Mine.vq Mine.lo) mean mg mb h₀)
    (hdp : dp + 300 < recursionLimit) (hun : un + 700 < cLine) (r : List Nat) (tr : Tok) (hrl : r.length ≤ 8) (hm : m (Str.ofString "row") = some (.str (toS r) tr)) (b : Nat) (tb : Tok) (hmb : m (Str.ofString "between") = some (.str ⟨#[b]⟩ tb)) (rest : List (Addr × Obj))
    (N : News h₀ L s.heap rest)
    (htb : 1 ≤ tb ∧ tb < s.toks)
    (hQ : ∀ t' h' tk', Fr h₀ L h' (fun y => if y = Str.ofString "inside" then some (.str (toS (b :: r.map (sub b))) t') else m y) → News h₀ L h' rest → Q .next { s with heap := h', toks := tk' }) :
    wpAny (model pg w) (ktrTop dp un gd (Str.ofString "law") sc_935 L 935 (.ref 934) [(Str.ofString "signs", c)] []) (exec lq0.1 (lenv L c)) Q E s := by
  have hrz : (toS r).length ≤ 8 := by rw [toS_length]; omega
  have hsl : Str.ofString "/" = ⟨#[47]⟩ := by decide
  have hin : Str.ofString "/" ++ toS r = toS (47 :: r) := by
    rw [show Str.ofString "/" = toS [47] by decide, toS_append]
    rfl
  have hrp : Txt.replace (Str.ofString "/" ++ toS r) (Str.ofString "/") ⟨#[b]⟩ = toS (b :: r.map (sub b)) := by
    rw [hin, hsl, show (⟨#[b]⟩ : Str) = toS [b] from rfl, replace_eq]
    congr 1
    rw [flat_sub]
    rfl
  have hrpl : (toS (b :: r.map (sub b))).length ≤ 9 := by rw [toS_length]; simp; omega
  have hrp := Hd.mk hrp
  have htb := Hd.mk htb
  have hnb := Hd.mk (nb_of (X.keeps F.keep) (T.keeps F.keep))
  k_steps
  unfold Halt
  refine wpAny_with_toks (n := s.toks) (Nat.le_succ _) ?_
  refine KOpn.add (by rw [show (Str.ofString "/").length = 1 by decide]; omega) ?_
  intro t1 k1 _ hle
  replace hle : s.toks ≤ k1 := hle
  k_steps
  unfold Halt
  refine SC.replaceW2 20 20 (by decide) ?hu ?hv ?huv ?hx ?hz ?hq ?hnb
  case hu => intro e; exact absurd (Nat.lt_of_lt_of_le htb.out.2 hle) (by rw [e]; exact Nat.not_lt_zero _)
  case hv => exact Nat.ne_of_gt htb.out.1
  case huv => exact Nat.ne_of_gt (Nat.lt_of_lt_of_le htb.out.2 hle)
  case hx => rw [hin, toS_length]; simp only [List.length_cons]; omega
  case hz => exact Nat.le_of_ble_eq_true rfl
  case hnb => exact hnb.out
  case hq =>
    intro t2 k2
    rw [hrp.out]
    try dsimp only
    refine storeX_L F N ?_ rfl rfl
    intro h7 F7 N7
    exact hQ _ _ _ F7 N7
theorem wpC_with_toks {α : Type} {M : Model} {A : Around} {s : Shared} {t : Sem α} {Q : α → Shared → Prop} {E : Value → Shared → Prop} {n : Nat} (hn : n ≤ s.toks)
    (h : wpC M A t (fun a s' => n ≤ s'.toks → Q a s') (fun e s' => n ≤ s'.toks → E e s') s) : wpC M A t Q E s :=
  fun Γ p hΓ hc => Sem.wp_mono M Γ _ (fun _ _ _ x => x.2 x.1) (fun _ _ _ x => x.2 x.1) _ _ (Sem.wp_toks M Γ n t (fun a _ s' => n ≤ s'.toks → Q a s') (fun e _ s' => n ≤ s'.toks → E e s') p s hn (h Γ p hΓ hc))
end Mine
end
example : True ∧ True := by (w_top off; walk1 <;> exact True.intro)
section
local macro_rules | `(tactic| walk_at "zz") => `(tactic| skip)
example : True ∧ True := by (w_top off; walk1 <;> exact True.intro)
end
section
namespace Mine
local macro_rules | `(tactic| walk_at "subscriptTail Name Slice ref ref") => `(tactic| (refine halt_in ?_))
theorem news_app {h₀ : Heap} {L : Addr} {h : Heap} {x rest : List (Addr × Obj)} (N : News h₀ L h (x ++ rest)) : News h₀ L h rest := fun p hp => N p (List.mem_append_right _ hp)
theorem law_ifC (w : World) (mean : ExcName → Option Value) (mg mb : Str → Option Value)
   (dp un : Nat) (gd : Option (List Code)) (A₀ : Around) (base h₀ : Heap) (L c : Nat) (m : Str → Option Value) (s : Shared) (Q : Flow → Shared → Prop) (E : Value → Shared → Prop)
    (B : Below A₀ base [] h₀) (F : Fr h₀ L s.heap m) (XTB : (Mine.kk w.params).In base ∧ Top Mine.vq (looseW Mine.vq Mine.lo) mean mg mb base) (X : (Mine.kk w.params).In h₀) (T : Top Mine.vq (looseW Mine.vq Mine.lo) mean mg mb h₀)
    (hdp : dp + 300 < recursionLimit) (hun : un + 700 < cLine) (r : List Nat) (b : Nat) (tb ti : Tok) (vd vs : Value) (xd xs : List (Addr × Obj)) (hrl : r.length ≤ 8) (hr : ∀ a ∈ r, Okc a ∨ a = 47) (hb : b ≠ 41) (hbr : ∀ a ∈ r, a ≠ 47 → a ≠ b)
    (hvd : RV (dueR r (namesOf r)) vd xd) (hvs : RV (shortR r (namesOf r)) vs xs)
    (hmb : m (Str.ofString "between") = some (.str ⟨#[b]⟩ tb)) (hmi : m (Str.ofString "inside") = some (.str (toS (b :: r.map (sub b))) ti)) (hmd : m (Str.ofString "due") = some vd) (hms : m (Str.ofString "short") = some vs) (rest : List (Addr × Obj))
    (N : News h₀ L s.heap rest) (sd : ∀ p ∈ xd, p ∈ rest) (ss : ∀ p ∈ xs, p ∈ rest)
    (hQ : ∀ h' tk', Fr h₀ L h' m → News h₀ L h' rest → Q .next { s with heap := h', toks := tk' }) :
    wpC (model pg w) (ktrTop dp un gd (Str.ofString "law") sc_935 L 935 (.ref 934) [(Str.ofString "signs", c)] []) (exec lq1.1 (lenv L c)) Q E s := by
  have hrs : (r.map (sub b)).length ≤ 8 := by rw [List.length_map]; exact hrl
  have hil : (toS (b :: r.map (sub b))).length ≤ 9 := by rw [toS_length]; simp only [List.length_cons]; omega
  have hin : toS (b :: r.map (sub b)) ++ ⟨#[b]⟩ = toS (b :: (r.map (sub b) ++ [b])) := by
    rw [show (⟨#[b]⟩ : Str) = toS [b] from rfl, toS_append]
    rfl
  have hy1 : ∀ a ∈ r.map (sub b), Okc a ∨ a = b := by
    intro a ha
    obtain ⟨z, hz, rfl⟩ := List.mem_map.mp ha
    unfold sub
    split
    · exact .inr rfl
    · rename_i h
      exact .inl ((hr z hz).elim id fun e => absurd e h)
  have hy2 : ∀ a ∈ r.map (sub b) ++ [b], Okc a ∨ a = b := by
    intro a ha
    rcases List.mem_append.mp ha with h | h
    · exact hy1 a h
    · exact .inr (List.mem_singleton.mp h)
  have e1 := law_due_told (b := b) hbr
  have e2 := law_short_told (b := b) hbr
  have hy1 := Hd.mk hy1
  have hy2 := Hd.mk hy2
  have hr := Hd.mk hr
  have hbr := Hd.mk hbr
  have sd := Hd.mk sd
  have ss := Hd.mk ss
  have hvd := Hd.mk hvd
  have hvs := Hd.mk hvs
  have e1 := Hd.mk e1
  have e2 := Hd.mk e2
  have XTB := Hd.mk XTB
  refine wpC_If (wpC_or (wpC_Compare1 (wpC_Call ?_)))
  k_steps
  refine callC X (by k_is) ?_
  k_steps
  rename_i t1 k1 a1
  clear a1
  rw [hin]
  k_dflt (refine' told_R w mean mg mb _ _ _ hy2.out hb (by rw [List.length_append]; simp only [List.length_singleton]; omega) _ _ _ _ _ _ _ _ _ _ _ _ _ _ _ _ _ ?B ?F ?XB ?TB ?X ?T ?hcs ?N ?hdp ?hun ?_; (case B => k_asm); (case F => k_asm); (case XB => exact XTB.out.1); (case TB => exact XTB.out.2); (case X => k_asm); (case T => k_asm); (case hcs => exact rfl); (case N => k_asm); (case hdp => ktr_room); (case hun => ktr_units); k_whole)
  intro v7 x7 h7 k7 r7 F7 N7
  have r7 := Hd.mk r7
  (try dsimp only)
  k_steps
  unfold Halt
  refine ne_RV N7 (e1.out ▸ r7.out) hvd.out (fun p hp => List.mem_append_left _ hp) (fun p hp => List.mem_append_right _ (sd.out p hp)) (by show un + 64 < cLine; omega) ?_
  (try dsimp only)
  k_steps
  refine wpC_or (wpC_Compare1 (wpC_Call ?_))
  have N7 := news_app N7
  k_steps
  refine callC X (by k_is) ?_
  k_steps
  k_dflt (refine' told_R w mean mg mb _ _ _ hy1.out hb (by omega) _ _ _ _ _ _ _ _ _ _ _ _ _ _ _ _ _ ?B ?F ?XB ?TB ?X ?T ?hcs ?N ?hdp ?hun ?_; (case B => k_asm); (case F => k_asm); (case XB => exact XTB.out.1); (case TB => exact XTB.out.2); (case X => k_asm); (case T => k_asm); (case hcs => exact rfl); (case N => k_asm); (case hdp => ktr_room); (case hun => ktr_units); k_whole)
  intro v8 x8 h8 k8 r8 F8 N8
  have r8 := Hd.mk r8
  (try dsimp only)
  k_steps
  unfold Halt
  refine ne_RV N8 (e2.out ▸ r8.out) hvs.out (fun p hp => List.mem_append_left _ hp) (fun p hp => List.mem_append_right _ (ss.out p hp)) (by show un + 64 < cLine; omega) ?_
  (try dsimp only)
  k_steps
  refine wpC_pure (a := false) ?_
  rw [if_neg (by decide)]
  refine wpC_of_any (wpAny_execs_nil ?_)
  exact hQ _ _ F8 (news_app N8)
end Mine
end
section
namespace Mine
section
variable {prog : Program} {w : World} {A : Around} {s : Shared} {env : Env} {h₀ : Heap}
theorem codeC_fr {R : Result → Shared → Prop} {x : Str} {px : Pos} {body : List Stmt} {I : Addr} {fp wr : List Addr} {n : Nat} {P : Nat → Value → Prop} {St : Nat → Heap → Prop} {m : Str → Option Value}
    {news : List (Addr × Obj)} (W : Walks prog w A I fp wr n P St) (hx : env.kindOf x = some .local)
    (hp : (env.scope.kind == .class || (env.scope.kind == .module && env.locals != env.globals)) = false)
    (hLf : env.locals ∉ fp) (hwr : ∀ b ∈ wr, h₀.get? b = none) (hnw : ∀ p ∈ news, p.1 ∉ wr)
    (hst : St 0 s.heap) (F : Fr h₀ env.locals s.heap m) (N : News h₀ env.locals s.heap news) (t0 : Nat) (ht0 : t0 ≤ s.toks)
    (J : Nat → (Str → Option Value) → Prop) (h0 : J 0 m)
    (step : ∀ i v m₁ h tk own, t0 ≤ tk → i < n → P i v → J i m₁ → Fr h₀ env.locals h (fun y => if y = x then some v else m₁ y) → News h₀ env.locals h (own ++ news) →
      wpC (model prog w) A (execs body env) (fun f s₂ => ∃ h' tk' m₂, f = .next ∧ s₂ = { s with heap := h', toks := tk' } ∧ Fr h₀ env.locals h' m₂ ∧ News h₀ env.locals h' (own ++ news) ∧ J (i + 1) m₂) (notedBy (model prog w) A env fun e s' => R (.error e) s') { s with heap := h, toks := tk })
    (hR : ∀ h' tk m', t0 ≤ tk → Fr h₀ env.locals h' m' → News h₀ env.locals h' news → J n m' → R (.ok .next) { s with heap := h', toks := tk }) :
    codeC (model prog w) A (.forLoop (.Name x px) (.ref I) body [] env) R s := by
  have hLw : env.locals ∉ wr := fun h => hLf (W.sub _ h)
  have old : ∀ b o, h₀.get? b = some o → b ∉ wr := fun b o e hb => by rw [hwr b hb] at e; cases e
  refine codeC_forLoop
    (fun k s' => ∃ h' tk m' i, s' = { s with heap := h', toks := tk } ∧ St i h' ∧ Fr h₀ env.locals h' m' ∧ News h₀ env.locals h' news ∧ J i m' ∧ t0 ≤ tk ∧ i ≤ n ∧ k = n + 1 - i) ?_ (n + 1)
    ⟨s.heap, s.toks, m, 0, rfl, hst, F, N, h0, ht0, Nat.zero_le _, rfl⟩
  rintro k s' ⟨h', tk, m', i, rfl, hst', F', N', hJ, htk, hi, rfl⟩
  have next : ∀ h₁ : Heap, (∀ b o, b ∉ wr → h'.get? b = some o → h₁.get? b = some o) → Fr h₀ env.locals h₁ m' ∧ News h₀ env.locals h₁ news := fun h₁ hk₁ =>
    ⟨⟨F'.ns.at' fun o e => hk₁ _ o hLw e, fun b o e => hk₁ b o (old b o e) (F'.keep b o e), F'.above⟩, fun p hp => ⟨hk₁ _ _ (hnw p hp) (N' p hp).1, (N' p hp).2⟩⟩
  refine wpAny_with_toks (n := t0) htk ?_
  by_cases hlt : i < n
  · refine W.item i _ _ _ hlt hst' fun v h₁ tk₁ hP hst₁ hk₁ ht₁ => ?_
    replace ht₁ : t0 ≤ tk₁ := ht₁
    obtain ⟨F₁, N₁⟩ := next h₁ hk₁
    dsimp only
    refine wpAny_with_toks (n := t0) ht₁ ?_
    refine wpAny_assign_Name (wpAny_storeName_local hx F₁.ns (fun h₂ hn₂ hs₂ => ?_) hp)
    intro ht₂
    have F₂ := F₁.set hn₂ hs₂
    have Nown : News h₀ env.locals h₂ (ownOf h₀ fp h₂) := news_ownOf hLf
    refine wpC_with_toks (n := t0) ht₂ ?_
    refine wpC_mono (step i v m' _ _ (ownOf h₀ fp h₂) ht₂ hlt hP hJ F₂ (Nown.append (N₁.set hs₂))) (fun f s₃ h₃ => ?_) fun _ _ e _ => ?_
    · obtain ⟨h₃', tk₃, m₂, rfl, rfl, F₃, N₃, hJ₃⟩ := h₃
      intro ht₃
      replace ht₃ : t0 ≤ tk₃ := ht₃
      refine ⟨n + 1 - (i + 1), by omega, h₃', tk₃, m₂, i + 1, rfl, ?_, F₃, N₃.right, hJ₃, ht₃, hlt, rfl⟩
      refine W.frame _ _ _ hst₁ fun b hb o e => ?_
      have e₂ : h₂.get? b = some o := (hs₂.2 b fun q => hLf (q ▸ hb)).trans e
      cases hn : h₀.get? b with
      | some o₀ =>
        have : o₀ = o := by have := F₂.keep b o₀ hn; rw [e₂] at this; exact (Option.some.inj this).symm
        exact this ▸ F₃.keep b o₀ hn
      | none => exact (N₃ _ (List.mem_append_left _ (mem_ownOf hb hn e₂))).1
    · exact e
  · have hin : i = n := by omega
    subst hin
    refine W.done _ _ _ hst' fun h₁ tk₁ hk₁ ht₁ => ?_
    replace ht₁ : t0 ≤ tk₁ := ht₁
    obtain ⟨F₁, N₁⟩ := next h₁ hk₁
    exact hR h₁ tk₁ m' ht₁ F₁ N₁ hJ
theorem iterC {R : Result → Shared → Prop} {E : Value → Shared → Prop} {x : Str} {px : Pos} {body : List Stmt} {ax : Addr} {items : Array Value} {m : Str → Option Value} {news : List (Addr × Obj)} (hh : A.handled = none)
    (hl : s.heap.IsList ax items) (hax : env.locals ≠ ax) (hx : env.kindOf x = some .local)
    (hp : (env.scope.kind == .class || (env.scope.kind == .module && env.locals != env.globals)) = false)
    (F : Fr h₀ env.locals s.heap m) (N : News h₀ env.locals s.heap news) (t0 : Nat) (ht0 : t0 ≤ s.toks)
    (J : Nat → (Str → Option Value) → Prop) (h0 : J 0 m)
    (step : ∀ i v m₁ h tk own, t0 ≤ tk → i < items.size → items[i]? = some v → J i m₁ → Fr h₀ env.locals h (fun y => if y = x then some v else m₁ y) → News h₀ env.locals h (own ++ news) →
      wpC (model prog w) A (execs body env) (fun f s₂ => ∃ h' tk' m₂, f = .next ∧ s₂ = { s with heap := h', toks := tk' } ∧ Fr h₀ env.locals h' m₂ ∧ News h₀ env.locals h' (own ++ news) ∧ J (i + 1) m₂) (notedBy (model prog w) A env fun e s' => R (.error e) s') { s with heap := h, toks := tk })
    (hR : ∀ h' tk m', t0 ≤ tk → Fr h₀ env.locals h' m' → News h₀ env.locals h' news → J items.size m' → R (.ok .next) { s with heap := h', toks := tk }) :
    wpAny (model prog w) A (pyIter (.ref ax)) (fun it s₂ => codeC (model prog w) A (.forLoop (.Name x px) it body [] env) R s₂) E s := by
  have lt : ∀ b o, s.heap.get? b = some o → b ≠ s.heap.objs.size := fun b o e => Nat.ne_of_lt (Heap.lt_size e)
  obtain ⟨oL, _, _, hL, _⟩ := id F.ns
  obtain ⟨oa, hoa, _⟩ := id hl
  refine wpAny_pyIter_list hl ?_
  refine codeC_fr (Walks.list hh s.heap.objs.size ax (lt _ _ hoa) items) hx hp ?_ ?_ ?_ ⟨⟨_, Heap.get?_push_size _ rfl, rfl, rfl⟩, hl.push _⟩ (F.push _) (N.pushKeep _) t0 ht0 J h0 ?_ ?_
  · intro h
    rcases List.mem_cons.mp h with h | h
    · exact lt _ _ hL h
    · exact hax (List.mem_singleton.mp h)
  · intro b hb
    rw [List.mem_singleton.mp hb]
    cases e : h₀.get? s.heap.objs.size with
    | none => rfl
    | some o => exact absurd rfl (lt _ _ (F.keep _ _ e))
  · intro p hp h
    exact lt _ _ (N p hp).1 (List.mem_singleton.mp h)
  · intro i v m₁ h tk own a b c d e f
    exact step i v m₁ h tk own a b c d e f
  · intro h' tk m' a b c d
    exact hR h' tk m' a b c d
end
end Mine
end
example : True ∧ True := by (w_top off; walk1 <;> exact True.intro)
section
local macro_rules | `(tactic| walk_at "zz") => `(tactic| skip)
example : True ∧ True := by (w_top off; walk1 <;> exact True.intro)
end
section
namespace Mine
local macro_rules | `(tactic| walk_at "subscriptTail Name Slice ref ref") => `(tactic| (refine halt_in ?_))
theorem ne41 {r : List Nat} {b : Nat} (hr : ∀ a ∈ r, Okc a ∨ a = 47) (hb : b = 47 ∨ b = 32 ∨ MarkOk b) : b ≠ 41 ∧ ∀ a ∈ r, a ≠ 47 → a ≠ b := by
  refine ⟨?_, fun a ha h47 e => ?_⟩
  · rcases hb with h | h | h <;> omega
  · rcases hr a ha with h | h
    · rcases h with h | h | h <;> rcases hb with hb | hb | hb <;> omega
    · exact h47 h
theorem law_for (w : World) (mean : ExcName → Option Value) (mg mb : Str → Option Value)
   (dp un : Nat) (gd : Option (List Code)) (A₀ : Around) (base h₀ : Heap) (L c : Nat) (m : Str → Option Value) (s : Shared) (Q : Flow → Shared → Prop) (E : Value → Shared → Prop)
    (B : Below A₀ base [] h₀) (F : Fr h₀ L s.heap m) (XTB : (Mine.kk w.params).In base ∧ Top Mine.vq (looseW Mine.vq Mine.lo) mean mg mb base) (X : (Mine.kk w.params).In h₀) (T : Top Mine.vq (looseW Mine.vq Mine.lo) mean mg mb h₀)
    (hdp : dp + 300 < recursionLimit) (hun : un + 700 < cLine) (r : List Nat) (k : Nat) (tr tk : Tok) (vd vs : Value) (xd xs : List (Addr × Obj)) (hrl : r.length ≤ 8) (hr : ∀ a ∈ r, Okc a ∨ a = 47) (hk : MarkOk k)
    (hvd : RV (dueR r (namesOf r)) vd xd) (hvs : RV (shortR r (namesOf r)) vs xs)
    (hmr : m (Str.ofString "row") = some (.str (toS r) tr)) (hmk : m (Str.ofString "mark") = some (.str ⟨#[k]⟩ tk)) (hmd : m (Str.ofString "due") = some vd) (hms : m (Str.ofString "short") = some vs) (rest : List (Addr × Obj))
    (htk : 1 ≤ tk ∧ tk < s.toks)
    (N : News h₀ L s.heap rest) (sd : ∀ p ∈ xd, p ∈ rest) (ss : ∀ p ∈ xs, p ∈ rest)
    (hQ : ∀ h' tk' m', m' (Str.ofString "mark") = some (.str ⟨#[k]⟩ tk) → Fr h₀ L h' m' → News h₀ L h' rest → Q .next { s with heap := h', toks := tk' }) :
    wpC (model pg w) (ktrTop dp un gd (Str.ofString "law") sc_935 L 935 (.ref 934) [(Str.ofString "signs", c)] []) (exec lr5.1 (lenv L c)) Q E s := by
  have hr := Hd.mk hr
  have sd := Hd.mk sd
  have ss := Hd.mk ss
  have hvd := Hd.mk hvd
  have hvs := Hd.mk hvs
  have XTB := Hd.mk XTB
  have htk := Hd.mk htk
  have hk := Hd.mk hk
  refine wpC_For ?_
  k_steps
  rename_i l8 h8 F8 N8 o8
  have hl8 : h8.IsList l8 #[.str (Str.ofString "/") s.toks, .str (Str.ofString " ") (s.toks + 1), .str ⟨#[k]⟩ tk] := ⟨_, (N8 _ (.head _)).1, rfl, _, rfl⟩
  refine iterC (h₀ := h₀) (m := m) (news := rest) rfl hl8 (Ne.symm (N8 _ (.head _)).2.1) (by rfl) (by rfl) F8 (news_tail N8) (s.toks + 2) (Nat.le_refl _)
    (fun _ m₁ => m₁ (Str.ofString "row") = some (.str (toS r) tr) ∧ m₁ (Str.ofString "mark") = some (.str ⟨#[k]⟩ tk) ∧ m₁ (Str.ofString "due") = some vd ∧ m₁ (Str.ofString "short") = some vs) ⟨hmr, hmk, hmd, hms⟩ ?step ?hR
  case hR =>
    intro h' tk' m' _ F' N' J'
    exact hQ h' tk' m' J'.2.1 F' N'
  case step =>
    clear F8 N8 hl8 o8
    intro i v m₁ h7 tk7 own ht7 hi hv J7 F7 N7
    obtain ⟨b, tb, rfl, hb, htb⟩ : ∃ b tb, v = .str ⟨#[b]⟩ tb ∧ (b = 47 ∨ b = 32 ∨ MarkOk b) ∧ (1 ≤ tb ∧ tb < tk7) := by
      match i, hi with
      | 0, _ => exact ⟨47, s.toks, by cases hv; rfl, .inl rfl, Nat.le_of_lt (Nat.lt_of_le_of_lt htk.out.1 htk.out.2), Nat.lt_of_lt_of_le (Nat.lt_add_of_pos_right (k := 2) (by decide)) ht7⟩
      | 1, _ => exact ⟨32, s.toks + 1, by cases hv; rfl, .inr (.inl rfl), Nat.le_add_left _ _, Nat.lt_of_lt_of_le (Nat.lt_succ_self _) ht7⟩
      | 2, _ => exact ⟨k, tk, by cases hv; rfl, .inr (.inr hk.out), htk.out.1, Nat.lt_of_lt_of_le (Nat.lt_trans htk.out.2 (Nat.lt_add_of_pos_right (k := 2) (by decide))) ht7⟩
    have hbb := ne41 hr.out hb
    refine wpC_execs_cons (wpC_of_any ?_)
    refine law_inside w mean mg mb dp un gd A₀ base h₀ L c _ _ _ _ B F7 X T hdp hun r tr hrl ?_ b tb ?_ (own ++ rest) N7 htb ?_
    · show (if _ then _ else _) = _
      rw [if_neg (by decide)]
      exact J7.1
    · show (if _ then _ else _) = _
      rw [if_pos rfl]
    intro ti h6 k6 F6 N6
    dsimp only
    refine wpC_execs_cons ?_
    refine law_ifC w mean mg mb dp un gd A₀ base h₀ L c _ _ _ _ B F6 XTB.out X T hdp hun r b tb ti vd vs xd xs hrl hr.out hbb.1 hbb.2 hvd.out hvs.out ?_ ?_ ?_ ?_ (own ++ rest) N6 (fun p hp => List.mem_append_right _ (sd.out p hp)) (fun p hp => List.mem_append_right _ (ss.out p hp)) ?_
    · show (if _ then _ else if _ then _ else _) = _
      rw [if_neg (by decide), if_pos rfl]
    · show (if _ then _ else if _ then _ else _) = _
      rw [if_pos rfl]
    · show (if _ then _ else if _ then _ else _) = _
      rw [if_neg (by decide), if_neg (by decide)]
      exact J7.2.2.1
    · show (if _ then _ else if _ then _ else _) = _
      rw [if_neg (by decide), if_neg (by decide)]
      exact J7.2.2.2
    intro h5 k5 F5 N5
    dsimp only
    refine wpC_of_any (wpAny_execs_nil ?_)
    refine ⟨h5, k5, _, rfl, rfl, F5, N5, ?_, ?_, ?_, ?_⟩
    · show (if _ then _ else if _ then _ else _) = _
      rw [if_neg (by decide), if_neg (by decide)]
      exact J7.1
    · show (if _ then _ else if _ then _ else _) = _
      rw [if_neg (by decide), if_neg (by decide)]
      exact J7.2.1
    · show (if _ then _ else if _ then _ else _) = _
      rw [if_neg (by decide), if_neg (by decide)]
      exact J7.2.2.1
    · show (if _ then _ else if _ then _ else _) = _
      rw [if_neg (by decide), if_neg (by decide)]
      exact J7.2.2.2
end Mine
end
section
namespace Mine
theorem rows_good {cs : List Nat} (hc : ∀ c ∈ cs, SignOk c) (hl : cs.length ≤ 8) : ∀ z ∈ rowsOf cs, ∃ r, z = toS r ∧ (∀ a ∈ r, Okc a ∨ a = 47) ∧ r.length ≤ 8 := by
  intro z hz
  unfold rowsOf at hz
  rcases List.mem_cons.mp hz with rfl | hz
  · refine ⟨[49, 47, 47, 50, 49], by decide, ?_, by decide⟩
    intro a ha
    simp only [List.mem_cons, List.not_mem_nil, or_false] at ha
    rcases ha with rfl | rfl | rfl | rfl | rfl
    · exact .inl (.inr (.inr (by decide)))
    · exact .inr rfl
    · exact .inr rfl
    · exact .inl (.inr (.inr (by decide)))
    · exact .inl (.inr (.inr (by decide)))
  · obtain ⟨i, _, rfl⟩ := List.mem_map.mp hz
    refine ⟨cs.take i, rfl, ?_, by rw [List.length_take]; omega⟩
    intro a ha
    rcases hc a (List.mem_of_mem_take ha) with h | h | h | h
    · exact .inr h
    · exact .inl (.inl h)
    · exact .inl (.inr (.inl h))
    · exact .inl (.inr (.inr h))
theorem law_rowsC (w : World) (mean : ExcName → Option Value) (mg mb : Str → Option Value)
   (dp un : Nat) (gd : Option (List Code)) (A₀ : Around) (base h₀ : Heap) (L c : Nat) (m : Str → Option Value) (s : Shared) (Q : Flow → Shared → Prop) (E : Value → Shared → Prop)
    (B : Below A₀ base [] h₀) (F : Fr h₀ L s.heap m) (XTB : (Mine.kk w.params).In base ∧ Top Mine.vq (looseW Mine.vq Mine.lo) mean mg mb base) (X : (Mine.kk w.params).In h₀) (T : Top Mine.vq (looseW Mine.vq Mine.lo) mean mg mb h₀)
    (hdp : dp + 300 < recursionLimit) (hun : un + 700 < cLine) (D : Nat) (ys : List Value) (cs : List Nat) (oC : Obj) (hoC : oC.data = .cell (some (.ref D))) (hst : StrsAre ys (cs.map sg1)) (hcl : cs.length ≤ 8) (hcs : ∀ c ∈ cs, SignOk c)
    (k : Nat) (tk : Tok) (hk : MarkOk k) (htk : 1 ≤ tk ∧ tk < s.toks) (hmk : m (Str.ofString "mark") = some (.str ⟨#[k]⟩ tk))
    (N : News h₀ L s.heap [(c, oC), (D, LCg.lst ys)])
    (hQ : ∀ h' tk' m', Fr h₀ L h' m' → Q .next { s with heap := h', toks := tk' }) :
    wpC (model pg w) (ktrTop dp un gd (Str.ofString "law") sc_935 L 935 (.ref 934) [(Str.ofString "signs", c)] []) (exec ls2.1 (lenv L c)) Q E s := by
  refine wpC_For ?_
  refine wpAny_with_toks (n := tk + 1) htk.2 ?_
  refine law_rows w mean mg mb dp un gd A₀ base h₀ L c m _ _ _ B F X T hdp hun D ys cs oC hoC hst hcl N ?_
  intro R arr ep h8 k8 hs8 F8 N8 ht8
  have hl8 : h8.IsList R arr := ⟨_, (N8 _ (.head _)).1, rfl, _, rfl⟩
  refine iterC (h₀ := h₀) (m := m) (news := []) rfl hl8 (Ne.symm (N8 _ (.head _)).2.1) (by rfl) (by rfl) F8 (news_tail N8) (tk + 1) ht8
    (fun _ m₁ => m₁ (Str.ofString "mark") = some (.str ⟨#[k]⟩ tk)) hmk ?step ?hR
  case hR =>
    intro h' tk' m' _ F' N' J'
    exact hQ h' tk' m' F'
  case step =>
    intro i v m₁ h7 tk7 own ht7 hi hv J7 F7 N7
    obtain ⟨z, tr, hz, rfl⟩ := strs_at hs8 i v (by rw [Array.getElem?_toList]; exact hv)
    obtain ⟨r, rfl, hr, hrl⟩ := rows_good hcs hcl z (List.mem_of_getElem? hz)
    clear F8 N8 hl8 hs8 hz hv
    refine wpC_execs_cons (wpC_of_any (wpAny_with_toks (n := tk + 1) ht7 ?_))
    refine law_names w mean mg mb dp un gd A₀ base h₀ L c _ _ _ _ B F7 X T XTB hdp hun r tr hr hrl ?_ (own ++ []) N7 ?_
    · show (if _ then _ else _) = _
      rw [if_pos rfl]
    intro S ar1 ep1 h6 k6 hs1 F6 N6 _ ht6
    dsimp only
    refine wpC_execs_cons (wpC_of_any (wpAny_with_toks (n := tk + 1) ht6 ?_))
    have hmn : ∀ m₂ : Str → Option Value, (fun y => if y = Str.ofString "names" then some (.ref S) else m₂ y) (Str.ofString "names") = some (.ref S) := fun m₂ => by
      show (if _ then _ else _) = _
      rw [if_pos rfl]
    have hmr : (fun y => if y = Str.ofString "names" then some (Value.ref S) else (if y = Str.ofString "row" then some (.str (toS r) tr) else m₁ y)) (Str.ofString "row") = some (.str (toS r) tr) := by
      show (if _ then _ else if _ then _ else _) = _
      rw [if_neg (by decide), if_pos rfl]
    refine law_if1 w mean mg mb dp un gd A₀ base h₀ L c _ _ _ _ B F6 X T hdp hun r tr hr hrl hmr S ar1 ep1 hs1 (hmn _) (own ++ []) N6 ?_
    intro h5 k5 F5 N5 ht5
    dsimp only
    refine wpC_execs_cons (wpC_of_any (wpAny_with_toks (n := tk + 1) ht5 ?_))
    refine law_if2 w mean mg mb dp un gd A₀ base h₀ L c _ _ _ _ B F5 X T hdp hun r tr hr hrl hmr S ar1 ep1 hs1 (hmn _) (own ++ []) N5 ?_
    intro h4 k4 F4 N4 ht4
    dsimp only
    refine wpC_execs_cons (wpC_of_any (wpAny_with_toks (n := tk + 1) ht4 ?_))
    refine law_due w mean mg mb dp un gd A₀ base h₀ L c _ _ _ _ B F4 X T hdp hun r tr hr hrl hmr S ar1 ep1 hs1 (hmn _) (own ++ []) N4 ?_
    intro vd xd h3 k3 hvd F3 N3 ht3
    dsimp only
    refine wpC_execs_cons (wpC_of_any (wpAny_with_toks (n := tk + 1) ht3 ?_))
    have N3' : News h₀ L h3 ((S, W.listOf ar1 ep1) :: (xd ++ (own ++ []))) := fun p hp => N3 p (by
      rcases List.mem_cons.mp hp with h | h
      · exact List.mem_append_right _ (h ▸ .head _)
      · rcases List.mem_append.mp h with h | h
        · exact List.mem_append_left _ h
        · exact List.mem_append_right _ (.tail _ h))
    refine law_short w mean mg mb dp un gd A₀ base h₀ L c _ _ _ _ B F3 X T hdp hun r tr hr hrl ?_ S ar1 ep1 hs1 ?_ (xd ++ (own ++ [])) N3' ?_
    · show (if _ then _ else if _ then _ else if _ then _ else _) = _
      rw [if_neg (by decide), if_neg (by decide), if_pos rfl]
    · show (if _ then _ else if _ then _ else if _ then _ else _) = _
      rw [if_neg (by decide), if_pos rfl]
    intro vs xs h2 k2 hvs F2 N2 ht2
    dsimp only
    refine wpC_execs_cons ?_
    refine law_for w mean mg mb dp un gd A₀ base h₀ L c _ _ _ _ B F2 XTB X T hdp hun r k tr tk vd vs xd xs hrl hr hk hvd hvs ?_ ?_ ?_ ?_ (xs ++ (S, W.listOf ar1 ep1) :: (xd ++ (own ++ []))) ⟨htk.1, ht2⟩ N2 ?_ ?_ ?_
    · show (if _ then _ else if _ then _ else if _ then _ else if _ then _ else _) = _
      rw [if_neg (by decide), if_neg (by decide), if_neg (by decide), if_pos rfl]
    · show (if _ then _ else if _ then _ else if _ then _ else if _ then _ else _) = _
      rw [if_neg (by decide), if_neg (by decide), if_neg (by decide), if_neg (by decide)]
      exact J7
    · show (if _ then _ else if _ then _ else if _ then _ else if _ then _ else _) = _
      rw [if_neg (by decide), if_pos rfl]
    · show (if _ then _ else if _ then _ else if _ then _ else if _ then _ else _) = _
      rw [if_pos rfl]
    · exact fun p hp => List.mem_append_right _ (.tail _ (List.mem_append_left _ hp))
    · exact fun p hp => List.mem_append_left _ hp
    intro h1 k1 m' hm' F1 N1
    dsimp only
    refine wpC_of_any (wpAny_execs_nil ?_)
    exact ⟨h1, k1, m', rfl, rfl, F1, fun p hp => N1 p (List.mem_append_right _ (.tail _ (List.mem_append_right _ hp))), hm'⟩
end Mine
end
section
namespace Mine
noncomputable abbrev ls3 : { x : Stmt // bd_935.getD 3 (.Pass ⟨0,0,0,0⟩) = x } := ⟨_, by conv => { lhs; whnf }⟩
theorem bd_eq : bd_935 = [ls0.1, ls1.1, ls2.1, ls3.1] := rfl
theorem law_bodyC (w : World) (mean : ExcName → Option Value) (mg mb : Str → Option Value) (l : Addr) (vs : List Value) (ns : List Int)
   (dp un : Nat) (gd : Option (List Code)) (A₀ : Around) (base h₀ : Heap) (L c : Nat) (m : Str → Option Value) (s : Shared) (Q : Flow → Shared → Prop) (E : Value → Shared → Prop)
    (B : Below A₀ base [] h₀) (F : Fr h₀ L s.heap m) (XTB : (Mine.kk w.params).In base ∧ Top Mine.vq (looseW Mine.vq Mine.lo) mean mg mb base) (X : (Mine.kk w.params).In h₀) (T : Top Mine.vq (looseW Mine.vq Mine.lo) mean mg mb h₀)
    (hl : h₀.IsList l vs.toArray) (hi : IntsAre vs ns) (hn : ns.length ≤ 63) (hm : m (Str.ofString "script") = some (.ref l))
    (hdp : dp + 300 < recursionLimit) (hun : un + 700 < cLine)
    (oC : Obj) (hoC : oC.data = .cell none) (N : News h₀ L s.heap [(c, oC)])
    (hQ : ∀ h' tk' m', Fr h₀ L h' m' → Q (.ret (.bool true)) { s with heap := h', toks := tk' }) :
    wpC (model pg w) (ktrTop dp un gd (Str.ofString "law") sc_935 L 935 (.ref 934) [(Str.ofString "signs", c)] []) (execs bd_935 (lenv L c)) Q E s := by
  rw [bd_eq]
  refine wpC_execs_cons (wpC_of_any ?_)
  refine law_0 w mean mg mb l vs ns dp un gd A₀ base h₀ L c m s _ _ B F X T hl hi hn hm hdp hun oC hoC N ?_
  intro D ys cs oC' h8 k8 hcs hst hcl hoC' F8 N8
  dsimp only
  refine wpC_execs_cons (wpC_of_any ?_)
  refine law_1t w mean mg mb l vs ns dp un gd A₀ base h₀ L c m _ _ _ B F8 X T hl hi hn hm hdp hun _ N8 ?_
  intro k t7 h7 k7 hk ht F7 N7
  dsimp only
  refine wpC_execs_cons ?_
  refine law_rowsC w mean mg mb dp un gd A₀ base h₀ L c _ _ _ _ B F7 XTB X T hdp hun D ys cs oC' hoC' hst hcl hcs k t7 hk ht ?_ N7 ?_
  · show (if _ then _ else _) = _
    rw [if_pos rfl]
  intro h6 k6 m6 F6
  dsimp only
  refine wpC_execs_cons (wpC_of_any ?_)
  clear F7 N7 F8 N8
  k_steps
  exact hQ _ _ _ F6
end Mine
end
section
namespace Mine
section
variable {prog : Program} {w : World} {A : Around} {s : Shared} {K : Frag} {f : Addr} {R : Result → Shared → Prop} {name qual : Str} {params : Arguments} {body : List Stmt} {scope : Scope} {dV kV doc pm cdv ct oc : Value} {an od : Option Addr} {osl : Array (Option Value)} {vals : List Value} {binds : List (Str × Value)}
theorem defCell (X : K.In s.heap) (hlim : s.heap.NoLimit)
    (ho : K.lookup f = some ⟨oc, od, .func (fnOf name qual params body scope dV kV doc pm an cdv ct), osl⟩) (hcd : codeIn K cdv qual = true) (hroom : A.depth < recursionLimit)
    (hbind : bindArgs (fnOf name qual params body scope dV kV doc pm an cdv ct) ⟨vals, []⟩ = pure binds)
    (hkind : ∀ x ∈ binds, scope.names.lookup x.1 = some .local ∨ (scope.names.lookup x.1 = some .cell ∧ ((cellsFrom (s.heap.objs.size + 1) scope.names []).lookup x.1).isSome = true))
    (h : ∀ env, env = callEnvC (fnOf name qual params body scope dV kV doc pm an cdv ct) s.heap.objs.size f → ∀ s₁, InCallC s env.locals (bindL env.kindOf binds fun _ => none) env.cells (bindC env.kindOf binds fun _ => none) s₁ →
      wpC (model prog w) (A.deeper env) (execs body env) (fun f s' => R (.ok (.ret (match f with | .ret v => v | _ => .none))) s')
        (fun e s' => wpAny (model prog w) (A.deeper env) (leaving env e) (fun _ s'' => R (.error e) s'') (fun e' s'' => R (.error e') s'') s') s₁)
    (hco : scope.isCoroutine = false) (hgen : scope.isGenerator = false) (hk : scope.kind = .function) :
    codeC (model prog w) A (.call (.ref f) ⟨vals, []⟩) R s := by
  refine codeC_call_function (fd := fnOf name qual params body scope dV kV doc pm an cdv ct) (body := body) hroom (X _ _ ho) rfl hco hgen rfl (codeRec_of X hcd) ?_
  rw [hbind]
  refine wpAny_pure (wpAny_newFunctionEnv_cells hk hkind fun env he s' x => ?_)
  exact ⟨hlim.keeps x.toInCall.keep, codeC_func (h env he s' x)⟩
end
theorem law_callC (w : World) (mean : ExcName → Option Value) (mg mb : Str → Option Value) (l : Addr) (vs : List Value) (ns : List Int) (s : Shared) (Q E : Value → Shared → Prop)
    (X : (Mine.kk w.params).In s.heap) (T : Top Mine.vq (looseW Mine.vq Mine.lo) mean mg mb s.heap)
    (hl : s.heap.IsList l vs.toArray) (hi : IntsAre vs ns) (hn : ns.length ≤ 63)
    (hQ : ∀ h' tk' m', Fr s.heap s.heap.objs.size h' m' → Q (.bool true) { s with heap := h', toks := tk' }) :
    wpC (model pg w) callerA (call (.ref 935) [.ref l]) Q E s := by
  refine wpC_call ?_
  refine' defCell (binds := [(Str.ofString "script", .ref l)]) X T.nolimit ?k6 ?k7 ?k8 ?k9 ?c1 ?_ ?c2 ?c3 ?c4
  case k6 => k_is
  case k7 => k_is
  case k8 => decide +kernel
  case k9 => rfl
  case c1 => intro x hx; rw [List.mem_singleton.mp hx]; exact .inl rfl
  case c2 => rfl
  case c3 => rfl
  case c4 => rfl
  intro env he s₁ x
  subst he
  have F : Fr s.heap s.heap.objs.size s₁.heap _ := ⟨x.toInCall.ns, x.toInCall.keep, Nat.le_refl _⟩
  obtain ⟨h', tk', e1, e2⟩ := x.done
  subst e1
  obtain ⟨cells, N, CA⟩ := Cl.news (h₀ := s.heap) (h := h') (L := s.heap.objs.size) (cm := fun _ => none) (Nat.le_refl _) (cs := [(Str.ofString "signs", s.heap.objs.size + 1)]) (fun n c hm => by
    obtain ⟨rfl, rfl⟩ : n = Str.ofString "signs" ∧ c = s.heap.objs.size + 1 := by
      have := List.mem_singleton.mp hm
      exact ⟨congrArg Prod.fst this, congrArg Prod.snd this⟩
    exact ⟨x.cell (Str.ofString "signs") _ rfl, x.above (Str.ofString "signs") _ (.head _)⟩)
  obtain ⟨oC, rfl, hoC⟩ := CA.one
  show wpC (model pg w) (ktrTop (1 + claimMargin + 1) (4 + 3) (some []) (Str.ofString "law") sc_935 s.heap.objs.size 935 (.ref 934) [(Str.ofString "signs", s.heap.objs.size + 1)] []) (execs bd_935 (lenv s.heap.objs.size (s.heap.objs.size + 1))) _ _ _
  refine law_bodyC w mean mg mb l vs ns _ _ _ callerA s.heap s.heap _ _ _ _ _ _ (below_caller s.heap) F ⟨X, T⟩ X T hl hi hn (by rfl) (by decide +kernel) (by decide +kernel) oC hoC N ?_
  intro h9 k9 m9 F9
  exact hQ h9 k9 m9 F9
end Mine
end
end
section
namespace Mine
theorem law_C : WalkC vq lo (XL vq []) HH.says Challenge.rw_ny0344_01.row.toRowW dLaw [] := by
  intro w s₀ s₁ mg mb G Y fa o pm cd doc dV kV ho hd hcd hD hmg hg args vals as hpre hlay hrd hwl hlo
  have KX := kIn_of Y
  have X := (Ground.X G).1
  have V := (Ground.X G).2
  refine Ground.open G ?_
  intro T B D TE TW
  try (refine guard_noD D (by decide +kernel) ?_; clear D)
  obtain ⟨_, _, M⟩ := bmod_of_top T
  have TA := at_of_top T
  try (obtain ⟨_, _, he, B0⟩ := based_of_top T rfl hmg ho hd; have he' : cd = _ := he; subst he'; clear he)
  wrow_args hpre hlay hrd hwl hlo
  rename_i ns _ _ _ _ _ _ _ l vs _ hL _ _ _ hI _ hc _
  have e935 := mg_of (n := Str.ofString "law") (v := .ref 935) KX T.g (by rfl)
  have hfa : fa = 935 := by
    have := hmg.symm.trans e935
    injection this with this
    injection this
  subst hfa
  refine law_callC w (ExcName.means s₀.heap) mg mb l vs ns s₁ _ _ KX T hL hI (by omega) ?_
  intro h' tk' m' F'
  refine GoodW.toG (goodW_bool (s' := { s₁ with heap := h', toks := tk' }) F' hg ?hn ?hp rfl)
  case hn => intro cls; rfl
  case hp => wrow_post
theorem rw_promised : Challenge.rw_ny0344_01.row.toRowW.promised := ⟨[ofPy (PyData.list [])], by decide +kernel, by decide +kernel⟩
theorem rw_end : Challenge.rw_ny0344_01.Holds := hdC rw_promised law_C
end Mine
end
end
theorem PySem.Challenge.cw_ny0344_01_holds : PySem.Challenge.rw_ny0344_01.Holds :=
  Mine.rw_end
