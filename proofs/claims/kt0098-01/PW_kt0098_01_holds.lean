import PyProof.Rows.All
import Wide.All
import OpenK.AllK
import Wide.FinOn
import PyProof.GenCompD
import PyProof.CodeObjX
import KE.KSetDisp
import Lean
import PySem.Challenge.RW_kt0098_01
set_option Elab.async false
set_option linter.all false
set_option genInjectivity false
set_option genSizeOf false
set_option genSizeOfSpec false
set_option bootstrap.genMatcherCode false
set_option maxRecDepth 20000
set_option compiler.extract_closed false
section
open PySem PySem.Calls PySem.W PyProof.Rows
namespace Lw
theorem byG {P:Prop} (h:∀ G:Prop,(P → G) → G):P:=h P id
noncomputable def mkS (l:List Nat):PySem.Str:=⟨l.toArray⟩
structure Fn where
 name:PySem.Str
 args:Arguments
 body:List Stmt
 scope:Scope
 deriving Inhabited
noncomputable def fnOf:Stmt → Option Fn
 | .FunctionDef name args body _ _ _ scope _ _ _=>some ⟨name,args,body,scope⟩
 | _=>none
noncomputable def topFn (p:Program) (i:Nat):Fn:=(p.main.body[i]?.bind fnOf).getD default
noncomputable def clsFn (p:Program) (i j:Nat):Fn:=(match p.main.body[i]? with
 | some (.ClassDef _ _ _ body _ _ _ _ _ _ _)=>body[j]?.bind fnOf
 | _=>none).getD default
noncomputable def mkFd (F:Fn) (q:PySem.Str) (d kd doc pm code:Value):FuncData:=
 {name:=F.name,qualname:=q,params:=F.args,body:=.stmts F.body,scope:=F.scope,globals:=mainGlobals,closure:=[],defaults:=d,kwdefaults:=kd,doc:=doc,pyModule:=pm,code:=code,builtins:=builtinsNs }
theorem thr_eq (t:Thread):through t = (endAt 0 t).isSome:=by
 obtain ⟨cur,code,pos,stack⟩:=t
 cases stack with
 | cons a l=>rfl
 | nil=>
  cases cur with
  | pure x=>cases x <;> rfl
  | _=>rfl
theorem segRun_top {tb:String → Option Builtin} {p:Program} {w:World} {n₀:Nat} {ann:Option Value}:∀ {n:Nat} {s s':Shared} {t:Thread} {f:Flow} {c:Code} {q:Pos},segRun tb p w n₀ ann 0 n s t = some (f,s',c,q) → topRun tb p w n₀ ann n s t = some s':=by
 intro n
 induction n with
 | zero=>intro _ _ _ _ _ _ h;cases h
 | succ n ih=>
  intro s s' t f c q
  show (match endAt 0 t with | some f=>some (f,s,t.code,t.pos) | none=>match stepOk n₀ ann t with | false=>none | true=>match step (denote tb) p w s t with | .go s' t'=>segRun tb p w n₀ ann 0 n s' t' | .halt _ _=>none) = _ → (match through t with | true=>some s | false=>match stepOk n₀ ann t with | false=>none | true=>match step (denote tb) p w s t with | .go s' t'=>topRun tb p w n₀ ann n s' t' | .halt _ _=>none) = _
  rw [thr_eq]
  cases endAt 0 t with
  | some x=>intro h;cases h;rfl
  | none=>
   cases stepOk n₀ ann t with
   | false=>intro h;cases h
   | true=>
    cases step (denote tb) p w s t with
    | halt o s₂=>intro h;cases h
    | go s₂ t₂=>exact ih
noncomputable def lookAt (p q:Program) (loose:List PySem.Str) (Xt:Shared → Bool) {α:Type} (Yf:Shared → α) (g0:Bool) (h0:Heap) (s:Shared):=
 ((staticsOk (importedModules p.main.body) h0 s.heap && namesBound p s.heap && gensDone s && laidKept h0 s.heap),openSeen q loose (importedModules p.main.body) Xt g0 s,Yf s)
noncomputable def treeOf (l:List Obj):Nat → Nat → Nat → BT
 | 0,_,_=>.nil
 | n + 1,a,b=>match l[b]? with
  | some o=>.node o (treeOf l n (2 * a) (a + b)) (treeOf l n (2 * a) (2 * a + b))
  | none=>.nil
theorem treeOf_get (l:List Obj):∀ (n a b i:Nat),i + 1 < 2 ^ n → (treeOf l n a b).get i = l[a * i + b]?
 | 0,a,b,i,h=>by simp at h
 | n + 1,a,b,i,h=>by
  unfold treeOf
  cases hb:l[b]? with
  | none=>
   have h1:l.length ≤ b:=List.getElem?_eq_none_iff.mp hb
   show none = _
   exact (List.getElem?_eq_none_iff.mpr (Nat.le_trans h1 (Nat.le_add_left b _))).symm
  | some o=>
   show (BT.node o _ _).get i = _
   rw [BT.get_node]
   have hp:2 ^ (n + 1) = 2 * 2 ^ n:=by rw [Nat.pow_succ,Nat.mul_comm]
   rw [hp] at h
   by_cases h0:i = 0
   ·rw [if_pos h0,h0,Nat.mul_zero,Nat.zero_add,hb]
   ·rw [if_neg h0]
    have hd:=Nat.div_add_mod i 2
    by_cases h1:i % 2 = 1
    ·rw [if_pos h1]
     rw [h1] at hd
     generalize i / 2 = j at hd
     subst hd
     rw [treeOf_get l n _ _ _ (Nat.lt_of_mul_lt_mul_left (a:=2) h),Nat.mul_add,Nat.mul_one,← Nat.mul_assoc,Nat.mul_comm a 2,Nat.add_assoc]
    ·rw [if_neg h1]
     rw [(Nat.mod_two_eq_zero_or_one i).resolve_right h1,Nat.add_zero] at hd
     generalize i / 2 = j at hd
     subst hd
     cases j with
     | zero=>exact absurd rfl h0
     | succ j=>
      rw [Nat.add_sub_cancel,treeOf_get l n _ _ _ (Nat.lt_of_mul_lt_mul_left (a:=2) (Nat.lt_of_succ_lt h)),Nat.mul_succ 2 j,Nat.mul_add,← Nat.mul_assoc,Nat.mul_comm a 2,Nat.add_assoc]
noncomputable def toT (s:Shared):SharedT:=⟨treeOf s.heap.objs.toList 12 1 0,s.heap.objs.size,s.heap.life,s.gens,s.drawn,s.toks,s.os⟩
theorem toT_abs {s:Shared} (h:s.heap.objs.size ≤ 4000):(toT s).abs = s:=by
 obtain ⟨⟨objs,life⟩,gens,drawn,toks,os⟩:=s
 have h:objs.size ≤ 4000:=h
 show (⟨absHeap (treeOf objs.toList 12 1 0) objs.size life,gens,drawn,toks,os⟩:Shared) = _
 congr 1
 unfold absHeap
 congr 1
 refine Array.toList_inj.mp (List.ext_getElem? fun i=>?_)
 show ((List.range objs.size).map _)[i]? = _
 rw [List.getElem?_map]
 by_cases hi:i < objs.size
 ·rw [List.getElem?_range hi]
  show some ((BT.get (treeOf objs.toList 12 1 0) i).getD default) = _
  rw [treeOf_get _ 12 1 0 i (by lia),Nat.one_mul,Nat.add_zero,List.getElem?_eq_getElem (by simpa using hi)];rfl
 ·rw [List.getElem?_eq_none (by simpa using hi),List.getElem?_eq_none (by simpa using hi)];rfl
theorem left_once {p q:Program} {loose:List PySem.Str} {Xt:Shared → Bool} {α:Type} {Yf:Shared → α} {Ya:World → α} {N:Nat} {g0:Bool} {m0 n:Nat} {ann:Option Value}
  (open_:∀ w:World,(fencedOpening treeTable p w N).map (fun s=>(s.heap.isNs mainGlobals && s.gens.size == 0,s.heap.objs.size,s.heap.nsMap mainGlobals "__annotations__")) = some (true,m0,ann)) (hm:m0 ≤ 4000) (le:Nat.ble n N = true)
  (run:∀ w:World,(fencedOpening treeTable p w N).bind (fun s₀=>(segRunT treeTable p w m0 ann 0 n (toT s₀) (topStub p)).map (fun r=>lookAt p q loose Xt Yf g0 s₀.heap r.2.1.abs)) = some (true,openGood q loose,Ya w)):LeftO p q loose Xt Yf Ya N g0:=fun w=>by
 obtain ⟨s₀,e,e'⟩:=Option.map_eq_some_iff.mp (open_ w)
 obtain ⟨z1,z2⟩:=Prod.mk.inj e'
 obtain ⟨z2,z3⟩:=Prod.mk.inj z2
 have rw_:=run w
 rw [e] at rw_
 obtain ⟨⟨f,s',c,ps⟩,r1,r2⟩:=Option.map_eq_some_iff.mp rw_
 have r:=segRun_top (segRun_of r1)
 rw [toT_abs (by rw [z2];exact hm)] at r
 have r:=topRun_mono (N - n) _ _ _ _ r
 rw [Nat.add_sub_cancel' (Nat.le_of_ble_eq_true le)] at r
 obtain ⟨l1,l2⟩:=Prod.mk.inj r2
 obtain ⟨l2,l3⟩:=Prod.mk.inj l2
 have t:topFrom treeTable p w N s₀ = some s'.abs:=by
  unfold topFrom
  rw [z1,z2,z3,r]
  show (match staticsOk (importedModules p.main.body) s₀.heap s'.abs.heap && namesBound p s'.abs.heap && gensDone s'.abs && laidKept s₀.heap s'.abs.heap with | true=>_ | false=>_) = _
  rw [l1]
 unfold openEnds
 rw [e]
 show (topFrom treeTable p w N _).map _ = _
 rw [t]
 exact congrArg some (Prod.ext l2 l3)
end Lw
end
section
open PySem PySem.Calls PySem.W PySem.W.X PyProof.Rows
namespace Lw
noncomputable def obsT (as:List Addr) (s:SharedT):List (Option Obj) × Nat × Nat:=(as.map (fun a=>match Nat.blt a s.n with | true=>(match (s.tree.get a).getD default with | ⟨_,_,.freed,_⟩=>none | o=>some o) | false=>none),s.n,s.toks)
theorem obs_abs (as:List Addr) (s:SharedT):obsZ as s.abs = obsT as s:=by
 obtain ⟨t,n,life,gens,drawn,toks,os⟩:=s
 show ((as.map (absHeap t n life).get?),(absHeap t n life).objs.size,toks) = (as.map _,n,toks)
 congr 1
 ·refine List.map_congr_left fun a _=>?_
  have e:=absHeap_at t n life a
  show (absHeap t n life).get? a = _
  unfold Heap.get?
  by_cases h:a < n
  ·rw [if_pos h] at e
   have:Nat.blt a n = true:=Nat.ble_eq_true_of_le h
   dsimp only
   rw [e,this]
   dsimp only
   generalize (t.get a).getD default = o
   obtain ⟨c,d,dt,sl⟩:=o
   cases dt <;> rfl
  ·rw [if_neg h] at e
   have:Nat.blt a n = false:=by cases e:Nat.blt a n with
    | false=>rfl
    | true=>exact absurd (Nat.le_of_ble_eq_true e) h
   dsimp only
   rw [e,this]
 ·congr 1
  show ((t.list n).toArray).size = n
  unfold BT.list
  simp
noncomputable def lookT (p q:Program) (loose:List PySem.Str) (as:List Addr) (g0:Bool) (h0:Heap) (s:SharedT):=
 ((staticsOk (importedModules p.main.body) h0 s.abs.heap && namesBound p s.abs.heap && gensDone s.abs && laidKept h0 s.abs.heap),openSeen q loose (importedModules p.main.body) (fun _=>true) g0 s.abs,obsT as s)
theorem left_here {p q:Program} {loose:List PySem.Str} {as:List Addr} {Ya:World → List (Option Obj) × Nat × Nat} {N:Nat} {m0 n:Nat} {ann:Option Value}
  (open_:∀ w:World,(fencedOpening treeTable p w N).map (fun s=>(s.heap.isNs mainGlobals && s.gens.size == 0,s.heap.objs.size,s.heap.nsMap mainGlobals "__annotations__")) = some (true,m0,ann)) (hm:m0 ≤ 4000) (le:Nat.ble n N = true)
  (run:∀ w:World,(fencedOpening treeTable p w N).bind (fun s₀=>(segRunT treeTable p w m0 ann 0 n (toT s₀) (topStub p)).map (fun r=>lookT p q loose as true s₀.heap r.2.1)) = some (true,openGood q loose,Ya w)):LeftO p q loose (fun _=>true) (obsZ as) Ya N:=
 left_once (g0:=true) open_ hm le fun w=>by
  have:=run w
  unfold lookT at this
  simp only [← obs_abs] at this
  exact this
end Lw
end
section
open PySem PySem.Calls PySem.W PyProof.Rows
set_option maxRecDepth 100000
namespace Lw
open PySem.Challenge (pw_kt0098_01)
noncomputable def kEn (P:Params) (s:PySem.Str) (t:Nat) (v:Value):DictEntry:=⟨PyData.keyHash P s,.str s t,v⟩
noncomputable def kO0 (P:Params):Obj:={ cls:=(.type "dict"),data:=.dict #[kEn P (.ofString "__name__") 1 (.str (.ofString "builtins") 160),kEn P (.ofString "__doc__") 2 (.builtin "builtins.__doc__:str#opaque"),kEn P (.ofString "__package__") 3 (.builtin "builtins.__package__:str#opaque"),kEn P (.ofString "__loader__") 4 (.builtin "builtins.__loader__:shared#opaque"),kEn P (.ofString "__spec__") 5 (.builtin "builtins.__spec__#opaque"),kEn P (.ofString "__build_class__") 6 (.builtin "__build_class__"),kEn P (.ofString "__import__") 7 (.builtin "__import__"),kEn P (.ofString "abs") 8 (.builtin "abs"),kEn P (.ofString "all") 9 (.builtin "all"),kEn P (.ofString "any") 10 (.builtin "any"),kEn P (.ofString "ascii") 11 (.builtin "ascii"),kEn P (.ofString "bin") 12 (.builtin "bin"),kEn P (.ofString "breakpoint") 13 (.builtin "breakpoint"),kEn P (.ofString "callable") 14 (.builtin "callable"),kEn P (.ofString "chr") 15 (.builtin "chr"),kEn P (.ofString "compile") 16 (.builtin "compile"),kEn P (.ofString "delattr") 17 (.builtin "delattr"),kEn P (.ofString "dir") 18 (.builtin "dir"),kEn P (.ofString "divmod") 19 (.builtin "divmod"),kEn P (.ofString "eval") 20 (.builtin "eval"),kEn P (.ofString "exec") 21 (.builtin "exec"),kEn P (.ofString "format") 22 (.builtin "format"),kEn P (.ofString "getattr") 23 (.builtin "getattr"),kEn P (.ofString "globals") 24 (.builtin "globals"),kEn P (.ofString "hasattr") 25 (.builtin "hasattr"),kEn P (.ofString "hash") 26 (.builtin "hash"),kEn P (.ofString "hex") 27 (.builtin "hex"),kEn P (.ofString "id") 28 (.builtin "id"),kEn P (.ofString "input") 29 (.builtin "input"),kEn P (.ofString "isinstance") 30 (.builtin "isinstance"),kEn P (.ofString "issubclass") 31 (.builtin "issubclass"),kEn P (.ofString "iter") 32 (.builtin "iter"),kEn P (.ofString "aiter") 33 (.builtin "aiter"),kEn P (.ofString "len") 34 (.builtin "len"),kEn P (.ofString "locals") 35 (.builtin "locals"),kEn P (.ofString "max") 36 (.builtin "max"),kEn P (.ofString "min") 37 (.builtin "min"),kEn P (.ofString "next") 38 (.builtin "next"),kEn P (.ofString "anext") 39 (.builtin "anext"),kEn P (.ofString "oct") 40 (.builtin "oct"),kEn P (.ofString "ord") 41 (.builtin "ord"),kEn P (.ofString "pow") 42 (.builtin "pow"),kEn P (.ofString "print") 43 (.builtin "print"),kEn P (.ofString "repr") 44 (.builtin "repr"),kEn P (.ofString "round") 45 (.builtin "round"),kEn P (.ofString "setattr") 46 (.builtin "setattr"),kEn P (.ofString "sorted") 47 (.builtin "sorted"),kEn P (.ofString "sum") 48 (.builtin "sum"),kEn P (.ofString "vars") 49 (.builtin "vars"),kEn P (.ofString "None") 50 .none,kEn P (.ofString "Ellipsis") 51 .ellipsis,kEn P (.ofString "NotImplemented") 52 .notImplemented,kEn P (.ofString "False") 53 (.bool false),kEn P (.ofString "True") 54 (.bool true),kEn P (.ofString "bool") 55 (.type "bool"),kEn P (.ofString "memoryview") 56 (.type "memoryview"),kEn P (.ofString "bytearray") 57 (.type "bytearray"),kEn P (.ofString "bytes") 58 (.type "bytes"),kEn P (.ofString "classmethod") 59 (.type "classmethod"),kEn P (.ofString "complex") 60 (.type "complex"),kEn P (.ofString "dict") 61 (.type "dict"),kEn P (.ofString "enumerate") 62 (.type "enumerate"),kEn P (.ofString "filter") 63 (.type "filter"),kEn P (.ofString "float") 64 (.type "float"),kEn P (.ofString "frozenset") 65 (.type "frozenset"),kEn P (.ofString "property") 66 (.type "property"),kEn P (.ofString "int") 67 (.type "int"),kEn P (.ofString "list") 68 (.type "list"),kEn P (.ofString "map") 69 (.type "map"),kEn P (.ofString "object") 70 (.type "object"),kEn P (.ofString "range") 71 (.type "range"),kEn P (.ofString "reversed") 72 (.type "reversed"),kEn P (.ofString "set") 73 (.type "set"),kEn P (.ofString "slice") 74 (.type "slice"),kEn P (.ofString "staticmethod") 75 (.type "staticmethod"),kEn P (.ofString "str") 76 (.type "str"),kEn P (.ofString "super") 77 (.type "super"),kEn P (.ofString "tuple") 78 (.type "tuple"),kEn P (.ofString "type") 79 (.type "type"),kEn P (.ofString "zip") 80 (.type "zip"),kEn P (.ofString "__debug__") 81 (.bool true),kEn P (.ofString "BaseException") 82 (.type "BaseException"),kEn P (.ofString "BaseExceptionGroup") 83 (.type "BaseExceptionGroup"),kEn P (.ofString "Exception") 84 (.type "Exception"),kEn P (.ofString "GeneratorExit") 85 (.type "GeneratorExit"),kEn P (.ofString "KeyboardInterrupt") 86 (.type "KeyboardInterrupt"),kEn P (.ofString "SystemExit") 87 (.type "SystemExit"),kEn P (.ofString "ArithmeticError") 88 (.type "ArithmeticError"),kEn P (.ofString "AssertionError") 89 (.type "AssertionError"),kEn P (.ofString "AttributeError") 90 (.type "AttributeError"),kEn P (.ofString "BufferError") 91 (.type "BufferError"),kEn P (.ofString "EOFError") 92 (.type "EOFError"),kEn P (.ofString "ImportError") 93 (.type "ImportError"),kEn P (.ofString "LookupError") 94 (.type "LookupError"),kEn P (.ofString "MemoryError") 95 (.type "MemoryError"),kEn P (.ofString "NameError") 96 (.type "NameError"),kEn P (.ofString "OSError") 97 (.type "OSError"),kEn P (.ofString "ReferenceError") 98 (.type "ReferenceError"),kEn P (.ofString "RuntimeError") 99 (.type "RuntimeError"),kEn P (.ofString "StopAsyncIteration") 100 (.type "StopAsyncIteration"),kEn P (.ofString "StopIteration") 101 (.type "StopIteration"),kEn P (.ofString "SyntaxError") 102 (.type "SyntaxError"),kEn P (.ofString "SystemError") 103 (.type "SystemError"),kEn P (.ofString "TypeError") 104 (.type "TypeError"),kEn P (.ofString "ValueError") 105 (.type "ValueError"),kEn P (.ofString "Warning") 106 (.type "Warning"),kEn P (.ofString "FloatingPointError") 107 (.type "FloatingPointError"),kEn P (.ofString "OverflowError") 108 (.type "OverflowError"),kEn P (.ofString "ZeroDivisionError") 109 (.type "ZeroDivisionError"),kEn P (.ofString "BytesWarning") 110 (.type "BytesWarning"),kEn P (.ofString "DeprecationWarning") 111 (.type "DeprecationWarning"),kEn P (.ofString "EncodingWarning") 112 (.type "EncodingWarning"),kEn P (.ofString "FutureWarning") 113 (.type "FutureWarning"),kEn P (.ofString "ImportWarning") 114 (.type "ImportWarning"),kEn P (.ofString "PendingDeprecationWarning") 115 (.type "PendingDeprecationWarning"),kEn P (.ofString "ResourceWarning") 116 (.type "ResourceWarning"),kEn P (.ofString "RuntimeWarning") 117 (.type "RuntimeWarning"),kEn P (.ofString "SyntaxWarning") 118 (.type "SyntaxWarning"),kEn P (.ofString "UnicodeWarning") 119 (.type "UnicodeWarning"),kEn P (.ofString "UserWarning") 120 (.type "UserWarning"),kEn P (.ofString "BlockingIOError") 121 (.type "BlockingIOError"),kEn P (.ofString "ChildProcessError") 122 (.type "ChildProcessError"),kEn P (.ofString "ConnectionError") 123 (.type "ConnectionError"),kEn P (.ofString "FileExistsError") 124 (.type "FileExistsError"),kEn P (.ofString "FileNotFoundError") 125 (.type "FileNotFoundError"),kEn P (.ofString "InterruptedError") 126 (.type "InterruptedError"),kEn P (.ofString "IsADirectoryError") 127 (.type "IsADirectoryError"),kEn P (.ofString "NotADirectoryError") 128 (.type "NotADirectoryError"),kEn P (.ofString "PermissionError") 129 (.type "PermissionError"),kEn P (.ofString "ProcessLookupError") 130 (.type "ProcessLookupError"),kEn P (.ofString "TimeoutError") 131 (.type "TimeoutError"),kEn P (.ofString "IndentationError") 132 (.type "IndentationError"),kEn P (.ofString "_IncompleteInputError") 133 (.type "_IncompleteInputError"),kEn P (.ofString "IndexError") 134 (.type "IndexError"),kEn P (.ofString "KeyError") 135 (.type "KeyError"),kEn P (.ofString "ModuleNotFoundError") 136 (.type "ModuleNotFoundError"),kEn P (.ofString "NotImplementedError") 137 (.type "NotImplementedError"),kEn P (.ofString "PythonFinalizationError") 138 (.type "PythonFinalizationError"),kEn P (.ofString "RecursionError") 139 (.type "RecursionError"),kEn P (.ofString "UnboundLocalError") 140 (.type "UnboundLocalError"),kEn P (.ofString "UnicodeError") 141 (.type "UnicodeError"),kEn P (.ofString "BrokenPipeError") 142 (.type "BrokenPipeError"),kEn P (.ofString "ConnectionAbortedError") 143 (.type "ConnectionAbortedError"),kEn P (.ofString "ConnectionRefusedError") 144 (.type "ConnectionRefusedError"),kEn P (.ofString "ConnectionResetError") 145 (.type "ConnectionResetError"),kEn P (.ofString "TabError") 146 (.type "TabError"),kEn P (.ofString "UnicodeDecodeError") 147 (.type "UnicodeDecodeError"),kEn P (.ofString "UnicodeEncodeError") 148 (.type "UnicodeEncodeError"),kEn P (.ofString "UnicodeTranslateError") 149 (.type "UnicodeTranslateError"),kEn P (.ofString "ExceptionGroup") 150 (.type "ExceptionGroup"),kEn P (.ofString "EnvironmentError") 151 (.type "OSError"),kEn P (.ofString "IOError") 152 (.type "OSError"),kEn P (.ofString "open") 153 (.builtin "open"),kEn P (.ofString "quit") 154 (.builtin "builtins.quit#opaque"),kEn P (.ofString "exit") 155 (.builtin "builtins.exit#opaque"),kEn P (.ofString "copyright") 156 (.builtin "builtins.copyright#opaque"),kEn P (.ofString "credits") 157 (.builtin "builtins.credits#opaque"),kEn P (.ofString "license") 158 (.builtin "builtins.license#opaque"),kEn P (.ofString "help") 159 (.builtin "builtins.help#opaque")] 159 }
noncomputable def kO1 (P:Params):Obj:={ cls:=(.type "dict"),data:=.dict #[kEn P (.ofString "builtins") 162 (.ref 4),kEn P (.ofString "__main__") 163 (.ref 5),kEn P (.ofString "_sre") 244 (.ref 12),kEn P (.ofString "_collections") 292 (.ref 30)] 4 }
noncomputable def kO2 (P:Params):Obj:={ cls:=.none,data:=.dict #[kEn P (.ofString "\x69mport.loaded._sre") 183 (.bool true),kEn P (.ofString "class._frozen_importlib.BuiltinImporter") 185 (.ref 14),kEn P (.ofString "watched.\x69mport") 206 (.ref 18),kEn P (.ofString "class._frozen_importlib.ModuleSpec") 216 (.ref 22),kEn P (.ofString "sys.modules.booked-epoch") 245 (.int 4 0),kEn P (.ofString "\x69mport.later-laid._sre") 270 (.bool true),kEn P (.ofString "watched.library") 272 (.ref 27),kEn P (.ofString "watched.library-objects") 0 (.str (mkS [12,30]) 0),kEn P (.ofString "watched.library-deep._sre") 273 (.str (mkS [4,0,0,11,4,0,0,11,4,0,0,3,4,0,0,11,8,4,100,105,99,116,2]) 0),kEn P (.ofString "\x69mport.loaded._collections") 280 (.bool true),kEn P (.ofString "sys.modules.landed._collections") 294 (.bool true),kEn P (.ofString "\x69mport.later-laid._collections") 309 (.bool true),kEn P (.ofString "watched.library-deep._collections") 311 (.str (mkS [4,0,0,29,4,0,0,29,4,0,0,3,4,0,0,29,8,4,100,105,99,116,2]) 0),kEn P (.ofString "type.__subclasses__.OSError.0") 645 (.int 111 0),kEn P (.ofString "type.__subclasses__.OSError.n") 646 (.int 1 0)] 15 }
noncomputable def kO3 (P:Params):Obj:={ cls:=(.type "dict"),data:=.dict #[kEn P (.ofString "__name__") 165 (.str (.ofString "law_kt0098_01") 1711),kEn P (.ofString "__doc__") 166 .none,kEn P (.ofString "__package__") 167 .none,kEn P (.ofString "__loader__") 168 (.builtin "__main__.__loader__#opaque"),kEn P (.ofString "__spec__") 169 .none,kEn P (.ofString "__annotations__") 170 (.ref 6),kEn P (.ofString "__builtins__") 171 (.ref 4),kEn P (.ofString "__file__") 173 (.str (.ofString "/claim/cut.py") 172),kEn P (.ofString "__cached__") 174 .none,kEn P (.ofString "_sre") 275 (.ref 12),kEn P (.ofString "deque") 317 (.type "collections.deque"),kEn P (.ofString "_wall") 330 (.ref 44),kEn P (.ofString "twin_re_1_fnmatch") 370 (.ref 49),kEn P (.ofString "translate") 379 (.ref 56),kEn P (.ofString "_special_chars_map") 527 (.ref 58),kEn P (.ofString "escape") 534 (.ref 68),kEn P (.ofString "_translate") 555 (.ref 75),kEn P (.ofString "_join_translated_parts") 568 (.ref 82),kEn P (.ofString "twin_re_1_shlex") 608 (.ref 87),kEn P (.ofString "_whence") 618 (.ref 94),kEn P (.ofString "_index") 626 (.ref 101),kEn P (.ofString "UnsupportedOperation") 648 (.ref 111),kEn P (.ofString "IOBase") 680 (.ref 131),kEn P (.ofString "BufferedIOBase") 698 (.ref 146),kEn P (.ofString "TextIOBase") 716 (.ref 158),kEn P (.ofString "BytesIO") 978 (.ref 388),kEn P (.ofString "StringIO") 1265 (.ref 635),kEn P (.ofString "_kind") 1276 (.ref 644),kEn P (.ofString "_fspath") 1285 (.ref 651),kEn P (.ofString "_check_arg_types") 1295 (.ref 658),kEn P (.ofString "isabs") 1302 (.ref 665),kEn P (.ofString "join") 1313 (.ref 789),kEn P (.ofString "join_path") 1314 (.ref 672),kEn P (.ofString "dirname") 1324 (.ref 679),kEn P (.ofString "shlex") 1465 (.ref 770),kEn P (.ofString "split") 1475 (.ref 782),kEn P (.ofString "join_shlex") 1483 (.ref 789),kEn P (.ofString "_find_unsafe") 1485 (.ref 790),kEn P (.ofString "quote") 1492 (.ref 797),kEn P (.ofString "_name_disallowed_re") 1520 (.ref 802),kEn P (.ofString "_value_disallowed_re") 1554 (.ref 807),kEn P (.ofString "Headers") 1710 (.ref 930),kEn P (.ofString "_law_draws") 1718 (.ref 939),kEn P (.ofString "_law_heard") 1724 (.ref 944),kEn P (.ofString "_law_past") 1730 (.ref 949),kEn P (.ofString "_law_send") 1736 (.ref 954),kEn P (.ofString "_law_mails") 1742 (.ref 959),kEn P (.ofString "_law_plain") 1752 (.ref 966),kEn P (.ofString "_law_test") 1758 (.ref 971),kEn P (.ofString "_law_takes") 1764 (.ref 976),kEn P (.ofString "_law_rounds") 1770 (.ref 981),kEn P (.ofString "_law_order") 1779 (.ref 988),kEn P (.ofString "law") 1785 (.ref 993)] 53 }
noncomputable def kO4 (P:Params):Obj:={ cls:=(.type "module"),dict:=some 0 }
noncomputable def kO6 (P:Params):Obj:={ cls:=(.type "dict"),data:=.dict #[] }
noncomputable def kO55 (P:Params):Obj:={ cls:=(.type "code"),data:=.fields #[(.str (.ofString "translate") 371),(.str (.ofString "translate") 372),(.str (.ofString "/claim/cut.py") 373),(.int 8 0),(.int 1 0),(.int 0 0),(.int 0 0),(.int 3 0),(.ref 50),(.bool true),(.int 318 0),(.ref 51),.none,(.ref 52),(.ref 53),(.ref 54),(.int 377 0),(.int 8 0),(.str (.ofString "/claim/cut.py") 378)] }
noncomputable def kO56 (P:Params):Obj:={ cls:=(.type "function"),data:=.func (mkFd (topFn pw_kt0098_01 5) (.ofString "translate") .none .none .none (.str (.ofString "cpy313.fnmatch") 331) (.ref 55)) }
noncomputable def kO58 (P:Params):Obj:={ cls:=(.type "dict"),data:=.dict #[⟨40,(.int 40 383),(.str (mkS [92,40]) 387)⟩,⟨41,(.int 41 389),(.str (mkS [92,41]) 393)⟩,⟨91,(.int 91 395),(.str (mkS [92,91]) 399)⟩,⟨93,(.int 93 401),(.str (mkS [92,93]) 405)⟩,⟨123,(.int 123 407),(.str (mkS [92,123]) 411)⟩,⟨125,(.int 125 413),(.str (mkS [92,125]) 417)⟩,⟨63,(.int 63 419),(.str (mkS [92,63]) 423)⟩,⟨42,(.int 42 425),(.str (mkS [92,42]) 429)⟩,⟨43,(.int 43 431),(.str (mkS [92,43]) 435)⟩,⟨45,(.int 45 437),(.str (mkS [92,45]) 441)⟩,⟨124,(.int 124 443),(.str (mkS [92,124]) 447)⟩,⟨94,(.int 94 449),(.str (mkS [92,94]) 453)⟩,⟨36,(.int 36 455),(.str (mkS [92,36]) 459)⟩,⟨92,(.int 92 461),(.str (mkS [92,92]) 465)⟩,⟨46,(.int 46 467),(.str (mkS [92,46]) 471)⟩,⟨38,(.int 38 473),(.str (mkS [92,38]) 477)⟩,⟨126,(.int 126 479),(.str (mkS [92,126]) 483)⟩,⟨35,(.int 35 485),(.str (mkS [92,35]) 489)⟩,⟨32,(.int 32 491),(.str (mkS [92,32]) 495)⟩,⟨9,(.int 9 497),(.str (mkS [92,9]) 501)⟩,⟨10,(.int 10 503),(.str (mkS [92,10]) 507)⟩,⟨13,(.int 13 509),(.str (mkS [92,13]) 513)⟩,⟨11,(.int 11 515),(.str (mkS [92,11]) 519)⟩,⟨12,(.int 12 521),(.str (mkS [92,12]) 525)⟩] 24 }
noncomputable def kO67 (P:Params):Obj:={ cls:=(.type "code"),data:=.fields #[(.str (.ofString "escape") 528),(.str (.ofString "escape") 529),(.str (.ofString "/claim/cut.py") 530),(.int 14 0),(.int 1 0),(.int 0 0),(.int 0 0),(.int 3 0),(.ref 62),(.bool true),(.int 318 0),(.ref 63),.none,(.ref 64),(.ref 65),(.ref 66),(.int 532 0),(.int 14 0),(.str (.ofString "/claim/cut.py") 533)] }
noncomputable def kO68 (P:Params):Obj:={ cls:=(.type "function"),data:=.func (mkFd (topFn pw_kt0098_01 8) (.ofString "escape") .none .none .none (.str (.ofString "re") 380) (.ref 67)) }
noncomputable def kO74 (P:Params):Obj:={ cls:=(.type "code"),data:=.fields #[(.str (.ofString "_translate") 537),(.str (.ofString "_translate") 538),(.str (.ofString "/claim/cut.py") 539),(.int 21 0),(.int 3 0),(.int 0 0),(.int 0 0),(.int 3 0),(.ref 69),(.bool true),(.int 318 0),(.ref 70),.none,(.ref 71),(.ref 72),(.ref 73),(.int 553 0),(.int 21 0),(.str (.ofString "/claim/cut.py") 554)] }
noncomputable def kO75 (P:Params):Obj:={ cls:=(.type "function"),data:=.func (mkFd (topFn pw_kt0098_01 10) (.ofString "_translate") .none .none .none (.str (.ofString "cpy313.fnmatch") 535) (.ref 74)) }
noncomputable def kO81 (P:Params):Obj:={ cls:=(.type "code"),data:=.fields #[(.str (.ofString "_join_translated_parts") 556),(.str (.ofString "_join_translated_parts") 557),(.str (.ofString "/claim/cut.py") 558),(.int 83 0),(.int 2 0),(.int 0 0),(.int 0 0),(.int 3 0),(.ref 76),(.bool true),(.int 318 0),(.ref 77),.none,(.ref 78),(.ref 79),(.ref 80),(.int 566 0),(.int 83 0),(.str (.ofString "/claim/cut.py") 567)] }
noncomputable def kO82 (P:Params):Obj:={ cls:=(.type "function"),data:=.func (mkFd (topFn pw_kt0098_01 11) (.ofString "_join_translated_parts") .none .none .none (.str (.ofString "cpy313.fnmatch") 535) (.ref 81)) }
noncomputable def kO86 (P:Params):Obj:={ cls:=(.type "tuple"),data:=.seq #[(.int 14 0),(.int 17 0),(.int 4 0),(.int 1 0),(.int 1 0),(.int 21 0),(.int 9 0),(.int 0 0),(.int 604043296 0),(.int 1 0),(.int 0 0),(.int 0 0),(.int 0 0),(.int 0 0),(.int 0 0),(.int 8 0),(.int 4 0),(.int 0 0),(.int 13 0),(.int 14 0),(.int 21 0),(.int 9 0),(.int 0 0),(.int 604043296 0),(.int 1 0),(.int 0 0),(.int 0 0),(.int 0 0),(.int 0 0),(.int 0 0),(.int 8 0),(.int 4 0),(.int 0 0),(.int 1 0)] }
noncomputable def kO87 (P:Params):Obj:={ cls:=(.type "re.Pattern"),data:=.fields #[(.str (mkS [91,94,92,119,64,37,43,61,58,44,46,47,45,93]) 570),(.int 256 607),(.int 0 0),.none,.none,(.ref 86),(.int 0 0)] }
noncomputable def kO100 (P:Params):Obj:={ cls:=(.type "code"),data:=.fields #[(.str (.ofString "_index") 619),(.str (.ofString "_index") 620),(.str (.ofString "/claim/cut.py") 621),(.int 117 0),(.int 2 0),(.int 0 0),(.int 0 0),(.int 3 0),(.ref 95),(.bool true),(.int 318 0),(.ref 96),.none,(.ref 97),(.ref 98),(.ref 99),(.int 624 0),(.int 117 0),(.str (.ofString "/claim/cut.py") 625)] }
noncomputable def kO101 (P:Params):Obj:={ cls:=(.type "function"),data:=.func (mkFd (topFn pw_kt0098_01 15) (.ofString "_index") .none .none .none (.str (.ofString "io") 609) (.ref 100)) }
noncomputable def kO127 (P:Params):Obj:={ cls:=(.type "code"),data:=.fields #[(.str (.ofString "__new__") 663),(.str (.ofString "IOBase.__new__") 664),(.str (.ofString "/claim/cut.py") 665),(.int 129 0),(.int 1 0),(.int 1 0),(.int 0 0),(.int 15 0),(.ref 122),(.bool true),(.int 318 0),(.ref 123),.none,(.ref 124),(.ref 125),(.ref 126),(.int 669 0),(.int 129 0),(.str (.ofString "/claim/cut.py") 670)] }
noncomputable def kO128 (P:Params):Obj:={ cls:=(.type "function"),data:=.func (mkFd (clsFn pw_kt0098_01 17 1) (.ofString "IOBase.__new__") .none .none .none (.str (.ofString "io") 609) (.ref 127)) }
noncomputable def kO130 (P:Params):Obj:={ cls:=(.type "dict"),data:=.dict #[kEn P (.ofString "__module__") 656 (.str (.ofString "io") 661),kEn P (.ofString "__firstlineno__") 660 (.int 126 659),kEn P (.ofString "__new__") 671 (.ref 132),kEn P (.ofString "__static_attributes__") 672 (.ref 129),kEn P (.ofString "__dict__") 675 (.ref 133),kEn P (.ofString "__weakref__") 677 (.ref 134),kEn P (.ofString "__doc__") 678 .none] 4 }
noncomputable def kO131 (P:Params):Obj:={ cls:=(.type "type"),data:=.cls { name:=(.ofString "IOBase"),bases:=[(.type "object")],mro:=[(.ref 131),(.type "object")],ns:=130,qualname:=(.ofString "IOBase"),subclasses:=[(.ref 146),(.ref 158)] },slots:=#[none,none,(some (.str (.ofString "IOBase") 649)),(some (.str (.ofString "IOBase") 657)),(some .none),(some (.bool true))] }
noncomputable def kO132 (P:Params):Obj:={ cls:=(.type "staticmethod"),data:=.fields #[(.ref 128)] }
noncomputable def kO145 (P:Params):Obj:={ cls:=(.type "dict"),data:=.dict #[kEn P (.ofString "__module__") 688 (.str (.ofString "io") 693),kEn P (.ofString "__firstlineno__") 692 (.int 133 691),kEn P (.ofString "__static_attributes__") 695 (.ref 144),kEn P (.ofString "__doc__") 696 .none] 2 }
noncomputable def kO146 (P:Params):Obj:={ cls:=(.type "type"),data:=.cls { name:=(.ofString "BufferedIOBase"),bases:=[(.ref 131)],mro:=[(.ref 146),(.ref 131),(.type "object")],ns:=145,qualname:=(.ofString "BufferedIOBase"),subclasses:=[(.ref 388)] },slots:=#[(some (.ref 137)),none,(some (.str (.ofString "BufferedIOBase") 681)),(some (.str (.ofString "BufferedIOBase") 689)),(some .none),(some (.bool true))] }
noncomputable def kO157 (P:Params):Obj:={ cls:=(.type "dict"),data:=.dict #[kEn P (.ofString "__module__") 706 (.str (.ofString "io") 711),kEn P (.ofString "__firstlineno__") 710 (.int 135 709),kEn P (.ofString "__static_attributes__") 713 (.ref 156),kEn P (.ofString "__doc__") 714 .none] 2 }
noncomputable def kO158 (P:Params):Obj:={ cls:=(.type "type"),data:=.cls { name:=(.ofString "TextIOBase"),bases:=[(.ref 131)],mro:=[(.ref 158),(.ref 131),(.type "object")],ns:=157,qualname:=(.ofString "TextIOBase"),subclasses:=[(.ref 635)] },slots:=#[(some (.ref 149)),none,(some (.str (.ofString "TextIOBase") 699)),(some (.str (.ofString "TextIOBase") 707)),(some .none),(some (.bool true))] }
noncomputable def kO387 (P:Params):Obj:={ cls:=(.type "dict"),data:=.dict #[kEn P (.ofString "__module__") 724 (.str (.ofString "_io") 729),kEn P (.ofString "__firstlineno__") 728 (.int 137 727),kEn P (.ofString "__init__") 738 (.ref 175),kEn P (.ofString "_BytesIO__check") 745 (.ref 182),kEn P (.ofString "_BytesIO__line") 756 (.ref 189),kEn P (.ofString "closed") 764 (.ref 197),kEn P (.ofString "close") 771 (.ref 204),kEn P (.ofString "__enter__") 778 (.ref 211),kEn P (.ofString "__exit__") 786 (.ref 218),kEn P (.ofString "readable") 793 (.ref 225),kEn P (.ofString "writable") 800 (.ref 232),kEn P (.ofString "seekable") 807 (.ref 239),kEn P (.ofString "isatty") 814 (.ref 246),kEn P (.ofString "flush") 821 (.ref 253),kEn P (.ofString "fileno") 828 (.ref 260),kEn P (.ofString "detach") 835 (.ref 267),kEn P (.ofString "getvalue") 842 (.ref 274),kEn P (.ofString "getbuffer") 849 (.ref 281),kEn P (.ofString "tell") 856 (.ref 288),kEn P (.ofString "seek") 866 (.ref 296),kEn P (.ofString "truncate") 874 (.ref 304),kEn P (.ofString "read") 886 (.ref 312),kEn P (.ofString "read1") 896 (.ref 320),kEn P (.ofString "readinto") 906 (.ref 327),kEn P (.ofString "readinto1") 914 (.ref 334),kEn P (.ofString "readline") 924 (.ref 342),kEn P (.ofString "readlines") 932 (.ref 350),kEn P (.ofString "__iter__") 939 (.ref 357),kEn P (.ofString "__next__") 947 (.ref 364),kEn P (.ofString "write") 957 (.ref 371),kEn P (.ofString "writelines") 965 (.ref 378),kEn P (.ofString "__repr__") 972 (.ref 385),kEn P (.ofString "__static_attributes__") 975 (.ref 386),kEn P (.ofString "__doc__") 976 .none] 2 }
noncomputable def kO388 (P:Params):Obj:={ cls:=(.type "type"),data:=.cls { name:=(.ofString "BytesIO"),bases:=[(.ref 146)],mro:=[(.ref 388),(.ref 146),(.ref 131),(.type "object")],ns:=387,qualname:=(.ofString "BytesIO") },slots:=#[(some (.ref 161)),none,(some (.str (.ofString "BytesIO") 717)),(some (.str (.ofString "BytesIO") 725)),(some .none),(some (.bool true))] }
noncomputable def kO398 (P:Params):Obj:={ cls:=(.type "tuple"),data:=.seq #[(.str (.ofString "") 993),(.str (mkS [10]) 994)] }
noncomputable def kO404 (P:Params):Obj:={ cls:=(.type "code"),data:=.fields #[(.str (.ofString "__init__") 995),(.str (.ofString "StringIO.__init__") 996),(.str (.ofString "/claim/cut.py") 997),(.int 310 0),(.int 3 0),(.int 0 0),(.int 0 0),(.int 3 0),(.ref 399),(.bool true),(.int 318 0),(.ref 400),.none,(.ref 401),(.ref 402),(.ref 403),(.int 1001 0),(.int 310 0),(.str (.ofString "/claim/cut.py") 1002)] }
noncomputable def kO405 (P:Params):Obj:={ cls:=(.type "function"),data:=.func (mkFd (clsFn pw_kt0098_01 21 1) (.ofString "StringIO.__init__") (.ref 398) .none .none (.str (.ofString "io") 609) (.ref 404)) }
noncomputable def kO411 (P:Params):Obj:={ cls:=(.type "code"),data:=.fields #[(.str (.ofString "__translated") 1004),(.str (.ofString "StringIO.__translated") 1005),(.str (.ofString "/claim/cut.py") 1006),(.int 323 0),(.int 2 0),(.int 0 0),(.int 0 0),(.int 3 0),(.ref 406),(.bool true),(.int 318 0),(.ref 407),.none,(.ref 408),(.ref 409),(.ref 410),(.int 1010 0),(.int 323 0),(.str (.ofString "/claim/cut.py") 1011)] }
noncomputable def kO412 (P:Params):Obj:={ cls:=(.type "function"),data:=.func (mkFd (clsFn pw_kt0098_01 21 2) (.ofString "StringIO.__translated") .none .none .none (.str (.ofString "io") 609) (.ref 411)) }
noncomputable def kO418 (P:Params):Obj:={ cls:=(.type "code"),data:=.fields #[(.str (.ofString "__check") 1013),(.str (.ofString "StringIO.__check") 1014),(.str (.ofString "/claim/cut.py") 1015),(.int 331 0),(.int 1 0),(.int 0 0),(.int 0 0),(.int 3 0),(.ref 413),(.bool true),(.int 318 0),(.ref 414),.none,(.ref 415),(.ref 416),(.ref 417),(.int 1017 0),(.int 331 0),(.str (.ofString "/claim/cut.py") 1018)] }
noncomputable def kO419 (P:Params):Obj:={ cls:=(.type "function"),data:=.func (mkFd (clsFn pw_kt0098_01 21 3) (.ofString "StringIO.__check") .none .none .none (.str (.ofString "io") 609) (.ref 418)) }
noncomputable def kO574 (P:Params):Obj:={ cls:=(.type "tuple"),data:=.seq #[(.int (-1) 1186)] }
noncomputable def kO580 (P:Params):Obj:={ cls:=(.type "code"),data:=.fields #[(.str (.ofString "read") 1187),(.str (.ofString "StringIO.read") 1188),(.str (.ofString "/claim/cut.py") 1189),(.int 453 0),(.int 2 0),(.int 2 0),(.int 0 0),(.int 3 0),(.ref 575),(.bool true),(.int 318 0),(.ref 576),.none,(.ref 577),(.ref 578),(.ref 579),(.int 1194 0),(.int 453 0),(.str (.ofString "/claim/cut.py") 1195)] }
noncomputable def kO581 (P:Params):Obj:={ cls:=(.type "function"),data:=.func (mkFd (clsFn pw_kt0098_01 21 25) (.ofString "StringIO.read") (.ref 574) .none .none (.str (.ofString "io") 609) (.ref 580)) }
noncomputable def kO634 (P:Params):Obj:={ cls:=(.type "dict"),data:=.dict #[kEn P (.ofString "__module__") 986 (.str (.ofString "_io") 991),kEn P (.ofString "__firstlineno__") 990 (.int 307 989),kEn P (.ofString "__init__") 1003 (.ref 405),kEn P (.ofString "_StringIO__translated") 1012 (.ref 412),kEn P (.ofString "_StringIO__check") 1019 (.ref 419),kEn P (.ofString "_StringIO__check_dot") 1026 (.ref 426),kEn P (.ofString "_StringIO__line") 1041 (.ref 433),kEn P (.ofString "closed") 1049 (.ref 441),kEn P (.ofString "line_buffering") 1057 (.ref 449),kEn P (.ofString "newlines") 1065 (.ref 457),kEn P (.ofString "encoding") 1073 (.ref 465),kEn P (.ofString "errors") 1081 (.ref 473),kEn P (.ofString "close") 1088 (.ref 480),kEn P (.ofString "__enter__") 1095 (.ref 487),kEn P (.ofString "__exit__") 1103 (.ref 494),kEn P (.ofString "readable") 1110 (.ref 501),kEn P (.ofString "writable") 1117 (.ref 508),kEn P (.ofString "seekable") 1124 (.ref 515),kEn P (.ofString "isatty") 1131 (.ref 522),kEn P (.ofString "flush") 1138 (.ref 529),kEn P (.ofString "fileno") 1145 (.ref 536),kEn P (.ofString "detach") 1152 (.ref 543),kEn P (.ofString "getvalue") 1159 (.ref 550),kEn P (.ofString "tell") 1166 (.ref 557),kEn P (.ofString "seek") 1176 (.ref 565),kEn P (.ofString "truncate") 1184 (.ref 573),kEn P (.ofString "read") 1196 (.ref 581),kEn P (.ofString "readline") 1206 (.ref 589),kEn P (.ofString "readlines") 1216 (.ref 597),kEn P (.ofString "__iter__") 1223 (.ref 604),kEn P (.ofString "__next__") 1231 (.ref 611),kEn P (.ofString "write") 1243 (.ref 618),kEn P (.ofString "writelines") 1251 (.ref 625),kEn P (.ofString "__repr__") 1258 (.ref 632),kEn P (.ofString "__static_attributes__") 1262 (.ref 633),kEn P (.ofString "__doc__") 1263 .none] 2 }
noncomputable def kO635 (P:Params):Obj:={ cls:=(.type "type"),data:=.cls { name:=(.ofString "StringIO"),bases:=[(.ref 158)],mro:=[(.ref 635),(.ref 158),(.ref 131),(.type "object")],ns:=634,qualname:=(.ofString "StringIO") },slots:=#[(some (.ref 391)),none,(some (.str (.ofString "StringIO") 979)),(some (.str (.ofString "StringIO") 987)),(some .none),(some (.bool true))] }
noncomputable def kO687 (P:Params):Obj:={ cls:=(.type "tuple"),data:=.seq #[.none,.none,(.bool false),(.bool false)] }
noncomputable def kO693 (P:Params):Obj:={ cls:=(.type "code"),data:=.fields #[(.str (.ofString "__init__") 1339),(.str (.ofString "shlex.__init__") 1340),(.str (.ofString "/claim/cut.py") 1341),(.int 579 0),(.int 5 0),(.int 0 0),(.int 0 0),(.int 3 0),(.ref 688),(.bool true),(.int 318 0),(.ref 689),.none,(.ref 690),(.ref 691),(.ref 692),(.int 1348 0),(.int 579 0),(.str (.ofString "/claim/cut.py") 1349)] }
noncomputable def kO694 (P:Params):Obj:={ cls:=(.type "function"),data:=.func (mkFd (clsFn pw_kt0098_01 31 0) (.ofString "shlex.__init__") (.ref 687) .none .none (.str (.ofString "cpy313.shlex") 1325) (.ref 693)) }
noncomputable def kO700 (P:Params):Obj:={ cls:=(.type "code"),data:=.fields #[(.str (.ofString "punctuation_chars") 1351),(.str (.ofString "shlex.punctuation_chars") 1352),(.str (.ofString "/claim/cut.py") 1353),(.int 620 0),(.int 1 0),(.int 0 0),(.int 0 0),(.int 3 0),(.ref 695),(.bool true),(.int 318 0),(.ref 696),.none,(.ref 697),(.ref 698),(.ref 699),(.int 1355 0),(.int 620 0),(.str (.ofString "/claim/cut.py") 1356)] }
noncomputable def kO701 (P:Params):Obj:={ cls:=(.type "function"),data:=.func (mkFd (clsFn pw_kt0098_01 31 1) (.ofString "shlex.punctuation_chars") .none .none .none (.str (.ofString "cpy313.shlex") 1325) (.ref 700)) }
noncomputable def kO702 (P:Params):Obj:={ cls:=(.type "property"),data:=.fields #[(.ref 701),.none,.none,.none,(.str (.ofString "punctuation_chars") 1358),(.bool false)] }
noncomputable def kO730 (P:Params):Obj:={ cls:=(.type "code"),data:=.fields #[(.str (.ofString "get_token") 1383),(.str (.ofString "shlex.get_token") 1384),(.str (.ofString "/claim/cut.py") 1385),(.int 647 0),(.int 1 0),(.int 0 0),(.int 0 0),(.int 3 0),(.ref 725),(.bool true),(.int 318 0),(.ref 726),.none,(.ref 727),(.ref 728),(.ref 729),(.int 1392 0),(.int 647 0),(.str (.ofString "/claim/cut.py") 1393)] }
noncomputable def kO731 (P:Params):Obj:={ cls:=(.type "function"),data:=.func (mkFd (clsFn pw_kt0098_01 31 5) (.ofString "shlex.get_token") .none .none .none (.str (.ofString "cpy313.shlex") 1325) (.ref 730)) }
noncomputable def kO737 (P:Params):Obj:={ cls:=(.type "code"),data:=.fields #[(.str (.ofString "read_token") 1395),(.str (.ofString "shlex.read_token") 1396),(.str (.ofString "/claim/cut.py") 1397),(.int 674 0),(.int 1 0),(.int 0 0),(.int 0 0),(.int 3 0),(.ref 732),(.bool true),(.int 318 0),(.ref 733),.none,(.ref 734),(.ref 735),(.ref 736),(.int 1403 0),(.int 674 0),(.str (.ofString "/claim/cut.py") 1404)] }
noncomputable def kO738 (P:Params):Obj:={ cls:=(.type "function"),data:=.func (mkFd (clsFn pw_kt0098_01 31 6) (.ofString "shlex.read_token") .none .none .none (.str (.ofString "cpy313.shlex") 1325) (.ref 737)) }
noncomputable def kO759 (P:Params):Obj:={ cls:=(.type "code"),data:=.fields #[(.str (.ofString "__iter__") 1423),(.str (.ofString "shlex.__iter__") 1424),(.str (.ofString "/claim/cut.py") 1425),(.int 821 0),(.int 1 0),(.int 0 0),(.int 0 0),(.int 3 0),(.ref 754),(.bool true),(.int 318 0),(.ref 755),.none,(.ref 756),(.ref 757),(.ref 758),(.int 1427 0),(.int 821 0),(.str (.ofString "/claim/cut.py") 1428)] }
noncomputable def kO760 (P:Params):Obj:={ cls:=(.type "function"),data:=.func (mkFd (clsFn pw_kt0098_01 31 9) (.ofString "shlex.__iter__") .none .none .none (.str (.ofString "cpy313.shlex") 1325) (.ref 759)) }
noncomputable def kO766 (P:Params):Obj:={ cls:=(.type "code"),data:=.fields #[(.str (.ofString "__next__") 1430),(.str (.ofString "shlex.__next__") 1431),(.str (.ofString "/claim/cut.py") 1432),(.int 824 0),(.int 1 0),(.int 0 0),(.int 0 0),(.int 3 0),(.ref 761),(.bool true),(.int 318 0),(.ref 762),.none,(.ref 763),(.ref 764),(.ref 765),(.int 1435 0),(.int 824 0),(.str (.ofString "/claim/cut.py") 1436)] }
noncomputable def kO767 (P:Params):Obj:={ cls:=(.type "function"),data:=.func (mkFd (clsFn pw_kt0098_01 31 10) (.ofString "shlex.__next__") .none .none .none (.str (.ofString "cpy313.shlex") 1325) (.ref 766)) }
noncomputable def kO769 (P:Params):Obj:={ cls:=(.type "dict"),data:=.dict #[kEn P (.ofString "__module__") 1334 (.str (.ofString "cpy313.shlex") 1325),kEn P (.ofString "__firstlineno__") 1338 (.int 577 1337),kEn P (.ofString "__init__") 1350 (.ref 694),kEn P (.ofString "punctuation_chars") 1358 (.ref 702),kEn P (.ofString "push_token") 1366 (.ref 709),kEn P (.ofString "push_source") 1375 (.ref 717),kEn P (.ofString "pop_source") 1382 (.ref 724),kEn P (.ofString "get_token") 1394 (.ref 731),kEn P (.ofString "read_token") 1405 (.ref 738),kEn P (.ofString "sourcehook") 1413 (.ref 745),kEn P (.ofString "error_leader") 1422 (.ref 753),kEn P (.ofString "__iter__") 1429 (.ref 760),kEn P (.ofString "__next__") 1437 (.ref 767),kEn P (.ofString "__static_attributes__") 1458 (.ref 768),kEn P (.ofString "__dict__") 1460 (.ref 771),kEn P (.ofString "__weakref__") 1462 (.ref 772),kEn P (.ofString "__doc__") 1463 .none] 4 }
noncomputable def kO770 (P:Params):Obj:={ cls:=(.type "type"),data:=.cls { name:=(.ofString "shlex"),bases:=[(.type "object")],mro:=[(.ref 770),(.type "object")],ns:=769,qualname:=(.ofString "shlex") },slots:=#[none,none,(some (.str (.ofString "shlex") 1327)),(some (.str (.ofString "shlex") 1335)),(some (.builtin "object.__new__")),(some (.bool true))] }
noncomputable def kO775 (P:Params):Obj:={ cls:=(.type "tuple"),data:=.seq #[(.bool false),(.bool true)] }
noncomputable def kO781 (P:Params):Obj:={ cls:=(.type "code"),data:=.fields #[(.str (.ofString "split") 1466),(.str (.ofString "split") 1467),(.str (.ofString "/claim/cut.py") 1468),(.int 829 0),(.int 3 0),(.int 0 0),(.int 0 0),(.int 3 0),(.ref 776),(.bool true),(.int 318 0),(.ref 777),.none,(.ref 778),(.ref 779),(.ref 780),(.int 1473 0),(.int 829 0),(.str (.ofString "/claim/cut.py") 1474)] }
noncomputable def kO782 (P:Params):Obj:={ cls:=(.type "function"),data:=.func (mkFd (topFn pw_kt0098_01 32) (.ofString "split") (.ref 775) .none .none (.str (.ofString "cpy313.shlex") 1325) (.ref 781)) }
noncomputable def kO784 (P:Params):Obj:={ cls:=.none,data:=.fields #[] }
noncomputable def kO788 (P:Params):Obj:={ cls:=(.type "code"),data:=.fields #[(.str (.ofString "join") 1476),(.str (.ofString "join") 1477),(.str (.ofString "/claim/cut.py") 1478),(.int 837 0),(.int 1 0),(.int 0 0),(.int 0 0),(.int 3 0),(.ref 783),(.bool true),(.int 318 0),(.ref 784),.none,(.ref 785),(.ref 786),(.ref 787),(.int 1480 0),(.int 837 0),(.str (.ofString "/claim/cut.py") 1481)] }
noncomputable def kO789 (P:Params):Obj:={ cls:=(.type "function"),data:=.func (mkFd (topFn pw_kt0098_01 33) (.ofString "join") .none .none .none (.str (.ofString "cpy313.shlex") 1325) (.ref 788)) }
noncomputable def kO790 (P:Params):Obj:={ cls:=(.type "builtin_function_or_method"),data:=.fields #[(.builtin "re.Pattern.search"),(.ref 87)] }
noncomputable def kO796 (P:Params):Obj:={ cls:=(.type "code"),data:=.fields #[(.str (.ofString "quote") 1486),(.str (.ofString "quote") 1487),(.str (.ofString "/claim/cut.py") 1488),(.int 841 0),(.int 1 0),(.int 0 0),(.int 0 0),(.int 3 0),(.ref 791),(.bool true),(.int 318 0),(.ref 792),.none,(.ref 793),(.ref 794),(.ref 795),(.int 1490 0),(.int 841 0),(.str (.ofString "/claim/cut.py") 1491)] }
noncomputable def kO797 (P:Params):Obj:={ cls:=(.type "function"),data:=.func (mkFd (topFn pw_kt0098_01 36) (.ofString "quote") .none .none .none (.str (.ofString "cpy313.shlex") 1325) (.ref 796)) }
noncomputable def kO801 (P:Params):Obj:={ cls:=(.type "tuple"),data:=.seq #[(.int 14 0),(.int 10 0),(.int 4 0),(.int 1 0),(.int 1 0),(.int 22 0),(.int 0 0),(.int 31 0),(.int 16 0),(.int 127 0),(.int 0 0),(.int 13 0),(.int 7 0),(.int 22 0),(.int 0 0),(.int 31 0),(.int 16 0),(.int 127 0),(.int 0 0),(.int 1 0)] }
noncomputable def kO802 (P:Params):Obj:={ cls:=(.type "re.Pattern"),data:=.fields #[(.str (mkS [91,92,120,48,48,45,92,120,49,70,92,120,55,70,93]) 1496),(.int 32 1519),(.int 0 0),.none,.none,(.ref 801),(.int 0 0)] }
noncomputable def kO806 (P:Params):Obj:={ cls:=(.type "tuple"),data:=.seq #[(.int 14 0),(.int 14 0),(.int 4 0),(.int 1 0),(.int 1 0),(.int 9 0),(.int 4294966783 0),(.int 0 0),(.int 0 0),(.int 2147483648 0),(.int 0 0),(.int 0 0),(.int 0 0),(.int 0 0),(.int 0 0),(.int 13 0),(.int 11 0),(.int 9 0),(.int 4294966783 0),(.int 0 0),(.int 0 0),(.int 2147483648 0),(.int 0 0),(.int 0 0),(.int 0 0),(.int 0 0),(.int 0 0),(.int 1 0)] }
noncomputable def kO807 (P:Params):Obj:={ cls:=(.type "re.Pattern"),data:=.fields #[(.str (mkS [91,92,120,48,48,45,92,120,48,56,92,120,48,65,45,92,120,49,70,92,120,55,70,93]) 1522),(.int 32 1553),(.int 0 0),.none,.none,(.ref 806),(.int 0 0)] }
noncomputable def kO815 (P:Params):Obj:={ cls:=(.type "tuple"),data:=.seq #[.none] }
noncomputable def kO821 (P:Params):Obj:={ cls:=(.type "code"),data:=.fields #[(.str (.ofString "__init__") 1567),(.str (.ofString "Headers.__init__") 1568),(.str (.ofString "/claim/cut.py") 1569),(.int 852 0),(.int 2 0),(.int 0 0),(.int 0 0),(.int 3 0),(.ref 816),(.bool true),(.int 318 0),(.ref 817),.none,(.ref 818),(.ref 819),(.ref 820),(.int 1574 0),(.int 852 0),(.str (.ofString "/claim/cut.py") 1575)] }
noncomputable def kO822 (P:Params):Obj:={ cls:=(.type "function"),data:=.func (mkFd (clsFn pw_kt0098_01 40 0) (.ofString "Headers.__init__") (.ref 815) .none .none (.str (.ofString "cpy313.wsgiref.headers") 1493) (.ref 821)) }
noncomputable def kO828 (P:Params):Obj:={ cls:=(.type "code"),data:=.fields #[(.str (.ofString "_convert_string_type") 1577),(.str (.ofString "Headers._convert_string_type") 1578),(.str (.ofString "/claim/cut.py") 1579),(.int 862 0),(.int 2 0),(.int 0 0),(.int 1 0),(.int 3 0),(.ref 823),(.bool true),(.int 318 0),(.ref 824),.none,(.ref 825),(.ref 826),(.ref 827),(.int 1584 0),(.int 862 0),(.str (.ofString "/claim/cut.py") 1585)] }
noncomputable def kO829 (P:Params):Obj:={ cls:=(.type "function"),data:=.func (mkFd (clsFn pw_kt0098_01 40 1) (.ofString "Headers._convert_string_type") .none .none .none (.str (.ofString "cpy313.wsgiref.headers") 1493) (.ref 828)) }
noncomputable def kO842 (P:Params):Obj:={ cls:=(.type "code"),data:=.fields #[(.str (.ofString "__setitem__") 1594),(.str (.ofString "Headers.__setitem__") 1595),(.str (.ofString "/claim/cut.py") 1596),(.int 873 0),(.int 3 0),(.int 0 0),(.int 0 0),(.int 3 0),(.ref 837),(.bool true),(.int 318 0),(.ref 838),.none,(.ref 839),(.ref 840),(.ref 841),(.int 1600 0),(.int 873 0),(.str (.ofString "/claim/cut.py") 1601)] }
noncomputable def kO843 (P:Params):Obj:={ cls:=(.type "function"),data:=.func (mkFd (clsFn pw_kt0098_01 40 3) (.ofString "Headers.__setitem__") .none .none .none (.str (.ofString "cpy313.wsgiref.headers") 1493) (.ref 842)) }
noncomputable def kO847 (P:Params):Obj:={ cls:=(.type "code"),data:=.fields #[(.str (.ofString "__delitem__") 1603),(.str (.ofString "Headers.__delitem__") 1604),(.str (.ofString "/claim/cut.py") 1605),(.int 877 0),(.int 2 0),(.int 0 0),(.int 0 0),(.int 3 0),(.ref 844),(.bool true),(.int 318 0),(.ref 845),.none,.none,.none,(.ref 846),(.int 1606 0),(.int 877 0),(.str (.ofString "/claim/cut.py") 1607)] }
noncomputable def kO848 (P:Params):Obj:={ cls:=(.type "function"),data:=.func (mkFd (clsFn pw_kt0098_01 40 4) (.ofString "Headers.__delitem__") .none .none .none (.str (.ofString "cpy313.wsgiref.headers") 1493) (.ref 847)) }
noncomputable def kO870 (P:Params):Obj:={ cls:=(.type "tuple"),data:=.seq #[.none] }
noncomputable def kO876 (P:Params):Obj:={ cls:=(.type "code"),data:=.fields #[(.str (.ofString "get") 1633),(.str (.ofString "Headers.get") 1634),(.str (.ofString "/claim/cut.py") 1635),(.int 890 0),(.int 3 0),(.int 0 0),(.int 0 0),(.int 3 0),(.ref 871),(.bool true),(.int 318 0),(.ref 872),.none,(.ref 873),(.ref 874),(.ref 875),(.int 1641 0),(.int 890 0),(.str (.ofString "/claim/cut.py") 1642)] }
noncomputable def kO877 (P:Params):Obj:={ cls:=(.type "function"),data:=.func (mkFd (clsFn pw_kt0098_01 40 8) (.ofString "Headers.get") (.ref 870) .none .none (.str (.ofString "cpy313.wsgiref.headers") 1493) (.ref 876)) }
noncomputable def kO893 (P:Params):Obj:={ cls:=(.type "code"),data:=.fields #[(.str (.ofString "items") 1656),(.str (.ofString "Headers.items") 1657),(.str (.ofString "/claim/cut.py") 1658),(.int 903 0),(.int 1 0),(.int 0 0),(.int 0 0),(.int 3 0),(.ref 888),(.bool true),(.int 318 0),(.ref 889),.none,(.ref 890),(.ref 891),(.ref 892),(.int 1660 0),(.int 903 0),(.str (.ofString "/claim/cut.py") 1661)] }
noncomputable def kO894 (P:Params):Obj:={ cls:=(.type "function"),data:=.func (mkFd (clsFn pw_kt0098_01 40 11) (.ofString "Headers.items") .none .none .none (.str (.ofString "cpy313.wsgiref.headers") 1493) (.ref 893)) }
noncomputable def kO929 (P:Params):Obj:={ cls:=(.type "dict"),data:=.dict #[kEn P (.ofString "__module__") 1562 (.str (.ofString "cpy313.wsgiref.headers") 1493),kEn P (.ofString "__firstlineno__") 1566 (.int 850 1565),kEn P (.ofString "__init__") 1576 (.ref 822),kEn P (.ofString "_convert_string_type") 1586 (.ref 829),kEn P (.ofString "__len__") 1593 (.ref 836),kEn P (.ofString "__setitem__") 1602 (.ref 843),kEn P (.ofString "__delitem__") 1608 (.ref 848),kEn P (.ofString "__getitem__") 1616 (.ref 855),kEn P (.ofString "__contains__") 1624 (.ref 862),kEn P (.ofString "get_all") 1632 (.ref 869),kEn P (.ofString "get") 1643 (.ref 877),kEn P (.ofString "keys") 1649 (.ref 882),kEn P (.ofString "values") 1655 (.ref 887),kEn P (.ofString "items") 1662 (.ref 894),kEn P (.ofString "__repr__") 1669 (.ref 901),kEn P (.ofString "__str__") 1675 (.ref 906),kEn P (.ofString "__bytes__") 1682 (.ref 913),kEn P (.ofString "setdefault") 1691 (.ref 920),kEn P (.ofString "add_header") 1701 (.ref 927),kEn P (.ofString "__static_attributes__") 1703 (.ref 928),kEn P (.ofString "__dict__") 1705 (.ref 931),kEn P (.ofString "__weakref__") 1707 (.ref 932),kEn P (.ofString "__doc__") 1708 .none] 4 }
noncomputable def kO930 (P:Params):Obj:={ cls:=(.type "type"),data:=.cls { name:=(.ofString "Headers"),bases:=[(.type "object")],mro:=[(.ref 930),(.type "object")],ns:=929,qualname:=(.ofString "Headers") },slots:=#[none,none,(some (.str (.ofString "Headers") 1555)),(some (.str (.ofString "Headers") 1563)),(some (.builtin "object.__new__")),(some (.bool true))] }
noncomputable def kO938 (P:Params):Obj:={ cls:=(.type "code"),data:=.fields #[(.str (.ofString "_law_draws") 1713),(.str (.ofString "_law_draws") 1714),(.str (.ofString "/claim/cut.py") 1715),(.int 921 0),(.int 1 0),(.int 0 0),(.int 0 0),(.int 3 0),(.ref 935),(.bool true),(.int 318 0),(.ref 936),.none,.none,.none,(.ref 937),(.int 1716 0),(.int 921 0),(.str (.ofString "/claim/cut.py") 1717)] }
noncomputable def kO939 (P:Params):Obj:={ cls:=(.type "function"),data:=.func (mkFd (topFn pw_kt0098_01 42) (.ofString "_law_draws") .none .none .none (.str (.ofString "law_kt0098_01") 1711) (.ref 938)) }
noncomputable def kO943 (P:Params):Obj:={ cls:=(.type "code"),data:=.fields #[(.str (.ofString "_law_heard") 1719),(.str (.ofString "_law_heard") 1720),(.str (.ofString "/claim/cut.py") 1721),(.int 924 0),(.int 2 0),(.int 0 0),(.int 0 0),(.int 3 0),(.ref 940),(.bool true),(.int 318 0),(.ref 941),.none,.none,.none,(.ref 942),(.int 1722 0),(.int 924 0),(.str (.ofString "/claim/cut.py") 1723)] }
noncomputable def kO944 (P:Params):Obj:={ cls:=(.type "function"),data:=.func (mkFd (topFn pw_kt0098_01 43) (.ofString "_law_heard") .none .none .none (.str (.ofString "law_kt0098_01") 1711) (.ref 943)) }
noncomputable def kO948 (P:Params):Obj:={ cls:=(.type "code"),data:=.fields #[(.str (.ofString "_law_past") 1725),(.str (.ofString "_law_past") 1726),(.str (.ofString "/claim/cut.py") 1727),(.int 926 0),(.int 1 0),(.int 0 0),(.int 0 0),(.int 3 0),(.ref 945),(.bool true),(.int 318 0),(.ref 946),.none,.none,.none,(.ref 947),(.int 1728 0),(.int 926 0),(.str (.ofString "/claim/cut.py") 1729)] }
noncomputable def kO949 (P:Params):Obj:={ cls:=(.type "function"),data:=.func (mkFd (topFn pw_kt0098_01 44) (.ofString "_law_past") .none .none .none (.str (.ofString "law_kt0098_01") 1711) (.ref 948)) }
noncomputable def kO953 (P:Params):Obj:={ cls:=(.type "code"),data:=.fields #[(.str (.ofString "_law_send") 1731),(.str (.ofString "_law_send") 1732),(.str (.ofString "/claim/cut.py") 1733),(.int 934 0),(.int 4 0),(.int 0 0),(.int 0 0),(.int 3 0),(.ref 950),(.bool true),(.int 318 0),(.ref 951),.none,.none,.none,(.ref 952),(.int 1734 0),(.int 934 0),(.str (.ofString "/claim/cut.py") 1735)] }
noncomputable def kO954 (P:Params):Obj:={ cls:=(.type "function"),data:=.func (mkFd (topFn pw_kt0098_01 45) (.ofString "_law_send") .none .none .none (.str (.ofString "law_kt0098_01") 1711) (.ref 953)) }
noncomputable def kO958 (P:Params):Obj:={ cls:=(.type "code"),data:=.fields #[(.str (.ofString "_law_mails") 1737),(.str (.ofString "_law_mails") 1738),(.str (.ofString "/claim/cut.py") 1739),(.int 941 0),(.int 2 0),(.int 0 0),(.int 0 0),(.int 3 0),(.ref 955),(.bool true),(.int 318 0),(.ref 956),.none,.none,.none,(.ref 957),(.int 1740 0),(.int 941 0),(.str (.ofString "/claim/cut.py") 1741)] }
noncomputable def kO959 (P:Params):Obj:={ cls:=(.type "function"),data:=.func (mkFd (topFn pw_kt0098_01 46) (.ofString "_law_mails") .none .none .none (.str (.ofString "law_kt0098_01") 1711) (.ref 958)) }
noncomputable def kO965 (P:Params):Obj:={ cls:=(.type "code"),data:=.fields #[(.str (.ofString "_law_plain") 1743),(.str (.ofString "_law_plain") 1744),(.str (.ofString "/claim/cut.py") 1745),(.int 950 0),(.int 1 0),(.int 0 0),(.int 0 0),(.int 3 0),(.ref 960),(.bool true),(.int 318 0),(.ref 961),.none,(.ref 962),(.ref 963),(.ref 964),(.int 1750 0),(.int 950 0),(.str (.ofString "/claim/cut.py") 1751)] }
noncomputable def kO966 (P:Params):Obj:={ cls:=(.type "function"),data:=.func (mkFd (topFn pw_kt0098_01 47) (.ofString "_law_plain") .none .none .none (.str (.ofString "law_kt0098_01") 1711) (.ref 965)) }
noncomputable def kO970 (P:Params):Obj:={ cls:=(.type "code"),data:=.fields #[(.str (.ofString "_law_test") 1753),(.str (.ofString "_law_test") 1754),(.str (.ofString "/claim/cut.py") 1755),(.int 962 0),(.int 1 0),(.int 0 0),(.int 0 0),(.int 3 0),(.ref 967),(.bool true),(.int 318 0),(.ref 968),.none,.none,.none,(.ref 969),(.int 1756 0),(.int 962 0),(.str (.ofString "/claim/cut.py") 1757)] }
noncomputable def kO971 (P:Params):Obj:={ cls:=(.type "function"),data:=.func (mkFd (topFn pw_kt0098_01 48) (.ofString "_law_test") .none .none .none (.str (.ofString "law_kt0098_01") 1711) (.ref 970)) }
noncomputable def kO975 (P:Params):Obj:={ cls:=(.type "code"),data:=.fields #[(.str (.ofString "_law_takes") 1759),(.str (.ofString "_law_takes") 1760),(.str (.ofString "/claim/cut.py") 1761),(.int 971 0),(.int 3 0),(.int 0 0),(.int 0 0),(.int 3 0),(.ref 972),(.bool true),(.int 318 0),(.ref 973),.none,.none,.none,(.ref 974),(.int 1762 0),(.int 971 0),(.str (.ofString "/claim/cut.py") 1763)] }
noncomputable def kO976 (P:Params):Obj:={ cls:=(.type "function"),data:=.func (mkFd (topFn pw_kt0098_01 49) (.ofString "_law_takes") .none .none .none (.str (.ofString "law_kt0098_01") 1711) (.ref 975)) }
noncomputable def kO980 (P:Params):Obj:={ cls:=(.type "code"),data:=.fields #[(.str (.ofString "_law_rounds") 1765),(.str (.ofString "_law_rounds") 1766),(.str (.ofString "/claim/cut.py") 1767),(.int 978 0),(.int 3 0),(.int 0 0),(.int 0 0),(.int 3 0),(.ref 977),(.bool true),(.int 318 0),(.ref 978),.none,.none,.none,(.ref 979),(.int 1768 0),(.int 978 0),(.str (.ofString "/claim/cut.py") 1769)] }
noncomputable def kO981 (P:Params):Obj:={ cls:=(.type "function"),data:=.func (mkFd (topFn pw_kt0098_01 50) (.ofString "_law_rounds") .none .none .none (.str (.ofString "law_kt0098_01") 1711) (.ref 980)) }
noncomputable def kO987 (P:Params):Obj:={ cls:=(.type "code"),data:=.fields #[(.str (.ofString "_law_order") 1771),(.str (.ofString "_law_order") 1772),(.str (.ofString "/claim/cut.py") 1773),(.int 998 0),(.int 1 0),(.int 0 0),(.int 0 0),(.int 3 0),(.ref 982),(.bool true),(.int 318 0),(.ref 983),.none,(.ref 984),(.ref 985),(.ref 986),(.int 1777 0),(.int 998 0),(.str (.ofString "/claim/cut.py") 1778)] }
noncomputable def kO988 (P:Params):Obj:={ cls:=(.type "function"),data:=.func (mkFd (topFn pw_kt0098_01 51) (.ofString "_law_order") .none .none .none (.str (.ofString "law_kt0098_01") 1711) (.ref 987)) }
noncomputable def kO992 (P:Params):Obj:={ cls:=(.type "code"),data:=.fields #[(.str (.ofString "law") 1780),(.str (.ofString "law") 1781),(.str (.ofString "/claim/cut.py") 1782),(.int 1003 0),(.int 1 0),(.int 0 0),(.int 0 0),(.int 3 0),(.ref 989),(.bool true),(.int 318 0),(.ref 990),.none,.none,.none,(.ref 991),(.int 1783 0),(.int 1003 0),(.str (.ofString "/claim/cut.py") 1784)] }
noncomputable def kO993 (P:Params):Obj:={ cls:=(.type "function"),data:=.func (mkFd (topFn pw_kt0098_01 52) (.ofString "law") .none .none .none (.str (.ofString "law_kt0098_01") 1711) (.ref 992)) }
noncomputable def K01 (P:Params):Frag:=[(0,kO0 P),(1,kO1 P),(2,kO2 P),(3,kO3 P),(4,kO4 P),(6,kO6 P),(55,kO55 P),(56,kO56 P),(58,kO58 P),(67,kO67 P),(68,kO68 P),(74,kO74 P),(75,kO75 P),(81,kO81 P),(82,kO82 P),(86,kO86 P),(87,kO87 P),(100,kO100 P),(101,kO101 P),(127,kO127 P),(128,kO128 P),(130,kO130 P),(131,kO131 P),(132,kO132 P),(145,kO145 P),(146,kO146 P),(157,kO157 P),(158,kO158 P),(387,kO387 P),(388,kO388 P),(398,kO398 P),(404,kO404 P),(405,kO405 P),(411,kO411 P),(412,kO412 P),(418,kO418 P),(419,kO419 P),(574,kO574 P),(580,kO580 P),(581,kO581 P),(634,kO634 P),(635,kO635 P),(687,kO687 P),(693,kO693 P),(694,kO694 P),(700,kO700 P),(701,kO701 P),(702,kO702 P),(730,kO730 P),(731,kO731 P),(737,kO737 P),(738,kO738 P),(759,kO759 P),(760,kO760 P),(766,kO766 P),(767,kO767 P),(769,kO769 P),(770,kO770 P),(775,kO775 P),(781,kO781 P),(782,kO782 P),(784,kO784 P),(788,kO788 P),(789,kO789 P),(790,kO790 P),(796,kO796 P),(797,kO797 P),(801,kO801 P),(802,kO802 P),(806,kO806 P),(807,kO807 P),(815,kO815 P),(821,kO821 P),(822,kO822 P),(828,kO828 P),(829,kO829 P),(842,kO842 P),(843,kO843 P),(847,kO847 P),(848,kO848 P),(870,kO870 P),(876,kO876 P),(877,kO877 P),(893,kO893 P),(894,kO894 P),(929,kO929 P),(930,kO930 P),(938,kO938 P),(939,kO939 P),(943,kO943 P),(944,kO944 P),(948,kO948 P),(949,kO949 P),(953,kO953 P),(954,kO954 P),(958,kO958 P),(959,kO959 P),(965,kO965 P),(966,kO966 P),(970,kO970 P),(971,kO971 P),(975,kO975 P),(976,kO976 P),(980,kO980 P),(981,kO981 P),(987,kO987 P),(988,kO988 P),(992,kO992 P),(993,kO993 P)]
noncomputable def kA01:List Addr:=[0,1,2,3,4,6,55,56,58,67,68,74,75,81,82,86,87,100,101,127,128,130,131,132,145,146,157,158,387,388,398,404,405,411,412,418,419,574,580,581,634,635,687,693,694,700,701,702,730,731,737,738,759,760,766,767,769,770,775,781,782,784,788,789,790,796,797,801,802,806,807,815,821,822,828,829,842,843,847,848,870,876,877,893,894,929,930,938,939,943,944,948,949,953,954,958,959,965,966,970,971,975,976,980,981,987,988,992,993]
end Lw
end
section
open PySem PySem.Calls PySem.W PySem.W.X PyProof.Rows
set_option maxRecDepth 1000000
set_option maxHeartbeats 0
namespace Lw
open PySem.Challenge (pw_kt0098_01 rw_kt0098_01)
noncomputable def q0h:Program:=view pw_kt0098_01 [0,1,52]
noncomputable def loose0:List PySem.Str:=(["_wall", "twin_re_1_fnmatch", "translate", "_special_chars_map", "escape", "_translate", "_join_translated_parts", "twin_re_1_shlex", "_whence", "_index", "UnsupportedOperation", "IOBase", "BufferedIOBase", "TextIOBase", "BytesIO", "StringIO", "_kind", "_fspath", "_check_arg_types", "isabs", "join", "join_path", "dirname", "shlex", "split", "join_shlex", "_find_unsafe", "quote", "_name_disallowed_re", "_value_disallowed_re", "Headers", "_law_draws", "_law_heard", "_law_past", "_law_send", "_law_mails", "_law_plain", "_law_test", "_law_takes", "_law_rounds", "_law_order"]:List String).map PySem.Str.ofString
theorem open0:∀ w:World,(fencedOpening treeTable pw_kt0098_01 w 15500).map (fun s=>(s.heap.isNs mainGlobals && s.gens.size == 0,s.heap.objs.size,s.heap.nsMap mainGlobals "__annotations__")) = some (true,34,some (.ref 6)):=fun w=>by
 rw [PySem.W.Fast.te14364793385576792824]
 kernel_rfl
noncomputable def RunOk (w:World):Prop:=(fencedOpening treeTable pw_kt0098_01 w 15500).bind (fun s₀=>(segRunT treeTable pw_kt0098_01 w 34 (some (.ref 6)) 0 9000 (toT s₀) (topStub pw_kt0098_01)).map (fun r=>lookT pw_kt0098_01 q0h loose0 kA01 true s₀.heap r.2.1)) = some (true,openGood q0h loose0,valZ K01 994 1786 w)
theorem run00 (w:World):RunOk ((w.withFollow "comprehension-iter-twice" false).withFollow "special-get-raises" false):=by
 unfold RunOk lookT
 rw [PySem.W.Fast.te10110043849684766642,PySem.W.Fast.te14364793385576792824,PySem.W.Fast.te4187177175401517315,PySem.W.Fast.te5923862056798008813]
 kernel_rfl
theorem run01 (w:World):RunOk ((w.withFollow "comprehension-iter-twice" false).withFollow "special-get-raises" true):=by
 unfold RunOk lookT
 rw [PySem.W.Fast.te10110043849684766642,PySem.W.Fast.te14364793385576792824,PySem.W.Fast.te4187177175401517315,PySem.W.Fast.te5923862056798008813]
 kernel_rfl
theorem run10 (w:World):RunOk ((w.withFollow "comprehension-iter-twice" true).withFollow "special-get-raises" false):=by
 unfold RunOk lookT
 rw [PySem.W.Fast.te10110043849684766642,PySem.W.Fast.te14364793385576792824,PySem.W.Fast.te4187177175401517315,PySem.W.Fast.te5923862056798008813]
 kernel_rfl
theorem run11 (w:World):RunOk ((w.withFollow "comprehension-iter-twice" true).withFollow "special-get-raises" true):=by
 unfold RunOk lookT
 rw [PySem.W.Fast.te10110043849684766642,PySem.W.Fast.te14364793385576792824,PySem.W.Fast.te4187177175401517315,PySem.W.Fast.te5923862056798008813]
 kernel_rfl
theorem left0:LeftO pw_kt0098_01 q0h loose0 (fun _=>true) (obsZ kA01) (valZ K01 994 1786) 15500:=left_here open0 (by decide) (by decide) (byRow2 "special-get-raises" (P:=fun v=>RunOk v) (fun u=>(byRow2 "comprehension-iter-twice" (P:=fun v=>RunOk (v.withFollow "special-get-raises" false)) (fun u=>run00 u) (fun u=>run10 u)) u) (fun u=>(byRow2 "comprehension-iter-twice" (P:=fun v=>RunOk (v.withFollow "special-get-raises" true)) (fun u=>run01 u) (fun u=>run11 u)) u))
noncomputable abbrev pg:Program:=rw_kt0098_01.row.prog
theorem k1:sreFenced pg.main = true:=by kernel_rfl
theorem k2:((moduleNames pg.main.body).isEmpty || lookedIntoSs (moduleNames pg.main.body) pg.main.body) = true:=by kernel_rfl
theorem k4:pg.boundNames.all (fun n=>!worldNames.contains n) = true:=by kernel_rfl
theorem k5:noRoadLSs { strict:=!(importedModules pg.main.body).all cThrough.contains,foot:=none,bare:=(["vars", "dir", "locals"]:List PySem.Str).filter (readsOut pg pg.main.body) } pg.main.body = true:=by
 rw [PySem.W.Fast.te8326940854005059898]
 kernel_rfl
theorem k6:namesMeet pg pg.main.body (fun _ n=>attrL n) = true:=by
 rw [PySem.W.Fast.te17119622794617984870]
 kernel_rfl
theorem k3:namesResolve pg = true:=by kernel_rfl
theorem ro0:rw_kt0098_01.row.wellSaid = true:=by
 unfold OpenRow.wellSaid OpenRow.partSaid
 rw [show looksOpen rw_kt0098_01.row.prog = true from look_both (look_both (look_both (look_both (look_both k1 k2) k3) k4) k5) k6]
 kernel_rfl
theorem la1:(noRoadLSs { strict:=true,foot:=some rw_kt0098_01.bound',writes:=rw_kt0098_01.writes,may:=rw_kt0098_01.may } rw_kt0098_01.footing) = true:=by
 rw [PySem.W.Fast.te8326940854005059898]
 kernel_rfl
theorem said0:rw_kt0098_01.wellSaid = true:=by
 unfold OpenLaw.wellSaid
 rw [ro0,la1,PySem.W.Fast.te17119622794617984870]
 kernel_rfl
end Lw
end
section
open PySem PySem.Calls PySem.W PyProof.Rows
namespace Lw
theorem mkS_cps (x:PySem.Str):mkS x.cps.toList = x:=rfl
noncomputable def okS (l:List Nat):Bool:=l.all (· < 1114112)
theorem okS_append {a b:List Nat} (x:okS a = true) (y:okS b = true):okS (a ++ b) = true:=by simp only [okS,List.all_append,Bool.and_eq_true];exact ⟨x,y⟩
theorem okS_sub {a b:List Nat} (h:∀ x ∈ a,x ∈ b) (y:okS b = true):okS a = true:=List.all_eq_true.mpr fun x hx=>List.all_eq_true.mp y x (h x hx)
set_option genInjectivity true in
inductive AV where
 | none
 | bool (b:Bool)
 | int (i:Int)
 | str (l:List Nat)
 | ref (a:Addr)
 | bi (id:String)
 | ty (n:String)
 | tup (xs:List AV)
 | lst (xs:List AV)
 | dct (ks:List (List Nat)) (vs:List AV)
 | rng (a b st:Int)
 | obj (o:Obj)
 deriving Inhabited
inductive AO where
 | list (xs:List AV)
 | dict (ks:List (List Nat)) (vs:List AV)
 | inst (C dx:Addr)
 | text (cc:Addr)
 | idict (kvs:List (PySem.Str × AV))
 deriving Inhabited
noncomputable def Sq (T:String) (h:Heap) (a:Addr) (vs:List Value):Prop:=∃ n,h.get? a = some { cls:=.type T,data:=.seq vs.toArray n }
section
variable (p:Program) (w:World) (h:Heap)
mutual
noncomputable def VR:AV → Value → Prop
 | .none,v=>v = .none
 | .bool b,v=>v = .bool b
 | .int i,v=>∃ t,v = .int i t
 | .str l,v=>∃ t,v = .str (mkS l) t ∧ okS l = true
 | .ref a,v=>v = .ref a
 | .bi id,v=>v = .builtin id
 | .ty n,v=>v = .type n
 | .tup xs,v=>∃ a vs,v = .ref a ∧ Sq "tuple" h a vs ∧ VRs xs vs
 | .lst xs,v=>∃ a vs,v = .ref a ∧ Sq "list" h a vs ∧ VRs xs vs
 | .dct ks xs,v=>∃ a kvs,v = .ref a ∧ h.DictOf (strKind p w) a kvs ∧ kvs.map (·.1) = ks.map mkS ∧ VRs xs (kvs.map (·.2)) ∧ (a == sysModules) = false
 | .rng x y st,v=>∃ r t u z,v = .ref r ∧ IsRange h r x y st t u z
 | .obj o,v=>∃ a,v = .ref a ∧ h.get? a = some o
noncomputable def VRs:List AV → List Value → Prop
 | [],vs=>vs = []
 | x :: xs,vs=>∃ v r,vs = v :: r ∧ VR x v ∧ VRs xs r
end
end
theorem DictOf.stay {p:Program} {w:World} {h h':Heap} {a:Addr} {kvs:List (PySem.Str × Value)} (x:h.DictOf (strKind p w) a kvs) (e:∀ o,h.get? a = some o → h'.get? a = some o) :
  h'.DictOf (strKind p w) a kvs:=let ⟨o,es,ep,ho,r⟩:=x;⟨o,es,ep,e o ho,r⟩
theorem Sq.stay {T:String} {h h':Heap} {a:Addr} {vs:List Value} (x:Sq T h a vs) (e:∀ o,h.get? a = some o → h'.get? a = some o):Sq T h' a vs:=let ⟨n,q⟩:=x;⟨n,e _ q⟩
theorem Sq.isList {h:Heap} {a:Addr} {vs:List Value} (x:Sq "list" h a vs):h.IsList a vs.toArray:=let ⟨n,q⟩:=x;⟨_,q,rfl,n,rfl⟩
theorem Sq.isTup {h:Heap} {a:Addr} {vs:List Value} (x:Sq "tuple" h a vs):h.IsTuple a vs.toArray:=let ⟨n,q⟩:=x;⟨_,q,rfl,n,rfl⟩
theorem Sq.plain {h:Heap} {a:Addr} {vs:List Value} (x:Sq "list" h a vs):h.PlainList a vs.toArray:=x
section
variable {p:Program} {w:World} {h h':Heap}
mutual
theorem VR.mono (k:h.StaysIn h'):∀ (x:AV) {v:Value},VR p w h x v → VR p w h' x v
 | .none,_=>id
 | .bool _,_=>id
 | .int _,_=>id
 | .str _,_=>id
 | .ref _,_=>id
 | .bi _,_=>id
 | .ty _,_=>id
 | .tup xs,_=>Exists.imp fun _=>Exists.imp fun _=>And.imp_right (And.imp (·.stay (k _)) (VRs.mono k xs))
 | .lst xs,_=>Exists.imp fun _=>Exists.imp fun _=>And.imp_right (And.imp (·.stay (k _)) (VRs.mono k xs))
 | .dct _ xs,_=>Exists.imp fun _=>Exists.imp fun _=>And.imp_right (And.imp (DictOf.stay · (k _)) (And.imp_right (And.imp_left (VRs.mono k xs))))
 | .rng _ _ _,_=>Exists.imp fun _=>Exists.imp fun _=>Exists.imp fun _=>Exists.imp fun _=>And.imp_right (k _ _)
 | .obj _,_=>Exists.imp fun _=>And.imp_right (k _ _)
theorem VRs.mono (k:h.StaysIn h'):∀ (xs:List AV) {vs:List Value},VRs p w h xs vs → VRs p w h' xs vs
 | [],_,e=>e
 | x :: xs,_,⟨v,r,e,a,b⟩=>⟨v,r,e,VR.mono k x a,VRs.mono k xs b⟩
end
theorem VRs.length:∀ {xs:List AV} {vs:List Value},VRs p w h xs vs → vs.length = xs.length
 | [],_,e=>by rw [show _ = [] from e];rfl
 | _ :: _,_,⟨_,_,e,_,b⟩=>by rw [e,List.length_cons,List.length_cons,VRs.length b]
theorem VRs.get:∀ {xs:List AV} {vs:List Value} {i:Nat} {x:AV},VRs p w h xs vs → xs[i]? = some x → ∃ v,vs[i]? = some v ∧ VR p w h x v
 | [],_,_,_=>fun _ e=>by cases e
 | x :: xs,_,0,_=>fun hZ q=>by
  obtain ⟨v,r,rfl,a,b⟩:=hZ
  cases q;exact ⟨v,rfl,a⟩
 | x :: xs,_,i + 1,_=>fun hZ q=>by
  obtain ⟨v,r,rfl,a,b⟩:=hZ
  exact VRs.get (i:=i) b q
theorem VRs.of_get:∀ {xs:List AV} {vs:List Value},vs.length = xs.length → (∀ (i:Nat) x v,xs[i]? = some x → vs[i]? = some v → VR p w h x v) → VRs p w h xs vs
 | [],vs,e,_=>List.length_eq_zero_iff.mp e
 | x :: xs,[],e,_=>by cases e
 | x :: xs,v :: vs,e,f=>⟨v,vs,rfl,f 0 x v rfl rfl,VRs.of_get (Nat.succ.inj e) fun i y u a b=>f (i + 1) y u a b⟩
theorem VRs.append {xs ys:List AV} {vs us:List Value} (a:VRs p w h xs vs) (b:VRs p w h ys us):VRs p w h (xs ++ ys) (vs ++ us):=by
 induction xs generalizing vs with
 | nil=>rw [show vs = [] from a];exact b
 | cons x xs ih=>obtain ⟨v,r,e,a,c⟩:=a;exact ⟨v,r ++ us,by rw [e];rfl,a,ih c⟩
theorem VRs.one {x:AV} {v:Value} (a:VR p w h x v):VRs p w h [x] [v]:=⟨v,[],rfl,a,rfl⟩
theorem VRs.nil:VRs p w h [] []:=rfl
theorem VRs.split:∀ {xs ys:List AV} {vs:List Value},VRs p w h (xs ++ ys) vs → ∃ a b,vs = a ++ b ∧ VRs p w h xs a ∧ VRs p w h ys b
 | [],_,vs,e=>⟨[],vs,rfl,rfl,e⟩
 | _ :: _,_,_,⟨v,r,e,a,b⟩=>by
  obtain ⟨c,d,e',f,g⟩:=VRs.split b
  exact ⟨v :: c,d,by rw [e,e'];rfl,⟨v,c,rfl,a,f⟩,g⟩
end
noncomputable def insH (h:Heap) (a:Addr) (o:Obj):Heap:=
 {h with objs:=((h.objs ++ Array.replicate (a + 1 - h.objs.size) ({ cls:=.none,data:=.freed }:Obj)).setIfInBounds a o) }
theorem insH_self (h:Heap) (a:Addr) (o:Obj) (ho:o.isFreed = false):(insH h a o).get? a = some o:=by
 refine Heap.get?_some_iff.mpr ⟨?_,ho⟩
 simp only [insH,Array.getElem?_setIfInBounds]
 simp
 exact Nat.sub_le_iff_le_add'.mp (Nat.le_refl _)
theorem insH_other (h:Heap) (a b:Addr) (o:Obj) (hb:b ≠ a):(insH h a o).get? b = h.get? b:=by
 have key:∀ ob,(insH h a o).get? b = some ob ↔ h.get? b = some ob:=by
  intro ob
  rw [Heap.get?_some_iff,Heap.get?_some_iff]
  simp only [insH,Array.getElem?_setIfInBounds,if_neg (Ne.symm hb)]
  constructor
  ·rintro ⟨e,f⟩
   refine ⟨?_,f⟩
   rw [Array.getElem?_append] at e
   split at e
   ·exact e
   ·rw [Array.getElem?_replicate] at e
    split at e
    ·cases e;cases f
    ·cases e
  ·rintro ⟨e,f⟩
   refine ⟨?_,f⟩
   rw [Array.getElem?_append_left (Array.getElem?_eq_some_iff.mp e).1];exact e
 cases q:h.get? b with
 | some ob=>exact (key ob).mpr q
 | none=>
  cases z:(insH h a o).get? b with
  | none=>rfl
  | some ob=>rw [(key ob).mp z] at q;cases q
theorem insH_stays {h:Heap} {a:Addr} {o:Obj} (hn:h.get? a = none):h.StaysIn (insH h a o):=fun b ob e=>by
 have:b ≠ a:=by rintro rfl;rw [hn] at e;cases e
 rw [insH_other h a b o this];exact e
structure Wld where
 prog:Program
 w:World
 g0:Heap
 os:OsState
 hsm:∃ o,g0.get? sysModules = some o
 lim:g0.NoLimit
 K:Frag
 inK:K.In g0
 h0:Heap
structure Cx (W₀:Wld) where
 A:Around
 env:Env
 hh:A.handled = none
 hk:env.scope.kind = .function
 hg:env.globals = mainGlobals
 hb:env.builtins = builtinsNs
 ro:PySem.Str → Bool:=fun _=>false
 fz:Bool:=false
 gz:Option (Array GenState × Drawn × OsState):=none
 fl:List Addr:=[]
 frs:Option (List Env):=none
 hfr:∀ l,frs = some l → A.frames = some l ∧ ∀ e ∈ l,e.scope.kind ≠ .module ∧ ∃ a ∈ fl,e.frame = some a:=by intro _ h;cases h
noncomputable abbrev Cx.prog {W₀:Wld} (_:Cx W₀):Program:=W₀.prog
noncomputable abbrev Cx.w {W₀:Wld} (_:Cx W₀):World:=W₀.w
noncomputable abbrev Cx.g0 {W₀:Wld} (_:Cx W₀):Heap:=W₀.g0
noncomputable abbrev Cx.os {W₀:Wld} (c:Cx W₀):OsState:=match c.gz with | none=>W₀.os | some z=>z.2.2
theorem Cx.hsm {W₀:Wld} (_:Cx W₀):∃ o,W₀.g0.get? sysModules = some o:=W₀.hsm
noncomputable abbrev Cx.L {W₀:Wld} (c:Cx W₀):Addr:=c.env.locals
noncomputable abbrev Cx.VR {W₀:Wld} (c:Cx W₀) (h:Heap):=Lw.VR c.prog c.w h
noncomputable abbrev Cx.VRs {W₀:Wld} (c:Cx W₀) (h:Heap):=Lw.VRs c.prog c.w h
noncomputable def Cx.Room {W₀:Wld} (c:Cx W₀) (n:Nat):Prop:=c.A.depth + 2 * n < 600 ∧ c.A.units + 20 * n < 9000
structure St where
 m:List (PySem.Str × AV):=[]
 cl:List (PySem.Str × AV):=[]
 H:List (Addr × AO):=[]
inductive CodeHd (g:Heap) (cc P:Addr):Prop
 | mk (o:Obj) (vs:Array Value) (file:PySem.Str) (tf:Tok) (flags:Int) (tg:Tok) (inF:Bool) (text:Int) (tt:Tok) (h1:g.get? cc = some o) (h2:o.cls = .type "code") (h3:o.data = .fields vs) (h4:vs.getD 11 .none = .ref P) (h5:vs.getD 18 .none = .str file tf)
  (h6:vs.getD 7 .none = .int flags tg) (h7:vs.getD 9 .none = .bool inF) (h8:vs.getD 10 .none = .int text tt) (h9:cc ≠ P)
noncomputable def ER (p:Program) (w:World) (b:Heap):List (PySem.Str × AV) → List DictEntry → Prop
 | [],es=>es = []
 | (x,y) :: kvs,es=>∃ h t v r,es = ⟨h,.str x t,v⟩ :: r ∧ VR p w b y v ∧ ER p w b kvs r
theorem ER.mono {p:Program} {w:World} {b b':Heap} (k:b.StaysIn b'):∀ {kvs:List (PySem.Str × AV)} {es:List DictEntry},ER p w b kvs es → ER p w b' kvs es
 | [],_=>id
 | (x,y) :: kvs,_=>Exists.imp fun _=>Exists.imp fun _=>Exists.imp fun _=>Exists.imp fun _=>And.imp_right (And.imp (VR.mono k y) (ER.mono k))
noncomputable def OA {W₀:Wld} (c:Cx W₀) (b h:Heap) (a:Addr):AO → Prop
 | .list xs=>∃ vs,Sq "list" h a vs ∧ c.VRs b xs vs
 | .dict ks xs=>∃ kvs,h.DictOf (strKind c.prog c.w) a kvs ∧ kvs.map (·.1) = ks.map mkS ∧ c.VRs b xs (kvs.map (·.2)) ∧ (a == sysModules) = false
 | .inst C dx=>h.get? a = some (instObj C dx)
 | .text cc=>∃ ps,h.get? a = some { cls:=.none,data:=.fields ps } ∧ TriplesOk ps.toList ∧ CodeHd c.g0 cc a ∧ ∃ p0 more,W₀.h0.get? a = some { cls:=.none,data:=.fields p0 } ∧ ps = p0 ++ more
 | .idict kvs=>∃ es n,h.get? a = some (dictOf es n) ∧ ER c.prog c.w b kvs es
theorem OA.stay {W₀:Wld} {c:Cx W₀} {b b' h h':Heap} {a:Addr} {o:AO} (x:OA c b h a o) (k:b.StaysIn b') (e:∀ ob,h.get? a = some ob → h'.get? a = some ob):OA c b' h' a o:=by
 cases o with
 | list xs=>obtain ⟨vs,s,r⟩:=x;exact ⟨vs,s.stay e,r.mono k⟩
 | dict ks xs=>obtain ⟨kvs,s,q,r,z⟩:=x;exact ⟨kvs,DictOf.stay s e,q,r.mono k,z⟩
 | inst C dx=>exact e _ x
 | text cc=>obtain ⟨ps,h1,h2⟩:=x;exact ⟨ps,e _ h1,h2⟩
 | idict kvs=>obtain ⟨es,n,h1,h2⟩:=x;exact ⟨es,n,e _ h1,h2.mono k⟩
theorem OA.there {W₀:Wld} {c:Cx W₀} {b h:Heap} {a:Addr} {o:AO} (x:OA c b h a o):∃ ob,h.get? a = some ob:=by
 cases o with
 | list xs=>obtain ⟨vs,⟨n,e⟩,r⟩:=x;exact ⟨_,e⟩
 | dict ks xs=>obtain ⟨kvs,⟨o,es,ep,e,_⟩,q,r,z⟩:=x;exact ⟨_,e⟩
 | inst C dx=>exact ⟨_,x⟩
 | text cc=>obtain ⟨ps,h1,h2⟩:=x;exact ⟨_,h1⟩
 | idict kvs=>obtain ⟨es,n,h1,h2⟩:=x;exact ⟨_,h1⟩
noncomputable def MR {W₀:Wld} (c:Cx W₀) (b:Heap) (l:List (PySem.Str × AV)) (m:PySem.Str → Option Value):Prop:=∀ x a,l.lookup x = some a → ∃ v,m x = some v ∧ c.VR b a v
noncomputable def GB {W₀:Wld} (c:Cx W₀) (s:Shared):Prop:=(c.gz = Option.none → AllBare s.gens) ∧ ∀ z,c.gz = some z → s.gens = z.1 ∧ s.drawn = z.2.1
noncomputable def StaysB (fl:List Addr) (k h:Heap):Prop:=∀ a o,k.get? a = some o → ∃ sl,h.get? a = some { o with slots:=sl } ∧ (a ∉ fl → sl = o.slots)
theorem StaysB.of {fl:List Addr} {k h:Heap} (x:k.StaysIn h):StaysB fl k h:=fun a o e=>⟨o.slots,x a o e,fun _=>rfl⟩
theorem StaysB.at {fl:List Addr} {k h:Heap} (x:StaysB fl k h) {a:Addr} {o:Obj} (n:a ∉ fl) (e:k.get? a = some o):h.get? a = some o:=by
 obtain ⟨sl,q,z⟩:=x a o e
 rw [q,z n]
theorem StaysB.then {fl:List Addr} {k h h':Heap} (x:StaysB fl k h) (g:∀ a o o',k.get? a = some o → h.get? a = some o' → h'.get? a = some o'):StaysB fl k h':=fun a o e=>
 let ⟨sl,q,z⟩:=x a o e
 ⟨sl,g a o _ e q,z⟩
theorem StaysB.there {fl:List Addr} {k h:Heap} (x:StaysB fl k h) {a:Addr} {o:Obj} (e:k.get? a = some o):∃ o',h.get? a = some o':=let ⟨_,q,_⟩:=x a o e;⟨_,q⟩
structure Sim {W₀:Wld} (c:Cx W₀) (b k:Heap) (σ:St) (s:Shared):Prop where
 g0:c.g0.StaysIn b
 kb:b.StaysIn s.heap
 kk:StaysB c.fl k s.heap
 flk:∀ a ∈ c.fl,a = c.L ∨ ∃ o,k.get? a = some o ∧ ∀ vs,o.data ≠ .fields vs
 ns:∃ m,s.heap.Ns c.L m ∧ MR c b σ.m m
 bk:∀ a o,k.get? a = some o → b.get? a = none
 offL:b.get? c.L = none ∧ (c.fz = false → k.get? c.L = none)
 cells:∀ x a,c.env.cells.lookup x = some a → (∃ v,s.heap.IsCell a v ∧ (∀ y,σ.cl.lookup x = some y → ∃ u,v = some u ∧ c.VR b y u) ∧ (c.ro x = true → ∃ o,k.get? a = some o ∧ o.data = .cell v)) ∧ b.get? a = none ∧ (c.ro x = false → k.get? a = none) ∧ a ≠ c.L ∧ ∀ q ∈ σ.H,q.1 ≠ a
 cinj:∀ x y a,c.env.cells.lookup x = some a → c.env.cells.lookup y = some a → x = y
 led:∀ q ∈ σ.H,OA c b s.heap q.1 q.2 ∧ b.get? q.1 = none ∧ k.get? q.1 = none ∧ q.1 ≠ c.L
 nd:(σ.H.map (·.1)).Nodup
 os:s.os = c.os
 gens:GB c s
inductive Post {W₀:Wld} (c:Cx W₀) (k:Heap) {α β:Type} (R:Heap → β → α → Prop) (Q:β → St → Prop) (b:Heap) (v:α) (s:Shared):Prop
 | mk (b':Heap) (y:β) (σ':St) (st:b.StaysIn b') (S:Sim c b' k σ' s) (r:R b' y v) (q:Q y σ')
theorem Post.elim {W₀:Wld} {c:Cx W₀} {k:Heap} {α β:Type} {R:Heap → β → α → Prop} {Q:β → St → Prop} {b:Heap} {v:α} {s:Shared} {C:Prop} (h:Post c k R Q b v s) (z:∀ b' y σ',b.StaysIn b' → Sim c b' k σ' s → R b' y v → Q y σ' → C):C:=
 match h with | ⟨b',y,σ',t,S,r,q⟩=>z b' y σ' t S r q
noncomputable def Go {W₀:Wld} (c:Cx W₀) {α β:Type} (R:Heap → β → α → Prop) (t:Sem α) (σ:St) (Q:β → St → Prop):Prop:=
 ∀ b k s,Sim c b k σ s → wpAny (model c.prog c.w) c.A t (Post c k R Q b) (fun _ _=>False) s
noncomputable abbrev Ev {W₀:Wld} (c:Cx W₀) (e:Expr) (σ:St) (Q:AV → St → Prop):Prop:=Go c c.VR (eval e c.env) σ Q
noncomputable abbrev Tr {W₀:Wld} (c:Cx W₀) (e:Expr) (σ:St) (Q:Bool → St → Prop):Prop:=Go c (fun _ y v=>v = y) (isTrue e c.env (eval e c.env)) σ Q
inductive AF where
 | next | brk | cont
 | ret (a:AV)
noncomputable def FR {W₀:Wld} (c:Cx W₀) (b:Heap):AF → Flow → Prop
 | .next,f=>f = .next
 | .brk,f=>f = .brk
 | .cont,f=>f = .cont
 | .ret a,f=>∃ v,f = .ret v ∧ c.VR b a v
noncomputable abbrev Ex {W₀:Wld} (c:Cx W₀) (t:Stmt) (σ:St) (Q:AF → St → Prop):Prop:=Go c (FR c) (exec t c.env) σ Q
noncomputable abbrev Exs {W₀:Wld} (c:Cx W₀) (ts:List Stmt) (σ:St) (Q:AF → St → Prop):Prop:=Go c (FR c) (execs ts c.env) σ Q
theorem Go.mono {W₀:Wld} {c:Cx W₀} {α β:Type} {R:Heap → β → α → Prop} {t:Sem α} {σ:St} {Q Q':β → St → Prop} (h:Go c R t σ Q) (hq:∀ y σ',Q y σ' → Q' y σ'):Go c R t σ Q':=
 fun b k s S=>wpAny_mono (h b k s S) (fun _ _ zP=>Post.elim zP fun b' y σ' x S' r q=>⟨b',y,σ',x,S',r,hq _ _ q⟩) fun _ _ z=>z
theorem stays_refl (h:Heap):h.StaysIn h:=fun _ _ e=>e
theorem stays_trans {a b c:Heap} (x:a.StaysIn b) (y:b.StaysIn c):a.StaysIn c:=fun q o e=>y q o (x q o e)
theorem Sim.fresh {W₀:Wld} {c:Cx W₀} {b k:Heap} {σ:St} {s:Shared} (S:Sim c b k σ s):b.get? s.heap.objs.size = none ∧ k.get? s.heap.objs.size = none ∧ s.heap.objs.size ≠ c.L ∧
  (∀ q ∈ σ.H,q.1 ≠ s.heap.objs.size) ∧ ∀ x a,c.env.cells.lookup x = some a → a ≠ s.heap.objs.size:=by
 have no:∀ {h:Heap},StaysB c.fl h s.heap → h.get? s.heap.objs.size = none:=fun {h} st=>by
  cases q:h.get? s.heap.objs.size with
  | none=>rfl
  | some o=>obtain ⟨o',e⟩:=st.there q;exact absurd (Heap.lt_size e) (Nat.lt_irrefl _)
 refine ⟨no (.of S.kb),no S.kk,?_,fun q hq e=>?_,fun x a hx e=>?_⟩
 ·obtain ⟨m,hn,_⟩:=S.ns
  exact Nat.ne_of_gt hn.lt
 ·obtain ⟨ob,ho⟩:=(S.led q hq).1.there
  rw [e] at ho
  exact Nat.lt_irrefl _ (Heap.lt_size ho)
 ·obtain ⟨⟨v,⟨o,ho,_⟩,_⟩,_⟩:=S.cells x a hx
  rw [e] at ho
  exact Nat.lt_irrefl _ (Heap.lt_size ho)
theorem Sim.notMods {W₀:Wld} {c:Cx W₀} {b k:Heap} {σ:St} {s:Shared} (S:Sim c b k σ s):((s.heap.objs.size:Addr) == sysModules) = false:=by
 obtain ⟨o,ho⟩:=c.hsm
 have:=Heap.lt_size (S.kb _ _ (S.g0 _ _ ho))
 exact beq_eq_false_iff_ne.mpr (Nat.ne_of_gt this)
theorem Sim.grow {W₀:Wld} {c:Cx W₀} {b k:Heap} {σ:St} {s s':Shared} (S:Sim c b k σ s) (g:s.heap.StaysIn s'.heap) (ho:s'.os = s.os) (hg:GB c s'):Sim c b k σ s' where
 g0:=S.g0
 kb:=stays_trans S.kb g
 kk:=S.kk.then fun a _ o' _ e=>g a o' e
 flk:=S.flk
 bk:=S.bk
 ns:=by obtain ⟨m,hn,r⟩:=S.ns;exact ⟨m,hn.keeps g,r⟩
 offL:=S.offL
 cells:=fun x a hx=>by obtain ⟨⟨v,⟨o,e,d⟩,r⟩,q⟩:=S.cells x a hx;exact ⟨⟨v,⟨o,g _ _ e,d⟩,r⟩,q⟩
 cinj:=S.cinj
 led:=fun q hq=>by obtain ⟨x,y⟩:=S.led q hq;exact ⟨x.stay (stays_refl _) (g _),y⟩
 nd:=S.nd
 os:=ho.trans S.os
 gens:=hg
theorem Sim.toks {W₀:Wld} {c:Cx W₀} {b k:Heap} {σ:St} {s:Shared} (S:Sim c b k σ s) (n:Nat):Sim c b k σ { s with toks:=n }:=S.grow (s':={ s with toks:=n }) (stays_refl _) rfl S.gens
theorem stays_push (h:Heap) (o:Obj):h.StaysIn (h.push o):=fun _ _ e=>Heap.get?_push_of_some o e
theorem Sim.push {W₀:Wld} {c:Cx W₀} {b k:Heap} {σ:St} {s:Shared} (S:Sim c b k σ s) (o:Obj):Sim c b k σ { s with heap:=s.heap.push o }:=
 S.grow (s':={ s with heap:=s.heap.push o }) (stays_push _ _) rfl S.gens
theorem Sim.freeze {W₀:Wld} {c:Cx W₀} {b k:Heap} {σ:St} {s:Shared} {a:Addr} {o:Obj} (S:Sim c b k σ s) (ho:s.heap.get? a = some o) (hb:b.get? a = none) (hL:a ≠ c.L)
  (hH:∀ q ∈ σ.H,q.1 ≠ a) (hc:∀ x r,c.env.cells.lookup x = some r → r ≠ a) (hk:k.get? a = none):b.StaysIn (insH b a o) ∧ (insH b a o).get? a = some o ∧ Sim c (insH b a o) k σ s:=by
 have hf:o.isFreed = false:=(Heap.get?_some_iff.mp ho).2
 have st:b.StaysIn (insH b a o):=insH_stays hb
 have kb:(insH b a o).StaysIn s.heap:=fun q ob e=>by
  by_cases hq:q = a
  ·subst hq;rw [insH_self _ _ _ hf] at e;cases e;exact ho
  ·rw [insH_other _ _ _ _ hq] at e;exact S.kb q ob e
 refine ⟨st,insH_self _ _ _ hf,?_⟩
 exact {
  g0:=stays_trans S.g0 st
  kb:=kb
  kk:=S.kk
  flk:=S.flk
  bk:=fun q ob e=>(insH_other _ _ _ _ (by rintro rfl;rw [hk] at e;cases e)).trans (S.bk q ob e)
  ns:=by obtain ⟨m,hn,r⟩:=S.ns;exact ⟨m,hn,fun x y e=>let ⟨v,e',z⟩:=r x y e;⟨v,e',VR.mono st _ z⟩⟩
  offL:=⟨(insH_other _ _ _ _ (Ne.symm hL)).trans S.offL.1,S.offL.2⟩
  cells:=fun x r hx=>by obtain ⟨⟨v,i,z,zr⟩,q1,q2⟩:=S.cells x r hx;exact ⟨⟨v,i,(fun y e=>let ⟨u,e',z'⟩:=z y e;⟨u,e',VR.mono st _ z'⟩),zr⟩,(insH_other _ _ _ _ (hc x r hx)).trans q1,q2⟩
  cinj:=S.cinj
  led:=fun q hq=>by obtain ⟨x,y1,y2⟩:=S.led q hq;exact ⟨x.stay st fun _ e=>e,(insH_other _ _ _ _ (hH q hq)).trans y1,y2⟩
  nd:=S.nd
  os:=S.os
  gens:=S.gens }
theorem Sim.newFrozen {W₀:Wld} {c:Cx W₀} {b k:Heap} {σ:St} {s:Shared} (S:Sim c b k σ s) (o:Obj) (hf:o.isFreed = false:=by rfl) :
  b.StaysIn (insH b s.heap.objs.size o) ∧ (insH b s.heap.objs.size o).get? s.heap.objs.size = some o ∧ Sim c (insH b s.heap.objs.size o) k σ { s with heap:=s.heap.push o }:=
 let ⟨f1,f2,f3,f4,f5⟩:=S.fresh
 (S.push o).freeze (Heap.get?_push_size _ hf) f1 (f3) f4 f5 f2
theorem Sim.newLed {W₀:Wld} {c:Cx W₀} {b k:Heap} {σ:St} {s:Shared} (S:Sim c b k σ s) {o:Obj} {y:AO} (hy:OA c b (s.heap.push o) s.heap.objs.size y) :
  Sim c b k { σ with H:=(s.heap.objs.size,y) :: σ.H } { s with heap:=s.heap.push o }:=
 let ⟨f1,f2,f3,f4,f5⟩:=S.fresh
 let S':=S.push o
 {S' with
  cells:=fun x a hx=>by obtain ⟨q0,q1,q2,q3,q4⟩:=S'.cells x a hx;exact ⟨q0,q1,q2,q3,fun q hq=>by
   rcases List.mem_cons.mp hq with rfl | hq
   ·exact Ne.symm (f5 x a hx)
   ·exact q4 q hq⟩
  led:=fun q hq=>by
   rcases List.mem_cons.mp hq with rfl | hq
   ·exact ⟨hy,f1,f2,f3⟩
   ·exact S'.led q hq
  nd:=by
   rw [List.map_cons]
   exact List.nodup_cons.mpr ⟨fun hm=>by obtain ⟨q,hq,e⟩:=List.mem_map.mp hm;exact f4 q hq e,S.nd⟩ }
theorem Sim.local {W₀:Wld} {c:Cx W₀} {b k:Heap} {σ:St} {s:Shared} (S:Sim c b k σ s) {h':Heap} {m':PySem.Str → Option Value} {l:List (PySem.Str × AV)} (hn:h'.Ns c.L m') (hs:Heap.SameBut c.L s.heap h')
  (hm:MR c b l m') (tk:Nat) (hz:c.fz = false):Sim c b k { σ with m:=l } { s with heap:=h',toks:=tk } where
 g0:=S.g0
 kb:=fun q o e=>(hs.2 q (by rintro rfl;rw [S.offL.1] at e;cases e)).trans (S.kb q o e)
 kk:=S.kk.then fun q o o' e e'=>(hs.2 q (by rintro rfl;rw [S.offL.2 hz] at e;cases e)).trans e'
 flk:=S.flk
 ns:=⟨m',hn,hm⟩
 bk:=S.bk
 offL:=S.offL
 cells:=fun x a hx=>by obtain ⟨⟨v,⟨o,e,d⟩,r⟩,q1,q2,q3,q4⟩:=S.cells x a hx;exact ⟨⟨v,⟨o,(hs.2 a q3).trans e,d⟩,r⟩,q1,q2,q3,q4⟩
 cinj:=S.cinj
 led:=fun q hq=>by obtain ⟨x,y1,y2,y3⟩:=S.led q hq;exact ⟨x.stay (stays_refl _) fun _ e=>(hs.2 q.1 y3).trans e,y1,y2,y3⟩
 nd:=S.nd
 os:=S.os
 gens:=S.gens
theorem Sim.cell {W₀:Wld} {c:Cx W₀} {b k:Heap} {σ:St} {s:Shared} (S:Sim c b k σ s) {x:PySem.Str} {a:Addr} {h':Heap} {v:Value} {y:AV} (hx:c.env.cells.lookup x = some a) (hv:h'.IsCell a (some v))
  (hs:Heap.SameBut a s.heap h') (hy:c.VR b y v) (hro:c.ro x = false):Sim c b k { σ with cl:=(x,y) :: σ.cl } { s with heap:=h' } where
 g0:=S.g0
 kb:=fun q o e=>(hs.2 q (by rintro rfl;rw [(S.cells x q hx).2.1] at e;cases e)).trans (S.kb q o e)
 kk:=S.kk.then fun q o o' e e'=>(hs.2 q (by rintro rfl;rw [(S.cells x q hx).2.2.1 hro] at e;cases e)).trans e'
 flk:=S.flk
 ns:=by obtain ⟨m,hn,r⟩:=S.ns;exact ⟨m,hn.sameBut hs (Ne.symm (S.cells x a hx).2.2.2.1),r⟩
 bk:=S.bk
 offL:=S.offL
 cells:=fun z r hz=>by
  obtain ⟨⟨u,⟨o,e,d⟩,t⟩,q⟩:=S.cells z r hz
  by_cases hzx:z = x
  ·subst hzx
   obtain rfl:a = r:=Option.some.inj (hx.symm.trans hz)
   refine ⟨⟨some v,hv,fun y' e'=>?_,fun h=>by rw [hro] at h;cases h⟩,q⟩
   rw [List.lookup_cons_self] at e'
   cases e'
   exact ⟨v,rfl,hy⟩
  ·have hra:r ≠ a:=fun q=>hzx (S.cinj z x a (q ▸ hz) hx)
   refine ⟨⟨u,⟨o,(hs.2 r hra).trans e,d⟩,fun y' e'=>t.1 y' ?_,t.2⟩,q⟩
   rw [List.lookup_cons] at e'
   rwa [show (z == x) = false from beq_eq_false_iff_ne.mpr hzx] at e'
 cinj:=S.cinj
 led:=fun q hq=>by obtain ⟨o,y1,y2,y3⟩:=S.led q hq;exact ⟨o.stay (stays_refl _) fun _ e=>(hs.2 q.1 ((S.cells x a hx).2.2.2.2 q hq)).trans e,y1,y2,y3⟩
 nd:=S.nd
 os:=S.os
 gens:=S.gens
theorem Sim.upd {W₀:Wld} {c:Cx W₀} {b k:Heap} {σ:St} {s:Shared} (S:Sim c b k σ s) {a:Addr} {o y:AO} {pre post:List (Addr × AO)} (hH:σ.H = pre ++ (a,o) :: post) {h':Heap} (hs:Heap.SameBut a s.heap h')
  (hy:OA c b h' a y) (tk:Nat):Sim c b k { σ with H:=pre ++ (a,y) :: post } { s with heap:=h',toks:=tk }:=by
 have hm:(a,o) ∈ σ.H:=by rw [hH];exact List.mem_append_right _ (.head _)
 have ea:(pre ++ (a,y) :: post).map (·.1) = σ.H.map (·.1):=by rw [hH,List.map_append,List.map_append];rfl
 have nd:=S.nd
 rw [hH,List.map_append,List.map_cons] at nd
 have off:∀ q ∈ pre ++ (a,y) :: post,q = (a,y) ∨ (q ∈ σ.H ∧ q.1 ≠ a):=fun q hq=>by
  rcases List.mem_append.mp hq with h1 | h1
  ·refine .inr ⟨by rw [hH];exact List.mem_append_left _ h1,fun e=>?_⟩
   exact (List.nodup_append.mp nd).2.2 q.1 (List.mem_map_of_mem h1) a (.head _) e
  ·rcases List.mem_cons.mp h1 with h1 | h1
   ·exact .inl h1
   ·refine .inr ⟨by rw [hH];exact List.mem_append_right _ (.tail _ h1),fun e=>?_⟩
    exact (List.nodup_cons.mp (List.nodup_append.mp nd).2.1).1 (List.mem_map.mpr ⟨q,h1,e⟩)
 refine byG fun Gq kq=>?_
 obtain ⟨_,l1,l2,l3⟩:=S.led _ hm
 refine kq ?_
 exact {
  g0:=S.g0
  kb:=fun q ob e=>(hs.2 q (by rintro rfl;rw [l1] at e;cases e)).trans (S.kb q ob e)
  kk:=S.kk.then fun q o o' e e'=>(hs.2 q (by rintro rfl;rw [l2] at e;cases e)).trans e'
  flk:=S.flk
  ns:=by obtain ⟨m,hn,r⟩:=S.ns;exact ⟨m,hn.sameBut hs (Ne.symm l3),r⟩
  bk:=S.bk
  offL:=S.offL
  cells:=fun x r hx=>by
   refine byG fun Gq kq=>?_
   obtain ⟨⟨v,⟨ob,e,d⟩,t⟩,q1,q2,q3,q4⟩:=S.cells x r hx
   refine kq ?_
   refine ⟨⟨v,⟨ob,(hs.2 r (Ne.symm (q4 _ hm))).trans e,d⟩,t⟩,q1,q2,q3,fun q hq=>?_⟩
   rcases off q hq with e' | ⟨h1,_⟩
   ·exact fun e=>q4 _ hm (by rw [e'] at e;exact e)
   ·exact q4 q h1
  cinj:=S.cinj
  led:=fun q hq=>by
   rcases off q hq with rfl | ⟨h1,h2⟩
   ·exact ⟨hy,l1,l2,l3⟩
   ·obtain ⟨x,y'⟩:=S.led q h1
    exact ⟨x.stay (stays_refl _) fun _ e=>(hs.2 q.1 h2).trans e,y'⟩
  nd:=by show ((pre ++ (a,y) :: post).map (·.1)).Nodup;rw [ea];exact S.nd
  os:=S.os
  gens:=S.gens }
theorem Sim.weak {W₀:Wld} {c:Cx W₀} {b k:Heap} {σ σ':St} {s:Shared} (S:Sim c b k σ s) (hm:∀ x a,σ'.m.lookup x = some a → σ.m.lookup x = some a) (hc:∀ x a,σ'.cl.lookup x = some a → σ.cl.lookup x = some a)
  (hH:σ'.H.Sublist σ.H):Sim c b k σ' s:=
 {S with
  ns:=by obtain ⟨m,hn,r⟩:=S.ns;exact ⟨m,hn,fun x a e=>r x a (hm x a e)⟩
  cells:=fun x a hx=>by obtain ⟨⟨v,i,t⟩,q1,q2,q3,q4⟩:=S.cells x a hx;exact ⟨⟨v,i,(fun y e=>t.1 y (hc x y e)),t.2⟩,q1,q2,q3,fun q hq=>q4 q (hH.subset hq)⟩
  led:=fun q hq=>S.led q (hH.subset hq)
  nd:=S.nd.sublist (hH.map _) }
end Lw
end
section
open PySem PySem.Calls PySem.W PyProof.Rows
namespace Lw
theorem wpI_T {M:Model} {A:Around} {α:Type} {p:Prop} [Decidable p] {t e:Sem α} {QQ:α → Shared → Prop} {E:Value → Shared → Prop} {s:Shared} (h:p) (x:wpAny M A t QQ E s):wpAny M A (if p then t else e) QQ E s:=by rw [if_pos h];exact x
theorem wpI_F {M:Model} {A:Around} {α:Type} {p:Prop} [Decidable p] {t e:Sem α} {QQ:α → Shared → Prop} {E:Value → Shared → Prop} {s:Shared} (h:¬ p) (x:wpAny M A e QQ E s):wpAny M A (if p then t else e) QQ E s:=by rw [if_neg h];exact x
theorem Post.back {W₀:Wld} {c:Cx W₀} {k:Heap} {α β:Type} {R:Heap → β → α → Prop} {Q:β → St → Prop} {b b₁:Heap} {v:α} {s:Shared} (st:b.StaysIn b₁) (h:Post c k R Q b₁ v s):Post c k R Q b v s:=
 let ⟨b',y,σ',x,S,r,q⟩:=h;⟨b',y,σ',stays_trans st x,S,r,q⟩
theorem Post.at {W₀:Wld} {c:Cx W₀} {k:Heap} {α β:Type} {R:Heap → β → α → Prop} {Q:β → St → Prop} {b:Heap} {v:α} {s:Shared} {σ:St} {y:β} (S:Sim c b k σ s) (r:R b y v) (q:Q y σ):Post c k R Q b v s:=
 ⟨b,y,σ,stays_refl _,S,r,q⟩
theorem gst {W₀:Wld} {c:Cx W₀} {k:Heap} {α β:Type} {R:Heap → β → α → Prop} {Q:β → St → Prop} {b:Heap} {M:Model} {A:Around} {t:Sem α} {s:Shared} {X:α → Shared → Prop} {E:Value → Shared → Prop} (w:wpAny M A t (Post c k R Q b) (fun _ _=>False) s)
  (z:∀ b' y σ' v s',b.StaysIn b' → Sim c b' k σ' s' → R b' y v → Q y σ' → X v s'):wpAny M A t X E s:=wpAny_mono w (fun v s' h=>h.elim fun b' y σ' t S r q=>z b' y σ' v s' t S r q) fun _ _ z=>z.elim
theorem glst {W₀:Wld} {c:Cx W₀} {k:Heap} {α β:Type} {R:Heap → β → α → Prop} {Q:β → St → Prop} {b b₁:Heap} {M:Model} {A:Around} {t:Sem α} {s:Shared} {E:Value → Shared → Prop} (x:b.StaysIn b₁) (w:wpAny M A t (Post c k R Q b₁) (fun _ _=>False) s):wpAny M A t (Post c k R Q b) E s:=
 wpAny_mono w (fun _ _ z=>z.back x) fun _ _ z=>z.elim
noncomputable def Op1 {W₀:Wld} (c:Cx W₀) {α β:Type} (R:Heap → β → α → Prop) (f:Value → Sem α) (x:AV) (σ:St) (Q:β → St → Prop):Prop:=
 ∀ b k s v,Sim c b k σ s → c.VR b x v → wpAny (model c.prog c.w) c.A (f v) (Post c k R Q b) (fun _ _=>False) s
noncomputable def Op2 {W₀:Wld} (c:Cx W₀) {α β:Type} (R:Heap → β → α → Prop) (f:Value → Value → Sem α) (x y:AV) (σ:St) (Q:β → St → Prop):Prop:=
 ∀ b k s v u,Sim c b k σ s → c.VR b x v → c.VR b y u → wpAny (model c.prog c.w) c.A (f v u) (Post c k R Q b) (fun _ _=>False) s
noncomputable def Op3 {W₀:Wld} (c:Cx W₀) {α β:Type} (R:Heap → β → α → Prop) (f:Value → Value → Value → Sem α) (x y z:AV) (σ:St) (Q:β → St → Prop):Prop:=
 ∀ b k s v u t,Sim c b k σ s → c.VR b x v → c.VR b y u → c.VR b z t → wpAny (model c.prog c.w) c.A (f v u t) (Post c k R Q b) (fun _ _=>False) s
section
variable {W₀:Wld} {c:Cx W₀} {σ:St} {Q:AV → St → Prop}
noncomputable def UR (_:Heap) (_ _:Unit):Prop:=True
noncomputable def BR (_:Heap) (y v:Bool):Prop:=v = y
/-! what is still to do,by name -/
noncomputable abbrev kE {W₀:Wld} (c:Cx W₀) (e:Expr) (K:AV → AV → St → Prop) (a:AV) (σ:St):Prop:=Ev c e σ (K a)
noncomputable abbrev kB {W₀:Wld} (c:Cx W₀) (f:Value → Value → Sem Value) (Q:AV → St → Prop) (a b:AV) (σ:St):Prop:=Op2 c c.VR f a b σ Q
noncomputable abbrev kU {W₀:Wld} (c:Cx W₀) (f:Value → Sem Value) (Q:AV → St → Prop) (a:AV) (σ:St):Prop:=Op1 c c.VR f a σ Q
noncomputable abbrev kT {W₀:Wld} (c:Cx W₀) (P:Bool → St → Prop) (a:AV) (σ:St):Prop:=Op1 c BR truthy a σ P
noncomputable abbrev kTt {W₀:Wld} (c:Cx W₀) (P:AV → Bool → St → Prop) (a:AV) (σ:St):Prop:=Op1 c BR truthy a σ (P a)
noncomputable abbrev kIe {W₀:Wld} (c:Cx W₀) (x y:Expr) (Q:AV → St → Prop) (d:Bool) (σ:St):Prop:=if d then Ev c x σ Q else Ev c y σ Q
noncomputable abbrev kAn {W₀:Wld} (c:Cx W₀) (y:Expr) (K Q:AV → St → Prop) (a:AV) (d:Bool) (σ:St):Prop:=if d then Ev c y σ K else Q a σ
noncomputable abbrev kNt (P:Bool → St → Prop) (d:Bool) (σ:St):Prop:=P (!d) σ
noncomputable abbrev kCo {α:Type} (P:List α → St → Prop) (a:α) (as:List α) (σ:St):Prop:=P (a :: as) σ
noncomputable abbrev kIf {W₀:Wld} (c:Cx W₀) (x y:List Stmt) (P:AF → St → Prop) (d:Bool) (σ:St):Prop:=if d then Exs c x σ P else Exs c y σ P
noncomputable abbrev kS {W₀:Wld} (c:Cx W₀) (ts:List Stmt) (P:AF → St → Prop) (f:AF) (σ:St):Prop:=match f with | .next=>Exs c ts σ P | f=>P f σ
noncomputable abbrev kN (P:AF → St → Prop) (_:Unit) (σ:St):Prop:=P .next σ
noncomputable abbrev kX (P:AF → St → Prop) (_:AV) (σ:St):Prop:=P .next σ
noncomputable abbrev kR (P:AF → St → Prop) (a:AV) (σ:St):Prop:=P (.ret a) σ
theorem Ev.int {i:Int} {k pos} (h:Q (.int i) σ):Ev c (.Constant (.int i) k pos) σ Q:=fun _ _ _ S=>wpAny_Constant_int (Post.at (R:=c.VR) (y:=.int i) (S.toks _) ⟨_,rfl⟩ h)
theorem Ev.str {x:PySem.Str} {k pos} (h:Q (.str x.cps.toList) σ) (hx:okS x.cps.toList = true:=by decide +kernel):Ev c (.Constant (.str x) k pos) σ Q:=fun _ _ _ S=>wpAny_Constant_str (Post.at (R:=c.VR) (y:=.str x.cps.toList) (S.toks _) ⟨_,rfl,hx⟩ h)
theorem Ev.bool {x:Bool} {k pos} (h:Q (.bool x) σ):Ev c (.Constant (.bool x) k pos) σ Q:=fun _ _ _ S=>wpAny_Constant_bool (Post.at (R:=c.VR) (y:=.bool x) S rfl h)
theorem Ev.none {k pos} (h:Q .none σ):Ev c (.Constant .none k pos) σ Q:=fun _ _ _ S=>wpAny_Constant_none (Post.at (R:=c.VR) (y:=.none) S rfl h)
theorem Ev.loc {x:PySem.Str} {pos} {a:AV} (hx:c.env.kindOf x = some .local) (ha:σ.m.lookup x = some a) (h:Q a σ) (hd:(x == ("__debug__" : PySem.Str)) = false:=by decide):Ev c (.Name x pos) σ Q:=fun b k s S=>by
 obtain ⟨m,hn,r⟩:=S.ns
 obtain ⟨v,e,z⟩:=r x a ha
 exact wpAny_Name (wpAny_loadName_local c.hk hx hn e (Post.at (R:=c.VR) S z h)) hd
theorem Ev.cel {x:PySem.Str} {pos} {a:AV} {ca:Addr} (hx:c.env.kindOf x = some .cell) (hc:c.env.cells.lookup x = some ca) (ha:σ.cl.lookup x = some a) (h:Q a σ) (hd:(x == ("__debug__" : PySem.Str)) = false:=by decide) :
  Ev c (.Name x pos) σ Q:=fun b k s S=>by
 obtain ⟨⟨v,i,r,_⟩,_⟩:=S.cells x ca hc
 obtain ⟨u,rfl,z⟩:=r a ha
 exact wpAny_Name (wpAny_loadName_cell c.hk hx hc i (Post.at (R:=c.VR) S z h)) hd
noncomputable def Glb {W₀:Wld} (c:Cx W₀) (x:PySem.Str) (v:Value):Prop:=∃ mg,c.g0.Ns mainGlobals mg ∧ mg x = some v
noncomputable def Blt {W₀:Wld} (c:Cx W₀) (x:PySem.Str) (v:Value):Prop:=∃ mg mb,c.g0.Ns mainGlobals mg ∧ mg x = none ∧ c.g0.Ns builtinsNs mb ∧ mb x = some v
theorem Ev.glb {x:PySem.Str} {pos} {a:AV} {v:Value} (hx:c.env.kindOf x = some .globalImplicit) (hg:Glb c x v) (ha:∀ b,c.VR b a v) (h:Q a σ) (hd:(x == ("__debug__" : PySem.Str)) = false:=by decide):Ev c (.Name x pos) σ Q:=fun b k s S=>by
 obtain ⟨mg,hn,e⟩:=hg
 refine Name_function_global c.hk hx (loadGlobal_global (mg:=mg) ?_ e (Post.at (R:=c.VR) S (ha _) h)) hd
 rw [c.hg]
 exact hn.keeps (stays_trans S.g0 S.kb)
theorem Ev.blt {x:PySem.Str} {pos} {a:AV} {v:Value} (hx:c.env.kindOf x = some .globalImplicit) (hg:Blt c x v) (ha:∀ b,c.VR b a v) (h:Q a σ) (hd:(x == ("__debug__" : PySem.Str)) = false:=by decide):Ev c (.Name x pos) σ Q:=fun b k s S=>by
 obtain ⟨mg,mb,hn,e,hb,e'⟩:=hg
 refine Name_function_global c.hk hx (loadGlobal_builtin (mg:=mg) (mb:=mb) ?_ e ?_ e' (Post.at (R:=c.VR) S (ha _) h)) hd
 ·rw [c.hg];exact hn.keeps (stays_trans S.g0 S.kb)
 ·rw [c.hb];exact hb.keeps (stays_trans S.g0 S.kb)
theorem Ev.binop {l op r pos} (h:Ev c l σ (kE c r (kB c (binaryOp op) Q))):Ev c (.BinOp l op r pos) σ Q:=fun b k s S=>by
 refine wpAny_BinOp (gst (h b k s S) (fun b₁ a σ₁ v s₁ t₁ S₁ r₁ h₁=>?_))
 refine gst (h₁ b₁ k s₁ S₁) (fun b₂ a₂ σ₂ u s₂ t₂ S₂ r₂ h₂=>?_)
 exact glst (stays_trans t₁ t₂) (h₂ b₂ k s₂ v u S₂ (VR.mono t₂ _ r₁) r₂)
theorem Ev.cmp {l op r pos} (h:Ev c l σ (kE c r (kB c (compareOp op) Q))) (hm:behindInMarks op r = false:=by with_unfolding_all rfl):Ev c (.Compare l [op] [r] pos) σ Q:=fun b k s S=>by
 refine wpAny_Compare1 (gst (h b k s S) (fun b₁ a σ₁ v s₁ t₁ S₁ r₁ h₁=>?_)) hm
 refine gst (h₁ b₁ k s₁ S₁) (fun b₂ a₂ σ₂ u s₂ t₂ S₂ r₂ h₂=>?_)
 exact glst (stays_trans t₁ t₂) (h₂ b₂ k s₂ v u S₂ (VR.mono t₂ _ r₁) r₂)
theorem Ev.una {op x pos} (h:Ev c x σ (kU c (unaryOp op) Q)):Ev c (.UnaryOp op x pos) σ Q:=fun b k s S=>
 wpAny_UnaryOp (gst (h b k s S) (fun b₁ a σ₁ v s₁ t₁ S₁ r₁ h₁=>glst t₁ (h₁ b₁ k s₁ v S₁ r₁)))
theorem Ev.ife {t x y pos} (h:Tr c t σ (kIe c x y Q)):Ev c (.IfExp t x y pos) σ Q:=fun b k s S=>by
 refine wpAny_IfExp (gst (h b k s S) (fun b₁ a σ₁ v s₁ t₁ S₁ r₁ h₁=>?_))
 subst r₁
 cases v with
 | true=>exact glst t₁ (h₁ b₁ k s₁ S₁)
 | false=>exact glst t₁ (h₁ b₁ k s₁ S₁)
theorem boolOp_cons {op:BoolOp} {pos:Pos} {t t':Sem Value} {ts:List (Sem Value)} (h:Go c c.VR t σ fun a σ₁=>Op1 c BR truthy a σ₁ fun d σ₂=>if d = (op == .Or) then Q a σ₂ else Go c c.VR (boolOp pos op (t' :: ts)) σ₂ Q) :
  Go c c.VR (boolOp pos op (t :: t' :: ts)) σ Q:=fun b k s S=>by
 show wpAny _ _ (t >>= fun v=>standAt pos >>= fun _=>holding [v] (truthy v) >>= fun d=>match op,d with | .And,false | .Or,true=>pure v | _,_=>boolOp pos op (t' :: ts)) _ _ s
 refine wpAny_bind (gst (h b k s S) (fun b₁ a σ₁ v s₁ t₁ S₁ r₁ h₁=>wpAny_bind (wpAny_standAt (wpAny_bind (wpAny_holding ?_)))))
 refine gst (h₁ b₁ k s₁ v S₁ r₁) (fun b₂ d' σ₂ d s₂ t₂ S₂ r₂ h₂=>?_)
 subst r₂
 have fin:Q a σ₂ → wpAny (model c.prog c.w) c.A (pure v) (Post c k c.VR Q b) (fun _ _=>False) s₂:=fun q=>wpAny_pure (Post.back (stays_trans t₁ t₂) (Post.at (R:=c.VR) S₂ (VR.mono t₂ _ r₁) q))
 have go:Go c c.VR (boolOp pos op (t' :: ts)) σ₂ Q → wpAny (model c.prog c.w) c.A (boolOp pos op (t' :: ts)) (Post c k c.VR Q b) (fun _ _=>False) s₂:=fun g=>
  glst (stays_trans t₁ t₂) (g b₂ k s₂ S₂)
 cases op <;> cases d <;> first | exact fin h₂ | exact go h₂
theorem Ev.bop {op x y xs pos} (h:Go c c.VR (boolOp pos op (evalEach (x :: y :: xs) c.env)) σ Q):Ev c (.BoolOp op (x :: y :: xs) pos) σ Q:=fun b k s S=>h b k s S
section
variable {P:Bool → St → Prop}
theorem Tr.cmp {l op r pos} (h:Ev c l σ (kE c r (kB c (compareOp op) (kT c P)))) (hm:behindInMarks op r = false:=by with_unfolding_all rfl):Tr c (.Compare l [op] [r] pos) σ P:=fun b k s S=>by
 refine wpAny_isTrue_Compare1 (gst (h b k s S) (fun b₁ a σ₁ v s₁ t₁ S₁ r₁ h₁=>?_)) hm
 refine gst (h₁ b₁ k s₁ S₁) (fun b₂ a₂ σ₂ u s₂ t₂ S₂ r₂ h₂=>?_)
 refine gst (h₂ b₂ k s₂ v u S₂ (VR.mono t₂ _ r₁) r₂) (fun b₃ a₃ σ₃ z s₃ t₃ S₃ r₃ h₃=>?_)
 exact glst (stays_trans t₁ (stays_trans t₂ t₃)) (h₃ b₃ k s₃ z S₃ r₃)
theorem Tr.not {x pos} (h:Tr c x σ (kNt P)):Tr c (.UnaryOp .Not x pos) σ P:=fun b k s S=>
 wpAny_isTrue_Not (gst (h b k s S) (fun b₁ a σ₁ v s₁ t₁ S₁ r₁ h₁=>by subst r₁;exact ⟨b₁,!v,σ₁,t₁,S₁,rfl,h₁⟩))
noncomputable abbrev All {W₀:Wld} (c:Cx W₀) (op:BoolOp) (xs:List Expr) (σ:St) (P:Bool → St → Prop):Prop:=Go c (fun _ y v=>v = y) (allTrue op xs c.env) σ P
theorem Tr.bop {op xs pos} (h:All c op xs σ P):Tr c (.BoolOp op xs pos) σ P:=fun b k s S=>wpAny_isTrue_BoolOp (h b k s S)
theorem All.andC {x xs} (h:Tr c x σ fun d σ₁=>if d then All c .And xs σ₁ P else P false σ₁):All c .And (x :: xs) σ P:=fun b k s S=>by
 refine wpAny_allTrue_And_cons (gst (h b k s S) (fun b₁ a σ₁ v s₁ t₁ S₁ r₁ h₁=>?_))
 subst r₁
 cases v with
 | true=>exact glst t₁ (h₁ b₁ k s₁ S₁)
 | false=>exact ⟨b₁,false,σ₁,t₁,S₁,rfl,h₁⟩
theorem All.orC {x xs} (h:Tr c x σ fun d σ₁=>if d then P true σ₁ else All c .Or xs σ₁ P):All c .Or (x :: xs) σ P:=fun b k s S=>by
 refine wpAny_allTrue_Or_cons (gst (h b k s S) (fun b₁ a σ₁ v s₁ t₁ S₁ r₁ h₁=>?_))
 subst r₁
 cases v with
 | true=>exact ⟨b₁,true,σ₁,t₁,S₁,rfl,h₁⟩
 | false=>exact glst t₁ (h₁ b₁ k s₁ S₁)
theorem All.andN (h:P true σ):All c .And [] σ P:=fun b k s S=>wpAny_pure ⟨b,true,σ,stays_refl _,S,rfl,h⟩
theorem All.orN (h:P false σ):All c .Or [] σ P:=fun b k s S=>wpAny_pure ⟨b,false,σ,stays_refl _,S,rfl,h⟩
theorem Tr.val {e} (h:Ev c e σ (kT c P)) (he:isTrue e c.env (eval e c.env) = (do let v ← eval e c.env;standAt e.pos;holding [v] (truthy v)):=by rfl):Tr c e σ P:=fun b k s S=>
 wpAny_isTrue_value (gst (h b k s S) (fun b₁ a σ₁ v s₁ t₁ S₁ r₁ h₁=>glst t₁ (h₁ b₁ k s₁ v S₁ r₁))) he
end
noncomputable abbrev Sps {W₀:Wld} (c:Cx W₀) (ts:List (Bool × Sem Value)) (σ:St) (P:List AV → St → Prop):Prop:=Go c c.VRs (spliced ts) σ P
theorem Sps.nil {P:List AV → St → Prop} (h:P [] σ):Sps c [] σ P:=fun b k s S=>wpAny_pure ⟨b,[],σ,stays_refl _,S,rfl,h⟩
theorem Sps.cons {P:List AV → St → Prop} {t ts} (h:Go c c.VR t σ fun a σ₁=>Sps c ts σ₁ fun as σ₂=>P (a :: as) σ₂):Sps c ((false,t) :: ts) σ P:=fun b k s S=>by
 unfold spliced
 refine wpAny_bind (gst (h b k s S) (fun b₁ a σ₁ v s₁ t₁ S₁ r₁ h₁=>?_))
 refine wpAny_bind (wpAny_pure (wpAny_bind (wpAny_holding ?_)))
 refine gst (h₁ b₁ k s₁ S₁) (fun b₂ as σ₂ vs s₂ t₂ S₂ r₂ h₂=>?_)
 exact wpAny_pure ⟨b₂,a :: as,σ₂,stays_trans t₁ t₂,S₂,⟨v,vs,rfl,VR.mono t₂ _ r₁,r₂⟩,h₂⟩
theorem Ev.tup {elts n pos} (h:Sps c (backTo pos (starEach elts c.env)) σ fun as σ₁=>as.length ≤ sizeLine ∧ Q (.tup as) σ₁):Ev c (.Tuple elts n pos) σ Q:=fun b k s S=>by
 refine wpAny_Tuple_spliced (gst (h b k s S) (fun b₁ as σ₁ vs s₁ t₁ S₁ r₁ ⟨hl,h₁⟩=>⟨(VRs.length r₁).symm ▸ hl,?_⟩))
 obtain ⟨st,g,S₂⟩:=S₁.newFrozen { cls:=.type "tuple",data:=.seq vs.toArray }
 exact ⟨_,.tup as,_,stays_trans t₁ st,S₂,⟨_,vs,rfl,⟨0,g⟩,VRs.mono st _ r₁⟩,h₁⟩
theorem Ev.lstF {elts pos} (h:Sps c (backTo pos (starEach elts c.env)) σ fun as σ₁=>as.length ≤ sizeLine ∧ Q (.lst as) σ₁):Ev c (.List elts pos) σ Q:=fun b k s S=>by
 refine wpAny_List_spliced (gst (h b k s S) (fun b₁ as σ₁ vs s₁ t₁ S₁ r₁ ⟨hl,h₁⟩=>⟨(VRs.length r₁).symm ▸ hl,?_⟩))
 obtain ⟨st,g,S₂⟩:=S₁.newFrozen { cls:=.type "list",data:=.seq vs.toArray }
 exact ⟨_,.lst as,_,stays_trans t₁ st,S₂,⟨_,vs,rfl,⟨0,g⟩,VRs.mono st _ r₁⟩,h₁⟩
theorem Ev.lstL {elts pos} (h:Sps c (backTo pos (starEach elts c.env)) σ fun as σ₁=>as.length ≤ sizeLine ∧ ∀ a,(∀ q ∈ σ₁.H,q.1 ≠ a) → Q (.ref a) { σ₁ with H:=(a,.list as) :: σ₁.H }):Ev c (.List elts pos) σ Q:=fun b k s S=>by
 refine wpAny_List_spliced (gst (h b k s S) (fun b₁ as σ₁ vs s₁ t₁ S₁ r₁ ⟨hl,h₁⟩=>⟨(VRs.length r₁).symm ▸ hl,?_⟩))
 exact ⟨b₁,.ref _,_,t₁,S₁.newLed (y:=.list as) ⟨vs,⟨0,Heap.get?_push_size _ rfl⟩,r₁⟩,rfl,h₁ _ S₁.fresh.2.2.2.1⟩
end
section
variable {W₀:Wld} {c:Cx W₀} {σ:St} {P:AF → St → Prop}
theorem Exs.nil (h:P .next σ):Exs c [] σ P:=fun b k s S=>wpAny_execs_nil (Post.at (R:=FR c) (y:=.next) S rfl h)
theorem Exs.cons {t ts} (h:Ex c t σ (kS c ts P)):Exs c (t :: ts) σ P:=fun b k s S=>by
 refine wpAny_execs_cons (gst (h b k s S) (fun b₁ f σ₁ fl s₁ t₁ S₁ r₁ h₁=>?_))
 cases f with
 | next=>rw [show fl = .next from r₁];exact glst t₁ (h₁ b₁ k s₁ S₁)
 | brk=>rw [show fl = .brk from r₁];exact ⟨b₁,.brk,σ₁,t₁,S₁,rfl,h₁⟩
 | cont=>rw [show fl = .cont from r₁];exact ⟨b₁,.cont,σ₁,t₁,S₁,rfl,h₁⟩
 | ret a=>obtain ⟨v,rfl,z⟩:=r₁;exact ⟨b₁,.ret a,σ₁,t₁,S₁,⟨v,rfl,z⟩,h₁⟩
theorem Ex.ret {e pos} (h:Ev c e σ (kR P)):Ex c (.Return (some e) pos) σ P:=fun b k s S=>
 wpAny_Return_some (gst (h b k s S) (fun b₁ a σ₁ v s₁ t₁ S₁ r₁ h₁=>⟨b₁,.ret a,σ₁,t₁,S₁,⟨v,rfl,r₁⟩,h₁⟩))
theorem Ex.brk {pos} (h:P .brk σ):Ex c (.Break pos) σ P:=fun b k s S=>wpAny_Break (Post.at (R:=FR c) (y:=.brk) S rfl h)
theorem Ex.con {pos} (h:P .cont σ):Ex c (.Continue pos) σ P:=fun b k s S=>wpAny_Continue (Post.at (R:=FR c) (y:=.cont) S rfl h)
theorem Ex.exp {e pos} (h:Ev c e σ (kX P)) (hi:interactive c.env = false:=by rfl) (hs:swapsWith e none pos.line c.env = pure false:=by rfl):Ex c (.Expr e pos) σ P:=fun b k s S=>
 wpAny_Expr_any (gst (h b k s S) (fun b₁ a σ₁ v s₁ t₁ S₁ r₁ h₁=>⟨b₁,.next,σ₁,t₁,S₁,rfl,h₁⟩)) hi hs
theorem Ex.ifs {t x y pos} (h:Tr c t σ (kIf c x y P)):Ex c (.If t x y pos) σ P:=fun b k s S=>by
 refine wpAny_If (gst (h b k s S) (fun b₁ a σ₁ v s₁ t₁ S₁ r₁ h₁=>?_))
 subst r₁
 cases v with
 | true=>exact glst t₁ (h₁ b₁ k s₁ S₁)
 | false=>exact glst t₁ (h₁ b₁ k s₁ S₁)
noncomputable abbrev Sto {W₀:Wld} (c:Cx W₀) (x:PySem.Str) (a:AV) (σ:St) (P:Unit → St → Prop):Prop:=Op1 c UR (storeName c.env x) a σ P
theorem Sto.loc {x:PySem.Str} {a:AV} {P:Unit → St → Prop} (hx:c.env.kindOf x = some .local) (h:P () { σ with m:=(x,a) :: σ.m }) (hz:c.fz = false:=by rfl):Sto c x a σ P:=fun b k s v S r=>by
 obtain ⟨m,hn,q⟩:=S.ns
 refine wpAny_storeName_local hx hn (fun h' hn' hs=>⟨b,(),_,stays_refl _,S.local hn' hs (fun y z e=>?_) _ hz,trivial,h⟩) (by rw [c.hk];rfl)
 rw [List.lookup_cons] at e
 by_cases hy:y = x
 ·subst hy
  rw [beq_self_eq_true] at e
  cases e
  exact ⟨v,if_pos rfl,r⟩
 ·rw [show (y == x) = false from beq_eq_false_iff_ne.mpr hy] at e
  obtain ⟨u,e',z'⟩:=q y z e
  exact ⟨u,(if_neg hy).trans e',z'⟩
theorem Sto.cel {x:PySem.Str} {a:AV} {ca:Addr} {P:Unit → St → Prop} (hx:c.env.kindOf x = some .cell) (hc:c.env.cells.lookup x = some ca) (hro:c.ro x = false) (h:P () { σ with cl:=(x,a) :: σ.cl }):Sto c x a σ P:=fun b k s v S r=>by
 obtain ⟨⟨u,i,_⟩,_⟩:=S.cells x ca hc
 exact wpAny_storeName_cell c.hk hx hc i fun h' hv hs=>⟨b,(),_,stays_refl _,S.cell hc hv hs r hro,trivial,h⟩
noncomputable abbrev kSt {W₀:Wld} (c:Cx W₀) (x:PySem.Str) (P:AF → St → Prop) (a:AV) (σ:St):Prop:=Sto c x a σ (kN P)
theorem Ex.asg {x pos' e pos} (h:Ev c e σ (kSt c x P)) (hs:swapsWith e (some (.Name x pos')) pos.line c.env = pure false:=by rfl):Ex c (.Assign [.Name x pos'] e pos) σ P:=fun b k s S=>by
 refine wpAny_Assign_Name (gst (h b k s S) (fun b₁ a σ₁ v s₁ t₁ S₁ r₁ h₁=>?_)) hs
 exact gst (h₁ b₁ k s₁ v S₁ r₁) (fun b₂ _ σ₂ _ s₂ t₂ S₂ _ h₂=>⟨b₂,.next,σ₂,stays_trans t₁ t₂,S₂,rfl,h₂⟩)
noncomputable abbrev Asn {W₀:Wld} (c:Cx W₀) (t:Expr) (a:AV) (σ:St) (P:Unit → St → Prop):Prop:=Op1 c UR (assign t c.env) a σ P
theorem Asn.name {x pos a} {P:Unit → St → Prop} (h:Sto c x a σ P):Asn c (.Name x pos) a σ P:=fun b k s v S r=>wpAny_assign_Name (h b k s v S r)
theorem Ex.aug {x pos' op e pos} (h:Go c c.VR (loadName c.env x) σ (kE c e (kB c (inplaceOp op) (kSt c x P)))):Ex c (.AugAssign (.Name x pos') op e pos) σ P:=fun b k s S=>by
 refine wpAny_AugAssign_Name (gst (h b k s S) (fun b₁ a σ₁ v s₁ t₁ S₁ r₁ h₁=>?_))
 refine gst (h₁ b₁ k s₁ S₁) (fun b₂ a₂ σ₂ u s₂ t₂ S₂ r₂ h₂=>?_)
 refine gst (h₂ b₂ k s₂ v u S₂ (VR.mono t₂ _ r₁) r₂) (fun b₃ a₃ σ₃ z s₃ t₃ S₃ r₃ h₃=>?_)
 exact gst (h₃ b₃ k s₃ z S₃ r₃) (fun b₄ _ σ₄ _ s₄ t₄ S₄ _ h₄=>⟨b₄,.next,σ₄,stays_trans t₁ (stays_trans t₂ (stays_trans t₃ t₄)),S₄,rfl,h₄⟩)
theorem Ld.loc {x:PySem.Str} {a:AV} {Q:AV → St → Prop} (hx:c.env.kindOf x = some .local) (ha:σ.m.lookup x = some a) (h:Q a σ):Go c c.VR (loadName c.env x) σ Q:=fun b k s S=>by
 obtain ⟨m,hn,r⟩:=S.ns
 obtain ⟨v,e,z⟩:=r x a ha
 exact wpAny_loadName_local c.hk hx hn e (Post.at (R:=c.VR) S z h)
noncomputable abbrev kFn (σ:St) (Q:AV → St → Prop) (fl:AF) (σ':St):Prop:=match fl with | .ret a=>Q a { σ with H:=σ'.H } | _=>Q .none { σ with H:=σ'.H }
noncomputable abbrev kXn (σ:St) (X:St → Prop) (σ':St):Prop:=X { σ with H:=σ'.H }
noncomputable abbrev kBd {W₀:Wld} (c:Cx W₀) (body:List Stmt) (K:AF → St → Prop) (_:Unit) (σ:St):Prop:=Exs c body σ K
noncomputable abbrev kLp (W:AF → St → Prop) (I:St → Prop) (f:AF) (σ:St):Prop:=match f with
 | .next | .cont=>I σ
 | .brk=>W .next σ
 | .ret a=>W (.ret a) σ
noncomputable abbrev kWl {W₀:Wld} (c:Cx W₀) (body:List Stmt) (W:AF → St → Prop) (I:St → Prop) (d:Bool) (σ:St):Prop:=if d then Exs c body σ (kLp W I) else W .next σ
noncomputable abbrev kAs {W₀:Wld} (c:Cx W₀) (t:Expr) (P:AF → St → Prop) (a:AV) (σ:St):Prop:=Asn c t a σ (kN P)
end
end Lw
end
section
open PySem PySem.Calls PySem.W PyProof.Rows
namespace Lw
theorem mkS_append (a b:List Nat):mkS a ++ mkS b = mkS (a ++ b):=by
 apply PySem.Str.ext'
 rw [PySem.Str.cps_append]
 simp [mkS]
@[simp] theorem mkS_length (a:List Nat):(mkS a).length = a.length:=by simp [mkS,PySem.Str.length]
theorem min_of (a n:Nat):min a n + (a - n) = a:=by rw [Nat.add_comm];exact Nat.sub_add_min_cancel a n
noncomputable def clipI (n:Nat) (d:Int):Option Int → Int
 | none=>d
 | some i=>max 0 (min (if i < 0 then i + n else i) n)
noncomputable def slc {α:Type} (l:List α) (lo hi:Option Int):List α:=(l.drop (clipI l.length 0 lo).toNat).take ((clipI l.length l.length hi) - (clipI l.length 0 lo)).toNat
theorem clipI_in (n:Nat) (d:Int) (h:0 ≤ d ∧ d ≤ n):∀ o:Option Int,0 ≤ clipI n d o ∧ clipI n d o ≤ n
 | none=>h
 | some i=>⟨Int.le_max_left _ _,Int.max_le.mpr ⟨Int.natCast_nonneg n,Int.min_le_right _ _⟩⟩
theorem clipI_lo (n:Nat) (o:Option Int):0 ≤ clipI n 0 o ∧ clipI n 0 o ≤ n:=clipI_in n 0 ⟨Int.le_refl 0,Int.natCast_nonneg n⟩ o
theorem clipI_hi (n:Nat) (o:Option Int):0 ≤ clipI n n o ∧ clipI n n o ≤ n:=clipI_in n n ⟨Int.natCast_nonneg n,Int.le_refl _⟩ o
theorem clipN {n i:Nat} (d:Int) (h:i ≤ n):clipI n d (some (i:Int)) = i:=by
 unfold clipI
 dsimp only
 rw [if_neg (Int.not_lt.mpr (Int.natCast_nonneg i)),Int.min_eq_left (Int.ofNat_le.mpr h),Int.max_eq_right (Int.natCast_nonneg i)]
theorem clipB {n i:Nat} (d:Int) (h:n ≤ i):clipI n d (some (i:Int)) = n:=by
 unfold clipI
 dsimp only
 rw [if_neg (Int.not_lt.mpr (Int.natCast_nonneg i)),Int.min_eq_right (Int.ofNat_le.mpr h),Int.max_eq_right (Int.natCast_nonneg n)]
theorem clipM {k:Nat} (m:Nat) (d:Int) (h:0 < k):clipI (m + k) d (some (-(k:Int))) = m:=by
 unfold clipI
 dsimp only
 rw [if_pos (Int.neg_neg_of_pos (Int.ofNat_lt.mpr h)),show -(k:Int) + ((m + k:Nat):Int) = m by lia,Int.min_eq_left (Int.ofNat_le.mpr (Nat.le_add_right m k)),Int.max_eq_right (Int.natCast_nonneg m)]
theorem pick_range {α:Type} (l:List α) (a k:Nat) (h:a + k ≤ l.length):((List.range k).map fun i=>a + i).filterMap (l[·]?) = (l.drop a).take k:=by
 induction k with
 | zero=>simp
 | succ k ih=>
  rw [List.range_succ,List.map_append,List.filterMap_append,ih (by lia),List.take_add_one,List.map_singleton]
  congr 1
  rw [List.getElem?_drop]
  have:a + k < l.length:=by lia
  simp [this]
theorem sliceRange_pick {α:Type} (l:List α) (a b:Int) (h0:0 ≤ a) (hb:b ≤ l.length) (hb0:0 ≤ b):(sliceRange a b 1).filterMap (l[·]?) = (l.drop a.toNat).take (b - a).toNat:=by
 obtain ⟨a,rfl⟩:=Int.eq_ofNat_of_zero_le h0
 obtain ⟨b,rfl⟩:=Int.eq_ofNat_of_zero_le hb0
 unfold sliceRange
 rw [if_pos (by decide)]
 by_cases hab:(a:Int) < b
 ·have h2:a < b:=Int.ofNat_lt.mp hab
  have e:(fun k:Nat=>((a:Int) + 1 * (k:Int)).toNat) = fun k=>a + k:=funext fun k=>by rw [Int.one_mul];rfl
  have e2:(b:Int) - a + 1 - 1 = ((b - a:Nat):Int):=by rw [Int.add_sub_cancel,Int.ofNat_sub (Nat.le_of_lt h2)]
  rw [if_pos hab,e,Int.ediv_one,e2,← Int.ofNat_sub (Nat.le_of_lt h2),Int.toNat_natCast,Int.toNat_natCast]
  exact pick_range l a (b - a) (by rw [Nat.add_sub_cancel' (Nat.le_of_lt h2)];exact Int.ofNat_le.mp hb)
 ·rw [if_neg hab,Int.toNat_of_nonpos (Int.sub_nonpos_of_le (Int.not_lt.mp hab))];simp
theorem slc_length {α:Type} (l:List α) (lo hi:Option Int):(slc l lo hi).length ≤ l.length:=by
 unfold slc;rw [List.length_take,List.length_drop];exact Nat.le_trans (Nat.min_le_right _ _) (Nat.sub_le _ _)
theorem strIdx_eq (lo hi:Option Int) (n:Nat):Builtin.Str.strSliceIndices lo hi 1 n = sliceRange (clipI n 0 lo) (clipI n n hi) 1:=by
 unfold Builtin.Str.strSliceIndices
 simp only [show (1:Int) > 0 by decide,if_true]
 cases lo <;> cases hi <;> rfl
theorem slice_mkS (l:List Nat) (lo hi:Option Int):Txt.slice (mkS l) lo hi = mkS (slc l lo hi):=by
 have key:((Builtin.Str.strSliceIndices lo hi 1 (mkS l).length).filterMap ((mkS l).cps[·]?)) = slc l lo hi:=by
  rw [strIdx_eq,mkS_length]
  have:=sliceRange_pick l (clipI l.length 0 lo) (clipI l.length l.length hi) (clipI_lo _ _).1 (clipI_hi _ _).2 (clipI_hi _ _).1
  rw [show (fun x=>(mkS l).cps[x]?) = fun x=>l[x]? by funext x;simp [mkS]]
  exact this
 unfold Txt.slice
 split
 ·rename_i h
  have hl:(Builtin.Str.strSliceIndices lo hi 1 (mkS l).length).length = (mkS l).length:=by simpa using h
  congr 1
  rw [strIdx_eq,mkS_length] at hl
  unfold sliceRange at hl
  simp only [show (1:Int) > 0 by decide,if_true,List.length_map,List.length_range] at hl
  have h1:=clipI_lo l.length lo
  have h2:=clipI_hi l.length hi
  unfold slc
  by_cases hn:l.length = 0
  ·have:l = []:=List.length_eq_zero_iff.mp hn
   subst this;simp
  ·split at hl
   ·rw [Int.ediv_one] at hl
    have a0:clipI l.length 0 lo = 0:=by lia
    have b0:clipI l.length l.length hi = l.length:=by lia
    rw [a0,b0];simp
   ·simp at hl;lia
 ·rw [key];rfl
theorem slicePick_eq (vs:List Value) (lo hi:Option Int):slicePick vs.toArray lo hi none = (slc vs lo hi).toArray:=by
 unfold slicePick
 congr 1
 have e:(sliceBounds lo hi none vs.toArray.size) = (clipI vs.length 0 lo,clipI vs.length vs.length hi,1):=by
  unfold sliceBounds
  simp only [List.size_toArray]
  cases lo <;> cases hi <;> rfl
 rw [e]
 have:=sliceRange_pick vs (clipI vs.length 0 lo) (clipI vs.length vs.length hi) (clipI_lo _ _).1 (clipI_hi _ _).2 (clipI_hi _ _).1
 rw [show (fun x=>vs.toArray[x]?) = fun x=>vs[x]? by funext x;simp]
 exact this
section
variable {W₀:Wld} {c:Cx W₀} {σ:St} {Q:AV → St → Prop}
theorem ii {α β:Type} {R:Heap → β → α → Prop} {f:Value → Value → Sem α} {a d:Int} {K:β → St → Prop} (h:∀ b k s t u,Sim c b k σ s → wpAny (model c.prog c.w) c.A (f (.int a t) (.int d u)) (Post c k R K b) (fun _ _=>False) s):Op2 c R f (.int a) (.int d) σ K:=fun b k s _ _ S ⟨t,e⟩ ⟨u,e'⟩=>by subst e e';exact h b k s t u S
theorem ss {α β:Type} {R:Heap → β → α → Prop} {f:Value → Value → Sem α} {a d:List Nat} {K:β → St → Prop} (h:∀ b k s t u,Sim c b k σ s → okS a = true → okS d = true → wpAny (model c.prog c.w) c.A (f (.str (mkS a) t) (.str (mkS d) u)) (Post c k R K b) (fun _ _=>False) s) :
  Op2 c R f (.str a) (.str d) σ K:=fun b k s _ _ S ⟨t,e,o⟩ ⟨u,e',o'⟩=>by subst e e';exact h b k s t u S o o'
theorem O.add {a d:Int} (h:Q (.int (a + d)) σ):Op2 c c.VR (binaryOp .Add) (.int a) (.int d) σ Q:=ii fun _ _ _ _ _ S=>P.add_int (Post.at (R:=c.VR) (y:=.int _) (S.toks _) ⟨_,rfl⟩ h)
theorem O.iadd {a d:Int} (h:Q (.int (a + d)) σ):Op2 c c.VR (inplaceOp .Add) (.int a) (.int d) σ Q:=ii fun _ _ _ _ _ S=>P.iadd_int (Post.at (R:=c.VR) (y:=.int _) (S.toks _) ⟨_,rfl⟩ h)
theorem O.sub {a d:Int} (h:Q (.int (a - d)) σ):Op2 c c.VR (binaryOp .Sub) (.int a) (.int d) σ Q:=ii fun _ _ _ _ _ S=>P.sub_int (Post.at (R:=c.VR) (y:=.int _) (S.toks _) ⟨_,rfl⟩ h)
theorem O.fdiv {a d:Int} (hd:d ≠ 0) (hs:d.natAbs < 1073741824) (h:Q (.int (a.fdiv d)) σ):Op2 c c.VR (binaryOp .FloorDiv) (.int a) (.int d) σ Q:=ii fun _ _ _ _ _ S=>floordiv_int hd (Post.at (R:=c.VR) (y:=.int _) (S.toks _) ⟨_,rfl⟩ h) (.inl (PyProof.noPylong_small hs))
theorem O.fmod {a d:Int} (hd:d ≠ 0) (h:Q (.int (a.fmod d)) σ):Op2 c c.VR (binaryOp .Mod) (.int a) (.int d) σ Q:=ii fun _ _ _ _ _ S=>PyProof.Rows.mod_int' hd (Post.at (R:=c.VR) (y:=.int _) (S.toks _) ⟨_,rfl⟩ h)
theorem O.pow {a d:Int} (hd:0 ≤ d) (hs:(Builtin.Int.intBits a:Int) * d ≤ 2 ^ 27) (h:Q (.int (a ^ d.toNat)) σ):Op2 c c.VR (binaryOp .Pow) (.int a) (.int d) σ Q:=ii fun _ _ _ _ _ S=>pow_int hd hs (Post.at (R:=c.VR) (y:=.int _) (S.toks _) ⟨_,rfl⟩ h)
theorem O.neg {a:Int} (h:Q (.int (-a)) σ):Op1 c c.VR (unaryOp .USub) (.int a) σ Q:=fun _ _ _ _ S ⟨t,e⟩=>by subst e;exact P.neg_int (Post.at (R:=c.VR) (y:=.int _) (S.toks _) ⟨_,rfl⟩ h)
theorem O.eqI {a d:Int} (h:Q (.bool (a == d)) σ):Op2 c c.VR (compareOp .Eq) (.int a) (.int d) σ Q:=ii fun _ _ _ _ _ S=>P.eq_int (Post.at (R:=c.VR) (y:=.bool _) S rfl h)
theorem O.ltI {a d:Int} (h:Q (.bool (decide (a < d))) σ):Op2 c c.VR (compareOp .Lt) (.int a) (.int d) σ Q:=ii fun _ _ _ _ _ S=>P.lt_int (Post.at (R:=c.VR) (y:=.bool _) S rfl h)
theorem O.gtI {a d:Int} (h:Q (.bool (decide (a > d))) σ):Op2 c c.VR (compareOp .Gt) (.int a) (.int d) σ Q:=ii fun _ _ _ _ _ S=>P.gt_int (Post.at (R:=c.VR) (y:=.bool _) S rfl h)
theorem O.geI {a d:Int} (h:Q (.bool (decide (a ≥ d))) σ):Op2 c c.VR (compareOp .GtE) (.int a) (.int d) σ Q:=ii fun _ _ _ _ _ S=>P.ge_int (Post.at (R:=c.VR) (y:=.bool _) S rfl h)
theorem O.addS {a d:List Nat} (hl:a.length + d.length ≤ sizeLine) (h:Q (.str (a ++ d)) σ):Op2 c c.VR (binaryOp .Add) (.str a) (.str d) σ Q:=ss fun _ _ _ _ _ S o o'=>SB.add (fun t' k=>Post.at (R:=c.VR) (y:=.str (a ++ d)) (S.toks _) ⟨_,by rw [mkS_append],okS_append o o'⟩ h) (by simpa using hl)
theorem O.iaddS {a d:List Nat} (hl:a.length + d.length ≤ sizeLine) (h:Q (.str (a ++ d)) σ):Op2 c c.VR (inplaceOp .Add) (.str a) (.str d) σ Q:=ss fun _ _ _ _ _ S o o'=>SB.iadd (fun t' k=>Post.at (R:=c.VR) (y:=.str (a ++ d)) (S.toks _) ⟨_,by rw [mkS_append],okS_append o o'⟩ h) (by simpa using hl)
theorem O.eqS {a d:List Nat} (h:Q (.bool (a == d)) σ):Op2 c c.VR (compareOp .Eq) (.str a) (.str d) σ Q:=ss fun _ _ _ _ _ S o o'=>P.eq_str (Post.at (R:=c.VR) (y:=.bool _) S rfl h)
theorem O.neS {a d:List Nat} (h:Q (.bool (a != d)) σ):Op2 c c.VR (compareOp .NotEq) (.str a) (.str d) σ Q:=ss fun _ _ _ _ _ S o o'=>P.ne_str (Post.at (R:=c.VR) (y:=.bool _) S rfl h)
noncomputable def has (x y:List Nat):Bool:=Txt.contains (mkS x) (mkS y)
theorem O.inS {a d:List Nat} (h:Q (.bool (has d a)) σ):Op2 c c.VR (compareOp .In) (.str a) (.str d) σ Q:=ss fun _ _ _ _ _ S o o'=>SB.contains (Post.at (R:=c.VR) (y:=.bool _) S rfl h)
theorem O.niS {a d:List Nat} (h:Q (.bool (!has d a)) σ):Op2 c c.VR (compareOp .NotIn) (.str a) (.str d) σ Q:=ss fun _ _ _ _ _ S o o'=>SB.notContains (Post.at (R:=c.VR) (y:=.bool _) S rfl h)
section
variable {W:Bool → St → Prop}
theorem T.bool {d:Bool} (h:W d σ):Op1 c BR truthy (.bool d) σ W:=fun _ _ _ _ S e=>by subst e;exact fun _ _ _=>Post.at (R:=BR) (y:=d) S rfl h
theorem T.none (h:W false σ):Op1 c BR truthy .none σ W:=fun _ _ _ _ S e=>by subst e;exact truthy_none (Post.at (R:=BR) (y:=false) S rfl h)
theorem T.str {x:List Nat} (hl:x.length ≤ sizeLine) (h:W (!x.isEmpty) σ):Op1 c BR truthy (.str x) σ W:=fun _ _ _ _ S ⟨t,e,_⟩=>by
 subst e
 refine P.truthy_str (by rw [mkS_length];have:=sizeLine_eq;lia) (Post.at (R:=BR) (y:=!x.isEmpty) (S.toks _) ?_ h)
 show (((mkS x).length:Int) != 0) = _
 rw [mkS_length]
 cases x with
 | nil=>rfl
 | cons a r=>simp;lia
end
end
end Lw
end
section
open PySem PySem.Calls PySem.W PyProof.Rows
set_option maxHeartbeats 1000000
set_option maxRecDepth 20000
namespace Lw
noncomputable def deqO:Obj:={ cls:=.type "collections.deque",data:=.fields #[.none,rawInt 0] }
theorem deq_mro:∃ m,mroOf (.type "collections.deque") = pure (.type "collections.deque" :: m):=⟨[.type "object"],by rw [mroOf_type];kernel_rfl⟩
theorem deq_called:TypeCalled "collections.deque" "collections.deque.__new__" "collections.deque.__init__" where
 notType:=by decide +kernel
 canCreate:=by kernel_rfl
 mro:=let ⟨m,h⟩:=deq_mro;⟨_,m,h⟩
 made:=by kernel_rfl
 plain:=by decide +kernel
 sub:=by rw [isSubtype_type];kernel_rfl
 init:=.of (owner:="collections.deque") (n:="__init__") (by rw [typeLookup_type,builtinLookup_eq_fast];kernel_rfl) (by decide +kernel) (by decide +kernel) (by decide +kernel)
  (by first | exact .inl (by decide +kernel) | exact .inr (by decide +kernel)) (by rw [isSubtype_type];kernel_rfl)
theorem deq_len:Slot "collections.deque" "__len__" "collections.deque.__len__":=
 .of (owner:="collections.deque") (n:="__len__") (by rw [typeLookup_type,builtinLookup_eq_fast];kernel_rfl) (by decide +kernel) (by decide +kernel) (by decide +kernel)
  (by first | exact .inl (by decide +kernel) | exact .inr (by decide +kernel)) (by rw [isSubtype_type];kernel_rfl)
theorem deq_bool:typeLookup (.type "collections.deque") "__bool__" = pure Option.none:=by rw [typeLookup_type,builtinLookup_eq_fast];kernel_rfl
theorem deq_entryN:entryFor table "collections.deque.__new__" = some Builtin.«collections.deque.__new__»:=by first | exact entryFor_of_fast (by kernel_rfl) | exact entryFor_of_tree (by kernel_rfl)
theorem deq_entryI:entryFor table "collections.deque.__init__" = some Builtin.«collections.deque.__init__»:=by first | exact entryFor_of_fast (by kernel_rfl) | exact entryFor_of_tree (by kernel_rfl)
theorem deq_entryL:entryFor table "collections.deque.__len__" = some Builtin.«collections.deque.__len__»:=by first | exact entryFor_of_fast (by kernel_rfl) | exact entryFor_of_tree (by kernel_rfl)
theorem deq_typeCall:checkTypeCall "collections.deque" ⟨[],[]⟩ = pure ():=by kernel_rfl
theorem deq_newCall:checkBuiltinCall "collections.deque.__new__" ⟨[.type "collections.deque"],[]⟩ = pure ():=by kernel_rfl
theorem deq_initOk (v:Value):argsOk "collections.deque.__init__" ⟨[v],[]⟩:=by unfold argsOk;kernel_rfl
theorem deq_lenOk (v:Value):argsOk "collections.deque.__len__" ⟨[v],[]⟩:=by unfold argsOk;kernel_rfl
section
variable {prog:Program} {w:World} {A:Around} {E:Value → Shared → Prop} {s:Shared}
theorem deq_make {QQ:Value → Shared → Prop} (h:∀ h',(∀ b o,s.heap.get? b = some o → h'.get? b = some o) → h'.get? s.heap.objs.size = some deqO → QQ (.ref s.heap.objs.size) { s with heap:=h' }) :
  wpAny (model prog w) A (call (.type "collections.deque") []) QQ E s:=by
 refine callType_codes (Q₁:=fun obj s₁=>obj = .ref s.heap.objs.size ∧ s₁ = { s with heap:=s.heap.push deqO }) deq_called deq_typeCall deq_entryI ?_ fun obj s₁ h₁=>?_
 ·refine codeAny_of_tree ?_
  show wpAny _ _ (do checkBuiltinCall "collections.deque.__new__" ⟨[.type "collections.deque"],[]⟩;again (.builtin "collections.deque.__new__" ⟨[.type "collections.deque"],[]⟩)) _ _ s
  refine wpAny_bind (wpAny_of_eq deq_newCall (wpAny_pure ⟨plainId_quiet deq_called.plain _,codeAny_builtin deq_entryN ?_⟩))
  rw [Around.under_plainId deq_called.plain _]
  have hsub:=deq_called.sub
  have hty:Builtin.Deque.ty = "collections.deque":=rfl
  obtain ⟨hp,g,d,tk,os⟩:=s
  unfold Builtin.«collections.deque.__new__»
  unfold Builtin.Deque.newArgs Builtin.Deque.new
  rw [hty]
  wp_walk
  exact ⟨rfl,rfl⟩
 ·obtain ⟨rfl,rfl⟩:=h₁
  have g:(s.heap.push deqO).get? s.heap.objs.size = some deqO:=Heap.get?_push_size _ rfl
  refine ⟨⟨_,g,rfl⟩,deq_initOk _,?_⟩
  unfold Builtin.«collections.deque.__init__»
  obtain ⟨hp,gg,d,tk,os⟩:=s
  wp_walk
  refine ⟨rfl,h _ (fun b o e=>?_) ?_⟩
  ·exact (Heap.get?_update_other _ _ (Nat.ne_of_gt (Heap.lt_size e))).trans (Heap.get?_push_of_some _ e)
  ·exact Heap.get?_update_self _ g rfl
theorem deq_truthy {a:Addr} {QQ:Bool → Shared → Prop} (g:s.heap.get? a = some deqO) (h:QQ false { s with toks:=s.toks + 1 + 1 }):wpAny (model prog w) A (truthy (.ref a)) QQ E s:=by
 have hT:s.TypeIs (.ref a) "collections.deque":=⟨_,g,rfl⟩
 have key:wpAny (model prog w) A (runValue (.builtin "len" ⟨[.ref a],[]⟩)) (fun r s'=>r = .int 0 (s.toks + 1) ∧ QQ false s') E s:=by
  refine wpAny_runValue (codeAny_builtin entry_len ?_)
  rw [Around.under_plainId plain_len _]
  unfold Builtin.«len»
  refine wpAny_bind (m:=oneArg "len" _) (wpAny_pure ?_)
  refine wpAny_bind (m:=callSpecial? (.ref a) (PySem.Str.ofString "__len__")) (wpAny_callSpecial?_slot (name:=PySem.Str.ofString "__len__") hT deq_len ?_)
  refine wpAny_call_entry deq_len hT deq_entryL ?_ (deq_lenOk _)
  obtain ⟨hp,gg,d,tk,os⟩:=s
  unfold Builtin.«collections.deque.__len__»
  wp_walk
  refine ⟨_,rfl,?_⟩
  dsimp only
  wp_walk
  exact ⟨rfl,h⟩
 unfold truthy
 refine wpAny_bind (wpAny_callSpecial?_none (name:=PySem.Str.ofString "__bool__") hT deq_bool ?_)
 refine wpAny_bind (wpAny_specialOf (name:=PySem.Str.ofString "__len__") hT deq_len.lookup ?_)
 exact wpAny_bind (wpAny_mono key (fun r s' h'=>by obtain ⟨rfl,hq⟩:=h';exact wpAny_pure hq) fun _ _ e=>e)
end
noncomputable def specials:List Nat:=[40,41,91,93,123,125,63,42,43,45,124,94,36,92,46,38,126,35,32,9,10,13,11,12]
noncomputable def esc (x:Nat):List Nat:=if x ∈ specials then [92,x] else [x]
section
variable {prog:Program} {w:World} {A:Around} {E:Value → Shared → Prop} {s:Shared} {d:Addr} {f:Int → Option Value}
theorem lookup_has {x:Nat} {t:Tok} {QQ:Builtin.Str.Mapped → Shared → Prop} (hm:s.heap.MapOf (intKind prog w) d f) (hf:f x = some (.str (mkS [92,x]) t)) (h:QQ (.text (mkS [92,x])) { s with toks:=s.toks + 1 + 1 }) :
  wpAny (model prog w) A (Builtin.Str.tableLookup (.ref d) x) QQ E s:=by
 unfold Builtin.Str.tableLookup
 refine wpAny_bind (wpAny_attempt (wpAny_bind (wpAny_mkInt ?_)))
 refine wpAny_getItem_of (intKind_is _ _ _ _) (s:={ s with toks:=s.toks + 1 }) hm hf ?_
 dsimp only
 wp_walk
 exact h
theorem lookup_not {x:Nat} {QQ:Builtin.Str.Mapped → Shared → Prop} (hd:(d == sysModules) = false) (hh:A.handled = Option.none) (hm:s.heap.MapOf (intKind prog w) d f) (hf:f x = Option.none) (h:∀ h',(∀ b o,s.heap.get? b = some o → h'.get? b = some o) → QQ .keep { s with heap:=h',toks:=s.toks + 1 + 1 }) :
  wpAny (model prog w) A (Builtin.Str.tableLookup (.ref d) x) QQ E s:=by
 unfold Builtin.Str.tableLookup
 refine wpAny_bind (wpAny_attempt (wpAny_bind (wpAny_mkInt ?_)))
 refine wpAny_getItem_missing_of (intKind_is _ _ _ _) (s:={ s with toks:=s.toks + 1 }) hd hh hm hf fun h' e hn=>?_
 dsimp only
 obtain ⟨ob,t,ho,hc,_⟩:=hn.there
 refine wpAny_bind (wpAny_isInstance (T:="KeyError") (b:=true) ⟨ob,ho,hc⟩ (by rw [isSubtype_type];kernel_rfl) ?_)
 first | refine wpI_T rfl ?_ | rw [if_pos rfl]
 exact wpAny_bind (wpAny_rule (wpAny_pure (h h' hn.keeps)))
theorem trans_body {x:Nat} {tk:Tok} {QQ:Fin → Shared → Prop} (hlt:x < 1114112) (hd:(d == sysModules) = false) (hh:A.handled = Option.none) (hm:s.heap.MapOf (intKind prog w) d f)
  (hf:if x ∈ specials then ∃ t,f x = some (.str (mkS [92,x]) t) else f x = Option.none) (h:∀ h' t1 t2,(∀ b o,s.heap.get? b = some o → h'.get? b = some o) → QQ (.done (.ret (.str (mkS (esc x)) t1))) { s with heap:=h',toks:=t2 }) :
  wpAny (model prog w) A (Builtin.«str.translate» ⟨[.str (mkS [x]) tk,.ref d],[]⟩) QQ E s:=by
 unfold Builtin.«str.translate»
 have e1:(mkS [x]).length = 1:=rfl
 have e2:(mkS [x]).cps = #[x]:=rfl
 wp_walk
 have e3:((mkS [x]).cps.all fun x=>decide (x < 128)) = decide (x < 128):=by simp [mkS]
 dsimp only
 rw [e3]
 by_cases hs:x ∈ specials
 ·have hx:x < 128:=by
   have:∀ y ∈ specials,y < 128:=by decide
   exact this x hs
  rw [if_pos hs] at hf
  obtain ⟨t,hf⟩:=hf
  first | refine wpI_T (by simpa using hx) ?_ | rw [if_pos (by simpa using hx)]
  dsimp only [List.lookup]
  refine wpAny_bind (lookup_has (x:=x) hm hf ?_)
  dsimp only
  rw [show ((mkS [92,x]).length == 1 && (mkS [92,x]).cps.all fun x=>decide (x < 128)) = false from rfl]
  (try dsimp only)
  first | refine wpI_F (by decide) ?_ | simp only [Bool.false_eq_true,if_false]
  refine wpAny_bind (wpAny_pure ?_)
  dsimp only
  refine wpAny_bind (wpAny_rule ?_)
  refine wpAny_bind (lookup_has (x:=x) (s:={ s with toks:=s.toks + 1 + 1 }) hm hf ?_)
  dsimp only
  refine wpAny_pure ?_
  wp_walk
  have z:=h s.heap (s.toks + 1 + 1 + 1 + 1) (s.toks + 1 + 1 + 1 + 1 + 1) fun _ _ e=>e
  rw [show esc x = [92,x] from if_pos hs] at z
  exact z
 ·rw [if_neg hs] at hf
  by_cases hx:x < 128
  ·rw [if_pos (by simpa using hx)]
   dsimp only [List.lookup]
   refine wpAny_bind (lookup_not (x:=x) hd hh hm hf fun h' k=>?_)
   dsimp only
   refine wpAny_bind (wpAny_pure ?_)
   dsimp only
   wp_walk
   have z:=h h' (s.toks + 1 + 1) (s.toks + 1 + 1 + 1) k
   rw [show esc x = [x] from if_neg hs] at z
   exact z
  ·rw [if_neg (by simpa using hx)]
   (try dsimp only)
   first | refine wpI_F (by decide) ?_ | simp only [Bool.false_eq_true,if_false]
   refine wpAny_bind (lookup_not (x:=x) hd hh hm hf fun h' k=>?_)
   dsimp only
   refine wpAny_pure ?_
   wp_walk
   have z:=h h' (s.toks + 1 + 1) (s.toks + 1 + 1 + 1) k
   rw [show esc x = [x] from if_neg hs] at z
   exact z
end
theorem esc_ok {x:Nat} (h:x < 1114112):okS (esc x) = true:=by
 unfold esc
 split <;> simp [okS,h]
theorem obj_called:TypeCalled "object" "object.__new__" "object.__init__" where
 notType:=by decide +kernel
 canCreate:=by kernel_rfl
 mro:=⟨.type "object",[],by rw [mroOf_type];kernel_rfl⟩
 made:=by kernel_rfl
 plain:=by decide +kernel
 sub:=by rw [isSubtype_type];kernel_rfl
 init:=.of (owner:="object") (n:="__init__") (by rw [typeLookup_type,builtinLookup_eq_fast];kernel_rfl) (by decide +kernel) (by decide +kernel) (by decide +kernel)
  (by first | exact .inl (by decide +kernel) | exact .inr (by decide +kernel)) (by rw [isSubtype_type];kernel_rfl)
theorem obj_typeCall:checkTypeCall "object" ⟨[],[]⟩ = pure ():=by kernel_rfl
theorem obj_newCall:checkBuiltinCall "object.__new__" ⟨[.type "object"],[]⟩ = pure ():=by kernel_rfl
theorem obj_entryI:entryFor table "object.__init__" = some Builtin.«object.__init__»:=by first | exact entryFor_of_fast (by kernel_rfl) | exact entryFor_of_tree (by kernel_rfl)
theorem obj_initOk (v:Value):argsOk "object.__init__" ⟨[v],[]⟩:=by unfold argsOk;kernel_rfl
section
variable {prog:Program} {w:World} {A:Around} {E:Value → Shared → Prop} {s:Shared}
theorem obj_make {QQ:Value → Shared → Prop} (h:∀ h' o,(∀ b o,s.heap.get? b = some o → h'.get? b = some o) → h'.get? s.heap.objs.size = some o → QQ (.ref s.heap.objs.size) { s with heap:=h' }) :
  wpAny (model prog w) A (call (.type "object") []) QQ E s:=by
 refine callType_codes (Q₁:=fun obj s₁=>obj = .ref s.heap.objs.size ∧ s₁ = { s with heap:=s.heap.push { cls:=.type "object",data:=.plain } }) obj_called obj_typeCall obj_entryI ?_ fun obj s₁ h₁=>?_
 ·refine codeAny_of_tree ?_
  show wpAny _ _ (do checkBuiltinCall "object.__new__" ⟨[.type "object"],[]⟩;again (.builtin "object.__new__" ⟨[.type "object"],[]⟩)) _ _ s
  refine wpAny_bind (wpAny_of_eq obj_newCall (wpAny_pure ⟨plainId_quiet obj_called.plain _,codeAny_builtin (by first | exact F.entry_object_new | exact PySem.W.F.entry_object_new | exact entryFor_of_tree (by kernel_rfl)) ?_⟩))
  rw [Around.under_plainId obj_called.plain _]
  have hsub:=obj_called.sub
  obtain ⟨hp,g,d,tk,os⟩:=s
  unfold Builtin.«object.__new__»
  wp_walk
  dsimp only
  have k1:typeLookup (.type "object") "__new__" = pure (some (.builtin "object.__new__")):=by rw [typeLookup_type,builtinLookup_eq_fast];kernel_rfl
  rw [k1]
  wp_walk
  have k2:¬ ((!"object.__new__".endsWith ".__new__") = true):=by decide +kernel
  first | refine wpI_F k2 ?_ | rw [if_neg k2]
  wp_walk
  exact ⟨rfl,rfl⟩
 ·obtain ⟨rfl,rfl⟩:=h₁
  have g:(s.heap.push { cls:=.type "object",data:=.plain }).get? s.heap.objs.size = some { cls:=.type "object",data:=.plain }:=Heap.get?_push_size _ rfl
  refine ⟨⟨_,g,rfl⟩,obj_initOk _,?_⟩
  obtain ⟨hp,gg,d,tk,os⟩:=s
  unfold Builtin.«object.__init__»
  wp_walk
  exact ⟨rfl,h _ _ (fun b o e=>Heap.get?_push_of_some _ e) g⟩
end
theorem md_get:Slot "method_descriptor" "__get__" "method_descriptor.__get__":=
 .of (owner:="method_descriptor") (n:="__get__") (by rw [typeLookup_type,builtinLookup_eq_fast];kernel_rfl) (by decide +kernel) (by decide +kernel) (by decide +kernel)
  (by first | exact .inl (by decide +kernel) | exact .inr (by decide +kernel)) (by rw [isSubtype_type];kernel_rfl)
theorem md_entry:entryFor table "method_descriptor.__get__" = some Builtin.«method_descriptor.__get__»:=by first | exact entryFor_of_fast (by kernel_rfl) | exact entryFor_of_tree (by kernel_rfl)
theorem md_args (a b c:Value):argsOk "method_descriptor.__get__" ⟨[a,b,c],[]⟩:=by unfold argsOk;kernel_rfl
theorem md_told:Manifest.toldItsClass.contains "list.append" = false:=by decide +kernel
noncomputable def bndO (id:String) (self:Value):Obj:={ cls:=.type "builtin_function_or_method",data:=.fields #[.builtin id,self] }
section
variable {prog:Program} {w:World} {A:Around} {E:Value → Shared → Prop} {h:Heap} {g:Array GenState} {d:Drawn} {t:Nat} {os:OsState} {a:Addr} {xs:Array Value} {n:Nat}
theorem app_lookup:typeLookup (.type "list") "append" = pure (some (.builtin "list.append")):=F.slot_list_append.lookup
theorem app_entry {tk:Tok} {Q:Fin → Shared → Prop} (hx:h.get? a = some { cls:=.type "list",data:=.seq xs n }) (hq:Q (.done (.ret (.ref h.objs.size))) ⟨h.push (bndO "list.append" (.ref a)),g,d,t,os⟩) :
  wpAny (model prog w) A (Builtin.«object.__getattribute__» ⟨[.ref a,.str "append" tk],[]⟩) Q E ⟨h,g,d,t,os⟩:=by
 have hT:(⟨h,g,d,t,os⟩:Shared).TypeIs (.ref a) "list":=⟨_,hx,rfl⟩
 have f4:=app_lookup
 have f5:=F.type_list_append
 have f6:typeLookup (.type "method_descriptor") "__get__" = pure (some (.builtin "method_descriptor.__get__")):=by rw [typeLookup_type,builtinLookup_eq_fast];kernel_rfl
 have f7:typeLookup (.type "method_descriptor") "__set__" = pure Option.none:=by rw [typeLookup_type,builtinLookup_eq_fast];kernel_rfl
 have f8:typeLookup (.type "method_descriptor") "__delete__" = pure Option.none:=by rw [typeLookup_type,builtinLookup_eq_fast];kernel_rfl
 repeat (any_goals (first | assumption | wp_step))
 have hT5:(⟨h,g,d,t,os⟩:Shared).TypeIs (.builtin "list.append") "method_descriptor":=F.type_list_append
 refine codeAny_call_builtin md_get.plain md_entry (md_get.check _ _ _ _ _ _ _ _ hT5 (md_args _ _ _) ?_)
 have f9:=md_told
 have f10:isSubtype (.type "list") (.type "list") = pure true:=by rw [isSubtype_type];kernel_rfl
 repeat (any_goals (first | assumption | wp_step))
 have f11 : ".".intercalate ("list.append".cutAt '.').dropLast = "list":=by decide +kernel
 rw [f11,f10]
 repeat (any_goals (first | assumption | wp_step))
theorem app_call {tk:Tok} {R:Result → Shared → Prop} (hx:h.get? a = some { cls:=.type "list",data:=.seq xs n }) (hq:R (.ok (.ret (.ref h.objs.size))) ⟨h.push (bndO "list.append" (.ref a)),g,d,t,os⟩) :
  codeAny (model prog w) A (.call (.builtin "list.__getattribute__") ⟨[.ref a,.str "append" tk],[]⟩) R ⟨h,g,d,t,os⟩:=
 codeAny_call_builtin F.slot_list_getattribute.plain F.entry_list_ga (F.slot_list_getattribute.check _ _ _ _ _ _ _ _ (show (⟨h,g,d,t,os⟩:Shared).TypeIs (.ref a) "list" from ⟨_,hx,rfl⟩) (F.args_list_getattribute_2 _ _) (app_entry hx hq))
theorem app_by {Q:Value → Shared → Prop} (hx:h.get? a = some { cls:=.type "list",data:=.seq xs n }) (hq:Q (.ref h.objs.size) ⟨h.push (bndO "list.append" (.ref a)),g,d,t + 1,os⟩):wpAny (model prog w) A (getAttr (.ref a) "append" true) Q E ⟨h,g,d,t,os⟩:=by
 have hT:(⟨h,g,d,t + 1,os⟩:Shared).TypeIs (.ref a) "list":=⟨_,hx,rfl⟩
 have f2:=F.slot_list_getattribute.lookup
 have f3:=F.slot_list_getattribute.bind (.ref a)
 unfold getAttr
 repeat (any_goals (first | assumption | wp_step))
 refine app_call hx ?_
 repeat (any_goals (first | assumption | wp_step))
end
theorem app_kind:builtinKind "list.append" = some .method:=by decide +kernel
theorem app_vam:Manifest.varargsMethods.contains "list.append" = false:=by decide +kernel
theorem app_owner:Manifest.owners.lookup (String.ofList ['t','s','i','l'].reverse) = some Manifest.sig_list:=by kernel_rfl
noncomputable def sigApp:Manifest.Signature:=⟨.oneArg, "list.append", "append",.self,[⟨"object",.posOnly,true⟩]⟩
theorem app_sig:Manifest.signature? "list.append" = some sigApp:=by
 rw [signature?_of (id:="list.append") (n:=['d','n','e','p','p','a']) (o:=['t','s','i','l']) (by kernel_rfl) app_owner];kernel_rfl
end Lw
end
section
open PySem PySem.Calls PySem.W PyProof.Rows
namespace Lw
mutual
noncomputable def AV.py:AV → PyData
 | .bool b=>.bool b
 | .int i=>.int i
 | .str l=>.str (mkS l)
 | .tup xs=>.tuple (pys xs)
 | .lst xs=>.list (pys xs)
 | _=>.none
noncomputable def pys:List AV → List PyData
 | []=>[]
 | x :: xs=>x.py :: pys xs
end
mutual
noncomputable def AV.plain:Nat → AV → Bool
 | _,.none | _,.bool _ | _,.int _ | _,.str _=>true
 | d + 1,.tup xs=>plains d xs
 | d + 1,.lst xs=>plains d xs
 | _,_=>false
noncomputable def plains:Nat → List AV → Bool
 | _,[]=>true
 | d,x :: xs=>x.plain d && plains d xs
end
theorem plains_all (d:Nat) (xs:List AV):plains d xs = xs.all (AV.plain d):=by
 induction xs with
 | nil=>rfl
 | cons x xs ih=>simp [plains,ih]
section
variable {p:Program} {w:World} {h:Heap}
theorem canStr {l:List Nat} (o:okS l = true):(PyData.str (mkS l)).canLay0 = true:=by
 show ((mkS l).cps.all _) = true
 simpa [mkS,okS] using o
mutual
theorem VR.reads:∀ (d:Nat) (x:AV) {v:Value},x.plain d = true → VR p w h x v → (∃ as,Reads h v x.py as) ∧ x.py.canLay0 = true ∧ x.py.depth ≤ d
 | _,.none,_=>fun _ e=>⟨⟨[],by rw [show _ = Value.none from e];exact .none⟩,rfl,Nat.zero_le _⟩
 | _,.bool b,_=>fun _ e=>⟨⟨[],by rw [show _ = Value.bool b from e];exact .bool b⟩,rfl,Nat.zero_le _⟩
 | d,.int i,_=>fun _ hZ=>by
  obtain ⟨t,rfl⟩:=hZ
  exact ⟨⟨[],.int i t⟩,rfl,Nat.zero_le _⟩
 | d,.str l,_=>fun _ hZ=>by
  obtain ⟨t,rfl,o⟩:=hZ
  exact ⟨⟨[],.str _ t⟩,canStr o,Nat.zero_le _⟩
 | d,.tup xs,_=>fun q hZ=>by
  cases d with
  | zero=>cases (show false = true from q)
  | succ d=>
   obtain ⟨a,vs,rfl,⟨n,g⟩,r⟩:=hZ
   obtain ⟨⟨as,z⟩,o,l⟩:=VRs.reads d xs q r
   exact ⟨⟨as,.tuple g rfl rfl z⟩,o,Nat.succ_le_succ l⟩
 | d,.lst xs,_=>fun q hZ=>by
  cases d with
  | zero=>cases (show false = true from q)
  | succ d=>
   obtain ⟨a,vs,rfl,⟨n,g⟩,r⟩:=hZ
   obtain ⟨⟨as,z⟩,o,l⟩:=VRs.reads d xs q r
   exact ⟨⟨a :: as,.list g rfl rfl z⟩,o,Nat.succ_le_succ l⟩
 | d,.ref _,_=>fun q _=>absurd (show false = true by cases d <;> exact q) (fun e=>by cases e)
 | d,.bi _,_=>fun q _=>absurd (show false = true by cases d <;> exact q) (fun e=>by cases e)
 | d,.ty _,_=>fun q _=>absurd (show false = true by cases d <;> exact q) (fun e=>by cases e)
 | d,.dct _ _,_=>fun q _=>absurd (show false = true by cases d <;> exact q) (fun e=>by cases e)
 | d,.rng _ _ _,_=>fun q _=>absurd (show false = true by cases d <;> exact q) (fun e=>by cases e)
 | d,.obj _,_=>fun q _=>absurd (show false = true by cases d <;> exact q) (fun e=>by cases e)
theorem VRs.reads:∀ (d:Nat) (xs:List AV) {vs:List Value},plains d xs = true → VRs p w h xs vs → (∃ as,ReadsAll h vs (pys xs) as) ∧ PyData.canLayAll0 (pys xs) = true ∧ PyData.depthAll (pys xs) ≤ d
 | _,[],_,_,e=>⟨⟨[],by rw [show _ = [] from e];exact .nil⟩,rfl,Nat.zero_le _⟩
 | d,x :: xs,_,q,⟨v,r,e,a,b⟩=>by
  have q':x.plain d = true ∧ plains d xs = true:=by simpa [plains] using q
  refine byG fun Gq kq=>?_
  obtain ⟨⟨as,z⟩,o,l⟩:=VR.reads d x q'.1 a
  obtain ⟨⟨bs,z'⟩,o',l'⟩:=VRs.reads d xs q'.2 b
  refine kq ?_
  refine ⟨⟨as ++ bs,by rw [e];exact .cons z z'⟩,?_,Nat.max_le.mpr ⟨l,l'⟩⟩
  show (x.py.canLay0 && PyData.canLayAll0 (pys xs)) = true
  rw [o,o'];rfl
end
end
noncomputable def eqA (a b:AV):Bool:=PyData.eqv a.py b.py
inductive LA (σ:St):AV → List AV → Prop
 | frz (xs:List AV):LA σ (.lst xs) xs
 | led (a:Addr) (xs:List AV):(a,AO.list xs) ∈ σ.H → LA σ (.ref a) xs
theorem LA.get {W₀:Wld} {c:Cx W₀} {σ:St} {y:AV} {xs:List AV} {b k:Heap} {s:Shared} {v:Value} (la:LA σ y xs) (S:Sim c b k σ s) (r:c.VR b y v):∃ a vs,v = .ref a ∧ Sq "list" s.heap a vs ∧ c.VRs b xs vs:=by
 cases la with
 | frz=>obtain ⟨a,vs,e,q,z⟩:=r;exact ⟨a,vs,e,q.stay (S.kb a),z⟩
 | led a _ hm=>obtain ⟨⟨vs,q,z⟩,_⟩:=S.led _ hm;exact ⟨a,vs,r,q,z⟩
section
variable {W₀:Wld} {c:Cx W₀} {σ:St} {Q:AV → St → Prop}
theorem LA.reads {y:AV} {xs:List AV} {b k:Heap} {s:Shared} {v:Value} {d:Nat} (la:LA σ y xs) (S:Sim c b k σ s) (r:c.VR b y v) (q:plains d xs = true) :
  (∃ as,Reads s.heap v (.list (pys xs)) as) ∧ PyData.canLayAll0 (pys xs) = true ∧ PyData.depthAll (pys xs) ≤ d:=by
 refine byG fun Gq kq=>?_
 obtain ⟨a,vs,rfl,⟨n,g⟩,z⟩:=la.get S r
 obtain ⟨⟨as,z'⟩,o,l⟩:=VRs.reads d xs q (VRs.mono S.kb xs z)
 refine kq ?_
 exact ⟨⟨_,.list g rfl rfl (by simpa using z')⟩,o,l⟩
theorem O.eqL {x y:AV} {xs ys:List AV} (hx:LA σ x xs) (hy:LA σ y ys) (px:plains 60 xs = true) (py:plains 60 ys = true) (hu:c.A.units < 9000) (h:Q (.bool (eqA (.lst xs) (.lst ys))) σ):Op2 c c.VR (compareOp .Eq) x y σ Q:=fun b k s v u S r r'=>by
 refine byG fun Gq kq=>?_
 obtain ⟨⟨as,z⟩,o,l⟩:=hx.reads S r px
 obtain ⟨⟨bs,z'⟩,o',l'⟩:=hy.reads S r' py
 refine kq ?_
 exact SeqAt.compareEq_shaped z z' (by simp only [SeqAt.shaped,PyData.canLay0,o,PyData.depth,Bool.true_and];exact decide_eq_true (by lia)) (by simp only [SeqAt.shaped,PyData.canLay0,o',PyData.depth,Bool.true_and];exact decide_eq_true (by lia))
  (by have:=cLine_is;lia) (Post.at (R:=c.VR) (y:=.bool _) S rfl h)
theorem O.neL {x y:AV} {xs ys:List AV} (hx:LA σ x xs) (hy:LA σ y ys) (px:plains 60 xs = true) (py:plains 60 ys = true) (hu:c.A.units < 9000) (h:Q (.bool (!eqA (.lst xs) (.lst ys))) σ):Op2 c c.VR (compareOp .NotEq) x y σ Q:=fun b k s v u S r r'=>by
 refine byG fun Gq kq=>?_
 obtain ⟨⟨as,z⟩,o,l⟩:=hx.reads S r px
 obtain ⟨⟨bs,z'⟩,o',l'⟩:=hy.reads S r' py
 refine kq ?_
 exact SeqAt.compareNe_shaped z z' (by simp only [SeqAt.shaped,PyData.canLay0,o,PyData.depth,Bool.true_and];exact decide_eq_true (by lia)) (by simp only [SeqAt.shaped,PyData.canLay0,o',PyData.depth,Bool.true_and];exact decide_eq_true (by lia))
  (by have:=cLine_is;lia) (Post.at (R:=c.VR) (y:=.bool _) S rfl h)
theorem O.eqP {x y:AV} (px:x.plain 60 = true) (py:y.plain 60 = true) (hu:c.A.units < 9000) (h:Q (.bool (eqA x y)) σ):Op2 c c.VR (compareOp .Eq) x y σ Q:=fun b k s v u S r r'=>by
 obtain ⟨⟨as,z⟩,o,l⟩:=VR.reads 60 x px (VR.mono S.kb x r)
 obtain ⟨⟨bs,z'⟩,o',l'⟩:=VR.reads 60 y py (VR.mono S.kb y r')
 exact SeqAt.compareEq_shaped z z' (by simp only [SeqAt.shaped,o,Bool.true_and];exact decide_eq_true (by lia)) (by simp only [SeqAt.shaped,o',Bool.true_and];exact decide_eq_true (by lia))
  (by have:=cLine_is;lia) (Post.at (R:=c.VR) (y:=.bool _) S rfl h)
theorem O.addL {x y:AV} {xs ys:List AV} (hx:LA σ x xs) (hy:LA σ y ys) (hl:xs.length + ys.length ≤ sizeLine) (h:Q (.lst (xs ++ ys)) σ):Op2 c c.VR (binaryOp .Add) x y σ Q:=fun b k s v u S r r'=>by
 obtain ⟨a,vs,rfl,⟨n,g⟩,z⟩:=hx.get S r
 obtain ⟨a',vs',rfl,⟨n',g'⟩,z'⟩:=hy.get S r'
 refine P.add_list (items:=vs.toArray) (items2:=vs'.toArray) (n:=n) (n2:=n') g g' ?_ (by simp only [List.size_toArray];rw [VRs.length z,VRs.length z'];exact hl)
 obtain ⟨st,g2,S2⟩:=S.newFrozen { cls:=.type "list",data:=.seq (vs.toArray ++ vs'.toArray) }
 exact ⟨_,.lst (xs ++ ys),_,st,S2,⟨_,vs ++ vs',rfl,⟨0,by rw [g2];simp⟩,VRs.mono st _ (VRs.append z z')⟩,h⟩
section
variable {W:Bool → St → Prop}
theorem T.list {x:AV} {xs:List AV} (hx:LA σ x xs) (hl:xs.length ≤ sizeLine) (h:W (!xs.isEmpty) σ):Op1 c BR truthy x σ W:=fun b k s v S r=>by
 obtain ⟨a,vs,rfl,q,z⟩:=hx.get S r
 have e:=VRs.length z
 refine wpAny_truthy_list q.isList (by simp only [List.size_toArray];have:=sizeLine_eq;lia) (Post.at (R:=BR) (y:=!xs.isEmpty) (S.toks _) ?_ h)
 show (!vs.toArray.isEmpty) = _
 cases vs <;> cases xs <;> simp_all
end
noncomputable abbrev Itm {W₀:Wld} (c:Cx W₀) (value slice:Expr) (x i:AV) (σ:St) (Q:AV → St → Prop):Prop:=Op2 c c.VR (subscriptTail value slice) x i σ Q
theorem Ev.sub {value slice pos} (h:Ev c value σ (kE c slice (kB c (subscriptTail value slice) Q))):Ev c (.Subscript value slice pos) σ Q:=fun b k s S=>by
 refine Subscript_ (gst (h b k s S) (fun b₁ a σ₁ v s₁ t₁ S₁ r₁ h₁=>?_))
 refine gst (h₁ b₁ k s₁ S₁) (fun b₂ a₂ σ₂ u s₂ t₂ S₂ r₂ h₂=>?_)
 exact glst (stays_trans t₁ t₂) (h₂ b₂ k s₂ v u S₂ (VR.mono t₂ _ r₁) r₂)
theorem I.list {value slice:Expr} {x:AV} {xs:List AV} {i:Int} {y:AV} (hx:LA σ x xs) (h0:0 ≤ i) (hi:i < 2 ^ 63) (hy:xs[i.toNat]? = some y) (h:Q y σ)
  (hs:∀ a u,subscripted slice false (.ref a) (.int i u) = operate [.ref a,.int i u] (getItem (.ref a) (.int i u)):=by intro _ _;with_unfolding_all rfl):Itm c value slice x (.int i) σ Q:=fun b k s v u S r ⟨t,e⟩=>by
 subst e
 refine byG fun Gq kq=>?_
 obtain ⟨a,vs,rfl,q,z⟩:=hx.get S r
 obtain ⟨w,e',z'⟩:=VRs.get z hy
 refine kq ?_
 exact tail_any q.isList.typeIs slot_list_getitem.lookup (wpAny_getItem_list q.isList h0 hi (by simpa using e') (Post.at (R:=c.VR) S z' h)) (hs a t)
theorem I.listNeg {value slice:Expr} {x:AV} {xs:List AV} {i:Int} {y:AV} (hx:LA σ x xs) (h0:i < 0) (h1:-(xs.length:Int) ≤ i) (hi:-(2 ^ 63) ≤ i) (hy:xs[(i + xs.length).toNat]? = some y) (h:Q y σ)
  (hs:∀ a u,subscripted slice false (.ref a) (.int i u) = operate [.ref a,.int i u] (getItem (.ref a) (.int i u)):=by intro _ _;with_unfolding_all rfl):Itm c value slice x (.int i) σ Q:=fun b k s v u S r ⟨t,e⟩=>by
 subst e
 obtain ⟨a,vs,rfl,q,z⟩:=hx.get S r
 obtain ⟨w,e',z'⟩:=VRs.get z hy
 have hl:=VRs.length z
 refine tail_any q.isList.typeIs slot_list_getitem.lookup (wpAny_getItem_list_neg (x:=w) q.isList ?_ ?_ ?_ ?_ (Post.at (R:=c.VR) S z' h)) (hs a t)
 all_goals first | lia | (simp only [List.size_toArray];lia) | (simp only [List.size_toArray,hl];simpa using e')
theorem I.tup {value slice:Expr} {xs:List AV} {i:Int} {y:AV} {j:Nat} (hlo:-(2 ^ 63) ≤ i) (hi:i < 2 ^ 63) (hj:seqIndex? i xs.length = some j) (hy:xs[j]? = some y) (h:Q y σ)
  (hs:∀ a u,subscripted slice false (.ref a) (.int i u) = operate [.ref a,.int i u] (getItem (.ref a) (.int i u)):=by intro _ _;with_unfolding_all rfl):Itm c value slice (.tup xs) (.int i) σ Q:=fun b k s v u S ⟨a,vs,e0,q,z⟩ ⟨t,e⟩=>by
 subst e e0
 obtain ⟨w,e',z'⟩:=VRs.get z hy
 exact item_tupleT (q.stay (S.kb a)).isTup hlo hi (by rw [VRs.length z];exact hj) e' (Post.at (R:=c.VR) S z' h) (hs a t)
theorem I.str {value slice:Expr} {l:List Nat} {i:Int} {j:Nat} {y:Nat} (hr:fitsSsize i = true) (hj:seqIndex? i l.length = some j) (hy:l[j]? = some y) (h:Q (.str [y]) σ)
  (hs:∀ x t u,subscripted slice false (.str x t) (.int i u) = operate [.str x t,.int i u] (getItem (.str x t) (.int i u)):=by intro _ _ _;with_unfolding_all rfl):Itm c value slice (.str l) (.int i) σ Q:=fun b k s v u S ⟨t,e,o⟩ ⟨t',e'⟩=>by
 subst e e'
 have hc:Txt.charAt (mkS l) i = some y:=by
  unfold Txt.charAt
  rw [mkS_length,hj]
  simpa [mkS] using hy
 refine tail_any (typeIs_str _ _ _) F.slot_str_getitem.lookup (SB.getItem hr (by rw [hc];rfl) ?_) (hs _ t t')
 have e:Txt.item (mkS l) i = mkS [y]:=by unfold Txt.item;rw [hc];rfl
 rw [e]
 exact Post.at (R:=c.VR) (y:=.str [y]) (S.toks _) ⟨_,rfl,okS_sub (fun z hz=>by rw [List.mem_singleton.mp hz];exact List.mem_of_getElem? hy) o⟩ h
end
end Lw
end
section
open PySem PySem.Calls PySem.W PyProof.Rows
namespace Lw
section
variable {p:Program} {w:World} {h:Heap}
end
section
variable {W₀:Wld} {c:Cx W₀} {σ:St} {Q:AV → St → Prop}
inductive kIn (P:Option Int → St → Prop) (y:AV) (σ:St):Prop | mk (i:Int) (e:y = .int i) (h:P (some i) σ)
noncomputable def Bnd {W₀:Wld} (c:Cx W₀) (e:Option Expr) (σ:St) (P:Option Int → St → Prop):Prop:=match e with
 | none=>P none σ
 | some e=>Ev c e σ (kIn P)
theorem Bnd.go {e:Option Expr} {P:Option Int → St → Prop} (h:Bnd c e σ P):Go c (fun _ o v=>IsPart v o) (evalPart e c.env) σ P:=fun b k s S=>by
 cases e with
 | none=>exact wpAny_pure ⟨b,none,σ,stays_refl _,S,.none,h⟩
 | some e=>exact gst (h b k s S) (fun b₁ y σ₁ v s₁ t₁ S₁ r₁ ⟨i,e',q⟩=>by subst e';obtain ⟨t,rfl⟩:=r₁;exact ⟨b₁,some i,σ₁,t₁,S₁,.int i t,q⟩)
noncomputable abbrev Sli {W₀:Wld} (c:Cx W₀) (value:Expr) (lower upper:Option Expr) (p:Pos) (x:AV) (lo hi:Option Int) (σ:St) (Q:AV → St → Prop):Prop:=
 ∀ b k s v vl vu,Sim c b k σ s → c.VR b x v → IsPart vl lo → IsPart vu hi →
  wpAny (model c.prog c.w) c.A (subscriptTail value (.Slice lower upper none p) v (.ref s.heap.objs.size)) (Post c k c.VR Q b) (fun _ _=>False) { s with heap:=s.heap.push { cls:=.type "slice",data:=.fields #[vl,vu,.none] } }
noncomputable abbrev kS3 {W₀:Wld} (c:Cx W₀) (value:Expr) (lower upper:Option Expr) (p:Pos) (Q:AV → St → Prop) (x:AV) (lo hi:Option Int) (σ:St):Prop:=Sli c value lower upper p x lo hi σ Q
noncomputable abbrev kS2 {W₀:Wld} (c:Cx W₀) (value:Expr) (lower upper:Option Expr) (p:Pos) (Q:AV → St → Prop) (x:AV) (lo:Option Int) (σ:St):Prop:=Bnd c upper σ (kS3 c value lower upper p Q x lo)
noncomputable abbrev kS1 {W₀:Wld} (c:Cx W₀) (value:Expr) (lower upper:Option Expr) (p:Pos) (Q:AV → St → Prop) (x:AV) (σ:St):Prop:=Bnd c lower σ (kS2 c value lower upper p Q x)
theorem Ev.slc {value lower upper p pos} (h:Ev c value σ (kS1 c value lower upper p Q)):Ev c (.Subscript value (.Slice lower upper Option.none p) pos) σ Q:=fun b k s S=>by
 refine Subscript_ (gst (h b k s S) (fun b₁ a σ₁ v s₁ t₁ S₁ r₁ h₁=>?_))
 refine wpAny_Slice (gst (Bnd.go h₁ b₁ k s₁ S₁) (fun b₂ lo σ₂ vl s₂ t₂ S₂ r₂ h₂=>?_))
 refine gst (Bnd.go h₂ b₂ k s₂ S₂) (fun b₃ hi σ₃ vu s₃ t₃ S₃ r₃ h₃=>wpAny_pure ?_)
 exact glst (stays_trans t₁ (stays_trans t₂ t₃)) (h₃ b₃ k s₃ v vl vu S₃ (VR.mono (stays_trans t₂ t₃) _ r₁) r₂ r₃)
theorem slc_mem {α:Type} {l:List α} {lo hi:Option Int} {x:α} (h:x ∈ slc l lo hi):x ∈ l:=List.mem_of_mem_drop (List.mem_of_mem_take h)
theorem Sli.str {value lower upper p} {l:List Nat} {lo hi:Option Int} (hl:l.length ≤ sizeLine) (h:Q (.str (slc l lo hi)) σ)
  (hs:∀ x t a,subscripted (.Slice lower upper none p) false (.str x t) (.ref a) = operate [.ref a,.str x t] (getItem (.str x t) (.ref a)):=by intro _ _ _;with_unfolding_all rfl):Sli c value lower upper p (.str l) lo hi σ Q:=fun b k s v vl vu S ⟨t,e,o⟩ pl pu=>by
 subst e
 have S':=S.push { cls:=.type "slice",data:=.fields #[vl,vu,.none] }
 have fin:∀ t' n,Post c k c.VR Q b (.str (Txt.slice (mkS l) lo hi) t') { s with heap:=s.heap.push { cls:=.type "slice",data:=.fields #[vl,vu,.none] },toks:=n }:=fun t' n=>by
  rw [slice_mkS]
  exact Post.at (R:=c.VR) (y:=.str _) (S'.toks n) ⟨t',rfl,okS_sub (fun x hx=>slc_mem hx) o⟩ h
 have key:∀ (l' u':Option (Int × Tok)),l'.map (·.1) = lo → u'.map (·.1) = hi → s.heap.objs.size = s.heap.objs.size → (Value.none = partValue none) → vl = partValue l' → vu = partValue u' →
   wpAny (model c.prog c.w) c.A (subscriptTail value (.Slice lower upper none p) (.str (mkS l) t) (.ref s.heap.objs.size)) (Post c k c.VR Q b) (fun _ _=>False) { s with heap:=s.heap.push { cls:=.type "slice",data:=.fields #[vl,vu,.none] } }:=by
  intro l' u' e1 e2 _ _ e3 e4
  subst e1 e2 e3 e4
  refine tail_any (typeIs_str _ _ _) F.slot_str_getitem.lookup (wpAny_getItem_str_slice (l:=l') (u:=u') (st:=none) ⟨_,Heap.get?_push_size _ rfl,rfl,rfl⟩ rfl ?_) (hs _ t _)
  exact post_val_or_str ⟨Nat.le_trans (Txt.slice_le _ _ _) (by rw [mkS_length];exact hl),fun t' n=>fin t' n⟩
 cases pl with
 | none=>cases pu with
  | none=>exact key none none rfl rfl rfl rfl rfl rfl
  | int j uj=>exact key none (some (j,uj)) rfl rfl rfl rfl rfl rfl
 | int i ui=>cases pu with
  | none=>exact key (some (i,ui)) none rfl rfl rfl rfl rfl rfl
  | int j uj=>exact key (some (i,ui)) (some (j,uj)) rfl rfl rfl rfl rfl rfl
theorem VRs.slc {p:Program} {w:World} {h:Heap} {xs:List AV} {vs:List Value} (r:VRs p w h xs vs) (lo hi:Option Int):VRs p w h (slc xs lo hi) (slc vs lo hi):=by
 have e:=VRs.length r
 refine VRs.of_get (by unfold Lw.slc;rw [e];simp [e]) fun i x v hx hv=>?_
 unfold Lw.slc at hx hv
 rw [e] at hv
 rw [List.getElem?_take] at hx hv
 split at hx
 ·rename_i hlt
  rw [if_pos hlt] at hv
  rw [List.getElem?_drop] at hx hv
  obtain ⟨u,e1,e2⟩:=VRs.get r hx
  rw [hv] at e1
  cases e1
  exact e2
 ·cases hx
theorem Sli.list {value lower upper p} {x:AV} {xs:List AV} {lo hi:Option Int} (hx:LA σ x xs) (hl:xs.length ≤ sizeLine) (h:Q (.lst (slc xs lo hi)) σ)
  (hs:∀ a d,subscripted (.Slice lower upper none p) false (.ref a) (.ref d) = operate [.ref d,.ref a] (getItem (.ref a) (.ref d)):=by intro _ _;with_unfolding_all rfl):Sli c value lower upper p x lo hi σ Q:=fun b k s v vl vu S r pl pu=>by
 obtain ⟨a,vs,rfl,q,z⟩:=hx.get S r
 have S':=S.push { cls:=.type "slice",data:=.fields #[vl,vu,.none] }
 have q':=q.stay (h':=s.heap.push { cls:=.type "slice",data:=.fields #[vl,vu,.none] }) fun o e=>Heap.get?_push_of_some _ e
 refine tail_any (s:={ s with heap:=s.heap.push { cls:=.type "slice",data:=.fields #[vl,vu,.none] } }) q'.isList.typeIs slot_list_getitem.lookup (wpAny_getItem_list_slice q'.isList (Heap.IsSliceOf.new _ vl vu .none) pl pu .none (by simp) ?_ (by simp only [List.size_toArray,VRs.length z];exact hl)) (hs a _)
 rw [slicePick_eq]
 obtain ⟨st,g2,S2⟩:=S'.newFrozen { cls:=.type "list",data:=.seq (Lw.slc vs lo hi).toArray }
 exact ⟨_,.lst _,_,st,S2,⟨_,Lw.slc vs lo hi,rfl,⟨0,g2⟩,VRs.mono st _ (VRs.slc z lo hi)⟩,h⟩
end
end Lw
end
section
open PySem PySem.Calls PySem.W PyProof.Rows
namespace Lw
theorem Sim.apart {W₀:Wld} {c:Cx W₀} {b k:Heap} {σ:St} {s:Shared} {a:Addr} {o:Obj} (S:Sim c b k σ s) (ho:s.heap.get? a = some o) (hb:b.get? a = none) (hL:a ≠ c.L)
  (hH:∀ q ∈ σ.H,q.1 ≠ a) (hc:∀ x r,c.env.cells.lookup x = some r → r ≠ a):Sim c b (insH k a o) σ s:=by
 have hf:o.isFreed = false:=(Heap.get?_some_iff.mp ho).2
 exact { S with
  kk:=fun q ob e=>by
   by_cases hq:q = a
   ·subst hq;rw [insH_self _ _ _ hf] at e;cases e;exact ⟨_,ho,fun _=>rfl⟩
   ·rw [insH_other _ _ _ _ hq] at e;exact S.kk q ob e
  flk:=fun q hq=>by
   rcases S.flk q hq with e | ⟨ob,e,d⟩
   ·exact .inl e
   ·by_cases hqa:q = a
    ·subst hqa
     obtain ⟨sl,e',_⟩:=S.kk _ _ e
     rw [ho] at e'
     cases e'
     exact .inr ⟨_,insH_self _ _ _ hf,d⟩
    ·exact .inr ⟨ob,(insH_other _ _ _ _ hqa).trans e,d⟩
  bk:=fun q ob e=>by
   by_cases hq:q = a
   ·subst hq;exact hb
   ·rw [insH_other _ _ _ _ hq] at e;exact S.bk q ob e
  offL:=⟨S.offL.1,fun z=>(insH_other _ _ _ _ (Ne.symm hL)).trans (S.offL.2 z)⟩
  cells:=fun x r hx=>let ⟨⟨v,i,z,zr⟩,q1,q2,q3⟩:=S.cells x r hx;⟨⟨v,i,z,fun h=>let ⟨o',e,d⟩:=zr h;⟨o',(insH_other _ _ _ _ (hc x r hx)).trans e,d⟩⟩,q1,fun h=>(insH_other _ _ _ _ (hc x r hx)).trans (q2 h),q3⟩
  led:=fun q hq=>let ⟨x,y1,y2,y3⟩:=S.led q hq;⟨x,y1,(insH_other _ _ _ _ (hH q hq)).trans y2,y3⟩ }
theorem Sim.less {W₀:Wld} {c:Cx W₀} {b k k':Heap} {σ:St} {s:Shared} (S:Sim c b k σ s) (h:∀ a o,k'.get? a = some o → k.get? a = some o) (hro:∀ x a o,c.env.cells.lookup x = some a → k.get? a = some o → k'.get? a = some o)
  (hfl:∀ a ∈ c.fl,a = c.L ∨ ∃ o,k'.get? a = some o ∧ ∀ vs,o.data ≠ .fields vs):Sim c b k' σ s:=
 have no:∀ a,k.get? a = none → k'.get? a = none:=fun a e=>by
  cases q:k'.get? a with
  | none=>rfl
  | some o=>rw [h a o q] at e;cases e
 {S with
  kk:=fun a o e=>S.kk a o (h a o e)
  flk:=hfl
  bk:=fun a o e=>S.bk a o (h a o e)
  offL:=⟨S.offL.1,fun z=>no _ (S.offL.2 z)⟩
  cells:=fun x r hx=>let ⟨⟨v,i,z,zr⟩,q1,q2,q3⟩:=S.cells x r hx;⟨⟨v,i,z,fun h=>let ⟨o',e,d⟩:=zr h;⟨o',hro x r o' hx e,d⟩⟩,q1,fun h=>no _ (q2 h),q3⟩
  led:=fun q hq=>let ⟨x,y1,y2,y3⟩:=S.led q hq;⟨x,y1,no _ y2,y3⟩ }
theorem Sim.other {W₀:Wld} {c:Cx W₀} {b k:Heap} {σ:St} {s:Shared} {I:Addr} (S:Sim c b k σ s) (hb:b.get? I = none) (hk:k.get? I = none) (hL:I ≠ c.L) (hH:∀ q ∈ σ.H,q.1 ≠ I)
  (hc:∀ x r,c.env.cells.lookup x = some r → r ≠ I) {h':Heap} (hs:∀ a o,a ≠ I → s.heap.get? a = some o → h'.get? a = some o) (tk:Nat):Sim c b k σ { s with heap:=h',toks:=tk } where
 g0:=S.g0
 kb:=fun q o e=>hs q o (by rintro rfl;rw [hb] at e;cases e) (S.kb q o e)
 kk:=S.kk.then fun q o o' e e'=>hs q o' (by rintro rfl;rw [hk] at e;cases e) e'
 flk:=S.flk
 bk:=S.bk
 ns:=let ⟨m,hn,r⟩:=S.ns;⟨m,hn.at' fun o e=>hs _ o (Ne.symm hL) e,r⟩
 offL:=S.offL
 cells:=fun x a hx=>let ⟨⟨v,⟨o,e,d⟩,r⟩,q⟩:=S.cells x a hx;⟨⟨v,⟨o,hs a o (hc x a hx) e,d⟩,r⟩,q⟩
 cinj:=S.cinj
 led:=fun q hq=>let ⟨x,y⟩:=S.led q hq;⟨x.stay (stays_refl _) fun o e=>hs q.1 o (hH q hq) e,y⟩
 nd:=S.nd
 os:=S.os
 gens:=S.gens
noncomputable def Leans (fl:List Addr) (b k:Heap) (I:Addr) (fp:List Addr):Prop:=∀ f ∈ fp,f = I ∨ ∃ o,b.get? f = some o ∨ (k.get? f = some o ∧ f ∉ fl)
structure OffI {W₀:Wld} (c:Cx W₀) (b k:Heap) (σ:St) (I:Addr):Prop where
 b:b.get? I = none
 k:k.get? I = none
 L:I ≠ c.L
 H:∀ q ∈ σ.H,q.1 ≠ I
 c:∀ x r,c.env.cells.lookup x = some r → r ≠ I
theorem OffI.nfl {W₀:Wld} {c:Cx W₀} {b k:Heap} {σ σ':St} {s:Shared} {I:Addr} (O:OffI c b k σ' I) (S:Sim c b k σ s):I ∉ c.fl:=fun h=>by
 rcases S.flk I h with e | ⟨o,e,_⟩
 ·exact O.L e
 ·rw [O.k] at e;cases e
noncomputable def Calm (o:Obj):Prop:=∃ T,o.cls = .type T ∧ ["enumerate", "zip", "dict_itemiterator", "dict_reverseitemiterator", "odict_iterator", "itertools.zip_longest", "itertools.pairwise"].contains T = false
theorem letGo_calm {W₀:Wld} {c:Cx W₀} {target:Expr} {I:Addr} {v:Value} {s:Shared} {Q:Unit → Shared → Prop} {E:Value → Shared → Prop} (h:∃ o,s.heap.get? I = some o ∧ Calm o) (hQ:Q () s) :
  wpAny (model c.prog c.w) c.A (letOwnedTupleGo target (.ref I) v) Q E s:=by
 obtain ⟨o,ho,T,hT,hn⟩:=h
 have tail:∀ es k pos,wpAny (model c.prog c.w) c.A (letOwnedTupleGo (.Tuple es k pos) (.ref I) v) Q E s:=fun es k pos=>by
  cases v with
  | ref a=>
   refine wpAny_bind (wpAny_load ho ?_)
   obtain ⟨cls,dict,data⟩:=o
   dsimp only at hT
   subst hT
   cases data with
   | fields vs=>
    dsimp only
    rw [hn]
    exact wpAny_pure hQ
   | _=>exact wpAny_pure hQ
  | _=>exact wpAny_pure hQ
 cases target with
 | Tuple es k pos=>exact tail es k pos
 | List es pos=>exact tail es 0 pos
 | _=>exact wpAny_pure hQ
structure Iter {W₀:Wld} (c:Cx W₀) (b k:Heap) (σ:St) (s:Shared) (I:Addr) (items:List AV) (Ok:St → Prop) (At:Nat → Heap → Heap → Heap → Prop):Prop where
 item:∀ (c':Cx W₀),c'.A = c.A → c'.fl = c.fl → ∀ i b k σ (s:Shared) x (Q:Option Value → Shared → Prop) (E:Value → Shared → Prop),Sim c' b k σ s → Ok σ → At i b k s.heap → items[i]? = some x →
  (∀ v h' tk,c'.VR b x v → At (i + 1) b k h' → (∀ a o,a ≠ I → s.heap.get? a = some o → h'.get? a = some o) → Q (some v) { s with heap:=h',toks:=tk }) → wpAny (model c.prog c.w) c.A (pyNext (.ref I)) Q E s
 fin:∀ (c':Cx W₀),c'.A = c.A → c'.fl = c.fl → ∀ b k σ (s:Shared) (Q:Option Value → Shared → Prop) (E:Value → Shared → Prop),Sim c' b k σ s → Ok σ → At items.length b k s.heap →
  (∀ h' tk,(∀ a o,a ≠ I → s.heap.get? a = some o → h'.get? a = some o) → Q none { s with heap:=h',toks:=tk }) → wpAny (model c.prog c.w) c.A (pyNext (.ref I)) Q E s
 self:∀ b k (s:Shared) (Q:Value → Shared → Prop) (E:Value → Shared → Prop),At 0 b k s.heap → Q (.ref I) s → wpAny (model c.prog c.w) c.A (pyIter (.ref I)) Q E s
 it:At 0 b k s.heap
 there:∀ i b k h,At i b k h → ∃ o,h.get? I = some o ∧ Calm o
 off:OffI c b k σ I
 stay:∀ (c':Cx W₀),c'.fl = c.fl → ∀ i b k h b' σ' (s':Shared) oI,At i b k h → b.StaysIn h → StaysB c.fl k h → h.get? I = some oI → s'.heap.get? I = some oI → b.StaysIn b' → Sim c' b' k σ' s' → At i b' k s'.heap
 enter:∀ b k k' h h',At 0 b k h → h.StaysIn h' → (∀ a o,a ∉ c.fl → k.get? a = some o → k'.get? a = some o) → At 0 b k' h'
theorem Iter.ofW {W₀:Wld} {c:Cx W₀} {b k:Heap} {σ:St} {s:Shared} {I:Addr} {items:List AV} {n:Nat} {P:Nat → Value → Prop} {It:Nat → Heap → Prop} {fp:List Addr} (w:Walks c.prog c.w c.A I fp [I] n P It) (len:n = items.length)
  (rd:∀ i v,i < n → P i v → ∃ x,items[i]? = some x ∧ c.VR b x v) (it:It 0 s.heap) (there:∀ i h,It i h → ∃ o,h.get? I = some o ∧ Calm o) (off:OffI c b k σ I) (leans:Leans c.fl b k I fp) :
  Iter c b k σ s I items (fun _=>True) fun i b' k' h=>It i h ∧ b.StaysIn b' ∧ Leans c.fl b' k' I fp where
 item:=fun c' hA hf i b' k' σ s x Q E S _ ⟨hit,st,ln⟩ hx h=>by
  have hi:i < n:=len ▸ (List.getElem?_eq_some_iff.mp hx).1
  refine w.item i s Q E hi hit fun v h' tk hP hit' hs=>?_
  obtain ⟨y,hy,r⟩:=rd i v hi hP
  rw [hx] at hy
  cases hy
  exact h v h' tk (VR.mono st _ r) ⟨hit',st,ln⟩ fun a o ha e=>hs a o (by simpa using ha) e
 fin:=fun c' hA hf b' k' σ s Q E S _ ⟨hit,st,ln⟩ h=>w.done s Q E (len ▸ hit) fun h' tk hs=>h h' tk fun a o ha e=>hs a o (by simpa using ha) e
 self:=fun b' k' s Q E ⟨hit,_⟩ h=>w.self 0 s Q E hit h
 it:=⟨it,stays_refl _,leans⟩
 there:=fun i b' k' h ⟨hit,_⟩=>there i h hit
 off:=off
 stay:=fun c' hf i b₁ k' h b₂ σ' s' oI ⟨hit,st,ln⟩ hb hk h1 h2 hbb S=>by
  refine ⟨w.frame _ _ _ hit fun f hff o ho=>?_,stays_trans st hbb,fun f hff=>?_⟩
  ·rcases ln f hff with rfl | ⟨o',h3 | ⟨h3,h4⟩⟩
   ·rw [h1] at ho;cases ho;exact h2
   ·rw [hb _ _ h3] at ho;cases ho;exact S.kb _ _ (hbb _ _ h3)
   ·rw [hk.at h4 h3] at ho;cases ho;exact S.kk.at (hf ▸ h4) h3
  ·rcases ln f hff with e | ⟨o',h3 | h3⟩
   ·exact .inl e
   ·exact .inr ⟨o',.inl (hbb _ _ h3)⟩
   ·exact .inr ⟨o',.inr h3⟩
 enter:=fun b' k' k'' h h' ⟨hit,st,ln⟩ hs hk=>by
  refine ⟨w.frame _ _ _ hit fun f _ o ho=>hs _ _ ho,st,fun f hff=>?_⟩
  rcases ln f hff with e | ⟨o',h3 | ⟨h3,h4⟩⟩
  ·exact .inl e
  ·exact .inr ⟨o',.inl h3⟩
  ·exact .inr ⟨o',.inr ⟨hk _ _ h4 h3,h4⟩⟩
section
variable {W₀:Wld} {c:Cx W₀}
theorem for_core {target:Expr} {body:List Stmt} {I:Addr} {items:List AV} {Ok:St → Prop} {At:Nat → Heap → Heap → Heap → Prop} {k b₀:Heap} {σ₀:St} {s₀:Shared}
  (X:Iter c b₀ k σ₀ s₀ I items Ok At) (S₀:Sim c b₀ k σ₀ s₀) (Inv:List AV → St → Prop) (h0:Inv [] σ₀) {W:AF → St → Prop}
  (turn:∀ pre x post σ,items = pre ++ x :: post → Inv pre σ → Asn c target x σ (kBd c body (kLp W (Inv (pre ++ [x])))))
  (done:∀ σ,Inv items σ → W .next σ) (hOk:∀ pre σ,Inv pre σ → Ok σ) :
  codeAny (model c.prog c.w) c.A (.forLoop target (.ref I) body [] c.env) (fun r s'=>match r with | .ok f=>Post c k (FR c) W b₀ f s' | .error e=>cameBackBy (model c.prog c.w) c.A c.env (fun _ _=>False) e s') s₀:=by
 refine codeAny_forLoop_any (fun m s=>∃ b σ pre post,b₀.StaysIn b ∧ Sim c b k σ s ∧ items = pre ++ post ∧ m = post.length + 1 ∧ At pre.length b k s.heap ∧ OffI c b k σ I ∧ Inv pre σ) ?_ (items.length + 1)
  ⟨b₀,σ₀,[],items,stays_refl _,S₀,rfl,rfl,X.it,X.off,h0⟩
 rintro m s ⟨b,σ,pre,post,st,S,e,rfl,hit,O,hI⟩
 cases post with
 | nil=>
  rw [List.append_nil] at e
  subst e
  refine X.fin c rfl rfl b k σ s _ _ S (hOk _ _ hI) hit fun h' tk hs=>wpAny_execs_nil ?_
  have S':=S.other O.b O.k O.L O.H O.c (fun a o ha e=>hs a o ha e) tk
  exact ⟨b,.next,σ,st,S',rfl,done σ hI⟩
 | cons x post=>
  refine X.item c rfl rfl pre.length b k σ s x _ _ S (hOk _ _ hI) hit (by rw [e,List.getElem?_append_right (Nat.le_refl _),Nat.sub_self];rfl) fun v h' tk ry hit' hs=>?_
  have S':=S.other O.b O.k O.L O.H O.c (fun a o ha e=>hs a o ha e) tk
  obtain ⟨oI,hoI,hcalm⟩:=X.there _ _ _ _ hit'
  refine letGo_calm ⟨oI,hoI,hcalm⟩ ?_
  have SA:=S'.apart (a:=I) hoI O.b O.L O.H O.c
  have kk:∀ a o,k.get? a = some o → (insH k I oI).get? a = some o:=fun a o ea=>by
   rw [insH_other _ _ _ _ (by rintro rfl;rw [O.k] at ea;cases ea)];exact ea
  refine gst (turn pre x post σ e hI b (insH k I oI) _ v SA ry) (fun b₂ _ σ₂ _ s₂ t₂ S₂ _ h₂=>?_)
  refine gst (h₂ b₂ (insH k I oI) s₂ S₂) (fun b₃ y₃ σ₃ f s₃ t₃ S₃ r₃ h₃=>?_)
  have kr:∀ x a o,c.env.cells.lookup x = some a → (insH k I oI).get? a = some o → k.get? a = some o:=fun x a o hx e=>by rw [insH_other _ _ _ _ (O.c x a hx)] at e;exact e
  have S₃':=S₃.less kk kr S.flk
  have stA:b₀.StaysIn b₃:=stays_trans st (stays_trans t₂ t₃)
  have hof:oI.isFreed = false:=(Heap.get?_some_iff.mp hoI).2
  have hkI:(insH k I oI).get? I = some oI:=insH_self _ _ _ hof
  have nexts:Inv (pre ++ [x]) σ₃ → ∃ m,m < (x :: post).length + 1 ∧ ∃ b σ pre post,b₀.StaysIn b ∧ Sim c b k σ s₃ ∧ items = pre ++ post ∧ m = post.length + 1 ∧ At pre.length b k s₃.heap ∧ OffI c b k σ I ∧ Inv pre σ:=fun hq=>by
   refine ⟨post.length + 1,by simp,b₃,σ₃,pre ++ [x],post,stA,S₃',by rw [e];simp,rfl,?_,?_,hq⟩
   ·have:At (pre.length + 1) b₃ k s₃.heap:=X.stay c rfl _ b k h' b₃ σ₃ s₃ oI hit' S'.kb S'.kk hoI (S₃.kk.at (O.nfl S) hkI) (stays_trans t₂ t₃) S₃'
    simpa using this
   ·exact ⟨S₃.bk _ _ hkI,O.k,O.L,(fun q hq e=>by have:=(S₃.led q hq).2.2.1;rw [e,hkI] at this;cases this),O.c⟩
  cases y₃ with
  | next=>rw [show f = .next from r₃];exact nexts h₃
  | cont=>rw [show f = .cont from r₃];exact nexts h₃
  | brk=>rw [show f = .brk from r₃];exact ⟨b₃,.next,σ₃,stA,S₃',rfl,h₃⟩
  | ret a=>obtain ⟨u,rfl,z⟩:=r₃;exact ⟨b₃,.ret a,σ₃,stA,S₃',⟨u,rfl,z⟩,h₃⟩
noncomputable def ItbG {W₀:Wld} (c:Cx W₀) (y:AV) (σ:St) (items:List AV) (Ok:St → Prop):Prop:=∀ b k s v,Sim c b k σ s → c.VR b y v → ∀ (Q:Value → Shared → Prop),
 (∀ I s' At,Iter c b k σ s' I items Ok At → Sim c b k σ s' → Q (.ref I) s') → wpAny (model c.prog c.w) c.A (pyIter v) Q (fun _ _=>False) s
noncomputable def Itb {W₀:Wld} (c:Cx W₀) (y:AV) (σ:St) (items:List AV):Prop:=ItbG c y σ items fun _=>True
inductive kFg {W₀:Wld} (c:Cx W₀) (target:Expr) (body:List Stmt) (W:AF → St → Prop) (y:AV) (σ₁:St):Prop
 | mk (items:List AV) (Ok:St → Prop) (hi:ItbG c y σ₁ items Ok) (Inv:List AV → St → Prop) (h0:Inv [] σ₁) (turn:∀ pre x post σ,items = pre ++ x :: post → Inv pre σ → Asn c target x σ (kBd c body (kLp W (Inv (pre ++ [x])))))
  (done:∀ σ,Inv items σ → W .next σ) (hOk:∀ pre σ,Inv pre σ → Ok σ)
theorem Ex.forsG {target iter:Expr} {body:List Stmt} {pos:Pos} {σ:St} {W:AF → St → Prop} (h:Ev c iter σ (kFg c target body W)) (hs:∀ x,foldedSetIterable iter c.env x = pure x):Ex c (.For target iter body [] pos) σ W:=fun b k s S=>by
 refine wpAny_For (gst (h b k s S) fun b₁ y σ₁ v s₁ t₁ S₁ r₁ z=>?_) hs
 cases z with
 | mk items Ok hi Inv h0 turn done hOk=>
  refine hi b₁ k s₁ v S₁ r₁ _ fun I s' At X S'=>?_
  exact codeAny_mono (for_core X S' Inv h0 turn done hOk) fun r s'' z=>by
   cases r with
   | ok f=>exact Post.back t₁ z
   | error e=>exact z
end
section
variable {W₀:Wld} {c:Cx W₀} {σ:St}
theorem calm_of {T:String} {dd:Option Addr} {dt:Data} {sl:Array (Option Value)} (h:["enumerate", "zip", "dict_itemiterator", "dict_reverseitemiterator", "odict_iterator", "itertools.zip_longest", "itertools.pairwise"].contains T = false:=by decide):Calm ⟨.type T,dd,dt,sl⟩:=⟨T,rfl,h⟩
theorem Sim.offNew {b k:Heap} {s:Shared} (S:Sim c b k σ s):OffI c b k σ s.heap.objs.size:=let ⟨f1,f2,f3,f4,f5⟩:=S.fresh;⟨f1,f2,f3,f4,f5⟩
theorem Itb.lst (xs:List AV):Itb c (.lst xs) σ xs:=fun b k s v S ⟨a,vs,e,⟨n,g⟩,r⟩ Q h=>by
 subst e
 have q:Sq "list" s.heap a vs:=⟨n,S.kb _ _ g⟩
 have hne:a ≠ s.heap.objs.size:=Nat.ne_of_lt (Heap.lt_size (S.kb _ _ g))
 have W:=Walks.list (prog:=c.prog) (w:=c.w) c.hh s.heap.objs.size a hne vs.toArray
 refine wpAny_pyIter_list q.isList (h _ _ _ (Iter.ofW W ?len ?rd ?it ?there S.offNew ?leans) (S.push _))
 case len=>simpa using VRs.length r
 case rd=>
  intro i v hi hv
  have hv':vs[i]? = some v:=by simpa using hv
  have hx:i < xs.length:=by rw [← VRs.length r];simpa using hi
  refine byG fun Gq kq=>?_
  obtain ⟨u,e1,e2⟩:=VRs.get r (List.getElem?_eq_getElem hx)
  refine kq ?_
  rw [hv'] at e1;cases e1
  exact ⟨_,List.getElem?_eq_getElem hx,e2⟩
 case it=>exact ⟨⟨_,Heap.get?_push_size _ rfl,rfl,rfl⟩,q.isList.push _⟩
 case there=>exact fun i h hi=>let ⟨o,ho,hc,_⟩:=hi.1;⟨o,ho,_,hc,by decide⟩
 case leans=>
  intro f hf
  rcases List.mem_cons.mp hf with rfl | hf
  ·exact .inl rfl
  ·rw [List.mem_singleton.mp hf];exact .inr ⟨_,.inl g⟩
theorem Itb.tup (xs:List AV):Itb c (.tup xs) σ xs:=fun b k s v S ⟨a,vs,e,⟨n,g⟩,r⟩ Q h=>by
 subst e
 have q:Sq "tuple" s.heap a vs:=⟨n,S.kb _ _ g⟩
 have hne:a ≠ s.heap.objs.size:=Nat.ne_of_lt (Heap.lt_size (S.kb _ _ g))
 have W:=Walks.tuple (prog:=c.prog) (w:=c.w) c.hh s.heap.objs.size a hne vs.toArray
 refine wpAny_pyIter_tuple q.isTup (h _ _ _ (Iter.ofW W ?len ?rd ?it ?there S.offNew ?leans) (S.push _))
 case len=>simpa using VRs.length r
 case rd=>
  intro i v hi hv
  have hv':vs[i]? = some v:=by simpa using hv
  have hx:i < xs.length:=by rw [← VRs.length r];simpa using hi
  obtain ⟨u,e1,e2⟩:=VRs.get r (List.getElem?_eq_getElem hx)
  rw [hv'] at e1;cases e1
  exact ⟨_,List.getElem?_eq_getElem hx,e2⟩
 case it=>exact ⟨⟨_,Heap.get?_push_size _ rfl,rfl,rfl⟩,(q.stay (h':=s.heap.push _) fun o e=>Heap.get?_push_of_some _ e).isTup⟩
 case there=>exact fun i h hi=>let ⟨o,ho,hc,_⟩:=hi.1;⟨o,ho,_,hc,by decide⟩
 case leans=>
  intro f hf
  rcases List.mem_cons.mp hf with rfl | hf
  ·exact .inl rfl
  ·rw [List.mem_singleton.mp hf];exact .inr ⟨_,.inl g⟩
theorem Itb.str (l:List Nat):Itb c (.str l) σ (l.map fun x=>.str [x]):=fun b k s v S ⟨t,e,o⟩ Q h=>by
 subst e
 have rd:∀ i v,i < (mkS l).cps.size → SignAt (mkS l) i v → ∃ x,(l.map fun x=>AV.str [x])[i]? = some x ∧ c.VR b x v:=by
  rintro i v hi ⟨ch,u,hc,rfl⟩
  have hc':l[i]? = some ch:=by simpa [mkS] using hc
  exact ⟨.str [ch],by rw [List.getElem?_map,hc'];rfl,u,rfl,okS_sub (fun z hz=>by rw [List.mem_singleton.mp hz];exact List.mem_of_getElem? hc') o⟩
 have there:∀ (T:String) (i:Nat) (h:Heap),(["enumerate", "zip", "dict_itemiterator", "dict_reverseitemiterator", "odict_iterator", "itertools.zip_longest", "itertools.pairwise"].contains T = false) → h.IsStrIter s.heap.objs.size T (mkS l) t i → ∃ o,h.get? s.heap.objs.size = some o ∧ Calm o:=
  fun T i h hT hi=>let ⟨o,ho,hc,_⟩:=hi;⟨o,ho,T,hc,hT⟩
 cases ha:(mkS l).cps.all (· < 128)
 ·exact wpAny_pyIter_wide ha (h _ _ _ (Iter.ofW (Walks.strWide c.hh _ _ t) (by simp [mkS]) rd ⟨_,Heap.get?_push_size _ rfl,rfl,rfl⟩ (fun i h=>there _ i h (by decide)) S.offNew fun f hf=>.inl (List.mem_singleton.mp hf)) (S.push _))
 ·exact wpAny_pyIter_ascii ha (h _ _ _ (Iter.ofW (Walks.strAscii c.hh _ _ t) (by simp [mkS]) rd ⟨_,Heap.get?_push_size _ rfl,rfl,rfl⟩ (fun i h=>there _ i h (by decide)) S.offNew fun f hf=>.inl (List.mem_singleton.mp hf)) (S.push _))
theorem Itb.rng (x y st:Int) (hs:Builtin.Range.small x y st = true):Itb c (.rng x y st) σ ((List.range (Builtin.Range.rangeSize x y st).toNat).map fun (i:Nat)=>AV.int (x + i * st)):=fun b k s v S ⟨r,t,u,z,e,i⟩ Q h=>by
 subst e
 have W:=Walks.range (prog:=c.prog) (w:=c.w) c.hh s.heap.objs.size x st (Builtin.Range.rangeSize x y st).toNat
 refine wpAny_pyIter_range (S.kb _ _ i) hs (h _ _ _ (Iter.ofW W ?len ?rd ?it ?there S.offNew ?leans) (S.push _))
 case len=>simp
 case rd=>
  rintro i v hi ⟨t,rfl⟩
  refine ⟨.int (x + i * st),?_,t,rfl⟩
  rw [List.getElem?_map,List.getElem?_range hi];rfl
 case it=>
  have hn:((Builtin.Range.rangeSize x y st).toNat:Int) = Builtin.Range.rangeSize x y st:=by
   have:0 ≤ Builtin.Range.rangeSize x y st:=by
    unfold Builtin.Range.rangeSize
    split <;> split <;> first | exact Int.le_refl _ | (have:=Int.ediv_nonneg (a:=y - x - 1) (b:=st) (by lia) (by lia);lia) | (have:=Int.ediv_nonneg (a:=x - y - 1) (b:=-st) (by lia) (by lia);lia)
   lia
  have e:s.heap.push ({ cls:=.type "range_iterator",data:=.fields #[rawInt x,rawInt (Builtin.Range.rangeSize x y st),rawInt st] }:Obj) = s.heap.push ({ cls:=.type "range_iterator",data:=.fields #[rawInt (x + ((0:Nat):Int) * st),rawInt (((Builtin.Range.rangeSize x y st).toNat:Int) - ((0:Nat):Int)),rawInt st] }:Obj):=by
   rw [hn];simp
  rw [e]
  exact Heap.get?_push_size _ rfl
 case there=>exact fun i h hi=>⟨_,hi,calm_of⟩
 case leans=>exact fun f hf=>.inl (List.mem_singleton.mp hf)
end
end Lw
end
section
open PySem PySem.Calls PySem.W PyProof.Rows
namespace Lw
noncomputable def lastT (e:Expr) (acc:Value) (env:Env):Sem Unit:=match e with
 | .ListComp elt _ _ _=>(do let _ ← call (.builtin "list.append") [acc,← eval elt env])
 | .DictComp k v _ _ _=>(do
    let kv ← eval k env
    let vv ← holding [kv] (eval v env)
    match acc with
    | .ref d=>do
     standAt { k.pos with endLine:=v.pos.endLine,endCol:=v.pos.endCol }
     holding [kv,vv] (dictSet d kv vv)
    | _=>unsupported "internal:dictcomp")
 | _=>unsupported ""
noncomputable def emitK (e:Expr) (gens:List Comprehension) (depth:Nat) (acc:Value) (env:Env) (k:Sem Fin):Sem Fin:=match gens[depth + 1]? with
 | some g'=>(do
    let x ← eval g'.iter env
    standAt g'.iter.pos
    let x ← if g'.is_async != 0 then foldedIterable g'.iter x else foldedSetIterable g'.iter env x
    let _ ← runOwn (.compStart e (depth + 1) (← holding [x] (if g'.is_async != 0 then asyncIter x else pyIter x)) acc env) env
    k)
 | none=>(do lastT e acc env;k)
theorem turn_list {elt:Expr} {gens:List Comprehension} {scope:Scope} {pos:Pos} {d:Nat} {it acc:Value} {env:Env} {g:Comprehension} (hg:gens[d]? = some g) (ha:(g.is_async != 0) = false) :
  compTurn (.ListComp elt gens scope pos) d it acc env = (do
   standAt g.iter.pos
   match ← pyNext it with
   | none=>pure (.done .next)
   | some v=>
    letOwnedTupleGo g.target it v
    assign g.target env v
    let ok ← forIn g.ifs true fun c r=>if r = true then do let ok ← isTrue c env (eval c env);pure (ForInStep.yield ok) else pure (ForInStep.yield r)
    if ok = true then
     emitK (.ListComp elt gens scope pos) gens d acc env (again (.compLoop (.ListComp elt gens scope pos) d it acc env))
    else again (.compLoop (.ListComp elt gens scope pos) d it acc env)):=by
 unfold compTurn
 simp only [hg,ha,Bool.false_eq_true,if_false]
 rfl
theorem turn_dict {kx vx:Expr} {gens:List Comprehension} {scope:Scope} {pos:Pos} {d:Nat} {it acc:Value} {env:Env} {g:Comprehension} (hg:gens[d]? = some g) (ha:(g.is_async != 0) = false) :
  compTurn (.DictComp kx vx gens scope pos) d it acc env = (do
   standAt g.iter.pos
   match ← pyNext it with
   | none=>pure (.done .next)
   | some v=>
    letOwnedTupleGo g.target it v
    assign g.target env v
    let ok ← forIn g.ifs true fun c r=>if r = true then do let ok ← isTrue c env (eval c env);pure (ForInStep.yield ok) else pure (ForInStep.yield r)
    if ok = true then
     emitK (.DictComp kx vx gens scope pos) gens d acc env (again (.compLoop (.DictComp kx vx gens scope pos) d it acc env))
    else again (.compLoop (.DictComp kx vx gens scope pos) d it acc env)):=by
 unfold compTurn
 simp only [hg,ha,Bool.false_eq_true,if_false]
 rfl
inductive IsC:Expr → List Comprehension → Prop
 | lst (elt gens scope pos):IsC (.ListComp elt gens scope pos) gens
 | dct (k v gens scope pos):IsC (.DictComp k v gens scope pos) gens
noncomputable abbrev Ifs {W₀:Wld} (c:Cx W₀) (ifs:List Expr) (σ:St) (P:Bool → St → Prop):Prop:=
 Go c (fun _ y v=>v = y) (forIn ifs true fun t r=>if r = true then do let ok ← isTrue t c.env (eval t c.env);pure (ForInStep.yield ok) else pure (ForInStep.yield r)) σ P
theorem Ifs.nil {W₀:Wld} {c:Cx W₀} {σ:St} {P:Bool → St → Prop} (h:P true σ):Ifs c [] σ P:=fun b k s S=>by
 rw [List.forIn_nil];exact wpAny_pure ⟨b,true,σ,stays_refl _,S,rfl,h⟩
theorem Ifs.one {W₀:Wld} {c:Cx W₀} {σ:St} {P:Bool → St → Prop} {t:Expr} (h:Tr c t σ P):Ifs c [t] σ P:=fun b k s S=>by
 rw [List.forIn_cons,if_pos rfl]
 refine wpAny_bind (wpAny_bind (wpAny_mono (h b k s S) (fun v s₁ z=>wpAny_pure ?_) fun _ _ z=>z))
 dsimp only
 rw [List.forIn_nil]
 exact wpAny_pure z
noncomputable def Emi {W₀:Wld} (c:Cx W₀) (e:Expr) (gens:List Comprehension) (d:Nat) (D:Addr) (σ:St) (P:St → Prop):Prop:=∀ b k s,Sim c b k σ s → ∀ (rest:Sem Fin) (QQ:Fin → Shared → Prop) (EE:Value → Shared → Prop),
 (∀ b' s' σ',b.StaysIn b' → Sim c b' k σ' s' → P σ' → wpAny (model c.prog c.w) c.A rest QQ EE s') → wpAny (model c.prog c.w) c.A (emitK e gens d (.ref D) c.env rest) QQ EE s
section
variable {W₀:Wld} {c:Cx W₀}
noncomputable abbrev kEm1 {W₀:Wld} (c:Cx W₀) (e:Expr) (gens:List Comprehension) (d:Nat) (D:Addr) (I:St → Prop) (ok:Bool) (σ:St):Prop:=if ok then Emi c e gens d D σ I else I σ
noncomputable abbrev kEm {W₀:Wld} (c:Cx W₀) (ifs:List Expr) (e:Expr) (gens:List Comprehension) (d:Nat) (D:Addr) (I:St → Prop) (_:Unit) (σ:St):Prop:=Ifs c ifs σ (kEm1 c e gens d D I)
theorem comp_core {e:Expr} {gens:List Comprehension} {d:Nat} {g:Comprehension} {D I:Addr} {items:List AV} {Ok:St → Prop} {At:Nat → Heap → Heap → Heap → Prop} {k b₀:Heap} {σ₀:St} {s₀:Shared}
  (hc:IsC e gens) (hg:gens[d]? = some g) (ha:(g.is_async != 0) = false)
  (X:Iter c b₀ k σ₀ s₀ I items Ok At) (S₀:Sim c b₀ k σ₀ s₀) (Inv:List AV → St → Prop) (h0:Inv [] σ₀) {W:St → Prop}
  (turn:∀ pre x post σ,items = pre ++ x :: post → Inv pre σ → Asn c g.target x σ (kEm c g.ifs e gens d D (Inv (pre ++ [x]))))
  (done:∀ σ,Inv items σ → W σ) (hOk:∀ pre σ,Inv pre σ → Ok σ) :
  codeAny (model c.prog c.w) c.A (.compLoop e d (.ref I) (.ref D) c.env) (fun r s'=>match r with | .ok f=>∃ b σ,b₀.StaysIn b ∧ Sim c b k σ s' ∧ W σ | .error _=>False) s₀:=by
 have key:compTurn e d (.ref I) (.ref D) c.env = (do
   standAt g.iter.pos
   match ← pyNext (.ref I) with
   | none=>pure (.done .next)
   | some v=>
    letOwnedTupleGo g.target (.ref I) v
    assign g.target c.env v
    let ok ← forIn g.ifs true fun t r=>if r = true then do let ok ← isTrue t c.env (eval t c.env);pure (ForInStep.yield ok) else pure (ForInStep.yield r)
    if ok = true then
     emitK e gens d (.ref D) c.env (again (.compLoop e d (.ref I) (.ref D) c.env))
    else again (.compLoop e d (.ref I) (.ref D) c.env)):=by
  cases hc with
  | lst=>exact turn_list hg ha
  | dct=>exact turn_dict hg ha
 have hq:(Code.compLoop e d (.ref I) (.ref D) c.env).quiet = true:=rfl
 have hden:denote table (Code.compLoop e d (.ref I) (.ref D) c.env) = (compTurn e d (.ref I) (.ref D) c.env).onRaise (fun x=>do noteFrame x c.env;theTreesLotGoes x):=by cases hc <;> rfl
 have hund:c.A.under (Code.compLoop e d (.ref I) (.ref D) c.env) = c.A:=by cases hc <;> exact Around.under_of_weight rfl
 refine codeAny_loop' (A:=c.A) hq (fun m s=>∃ b σ pre post,b₀.StaysIn b ∧ Sim c b k σ s ∧ items = pre ++ post ∧ m = post.length + 1 ∧ At pre.length b k s.heap ∧ OffI c b k σ I ∧ Inv pre σ) ?_ (items.length + 1)
  ⟨b₀,σ₀,[],items,stays_refl _,S₀,rfl,rfl,X.it,X.off,h0⟩
 rintro m s ⟨b,σ,pre,post,st,S,e',rfl,hit,O,hI⟩
 rw [hund]
 show wpAny _ c.A (denote table (Code.compLoop e d (.ref I) (.ref D) c.env)) _ _ s
 rw [hden]
 refine wpAny_noted ?_
 rw [key]
 refine wpAny_bind (wpAny_standAt (wpAny_bind ?_))
 cases post with
 | nil=>
  rw [List.append_nil] at e'
  subst e'
  refine X.fin c rfl rfl b k σ s _ _ S (hOk _ _ hI) hit fun h' tk hs=>wpAny_pure ?_
  have S':=S.other O.b O.k O.L O.H O.c (fun a o ha e=>hs a o ha e) tk
  exact ⟨b,σ,st,S',done σ hI⟩
 | cons x post=>
  refine X.item c rfl rfl pre.length b k σ s x _ _ S (hOk _ _ hI) hit (by rw [e',List.getElem?_append_right (Nat.le_refl _),Nat.sub_self];rfl) fun v h' tk ry hit' hs=>?_
  have S':=S.other O.b O.k O.L O.H O.c (fun a o ha e=>hs a o ha e) tk
  obtain ⟨oI,hoI,hcalm⟩:=X.there _ _ _ _ hit'
  refine wpAny_bind (letGo_calm ⟨oI,hoI,hcalm⟩ ?_)
  have SA:=S'.apart (a:=I) hoI O.b O.L O.H O.c
  have kk:∀ a o,k.get? a = some o → (insH k I oI).get? a = some o:=fun a o ea=>by
   rw [insH_other _ _ _ _ (by rintro rfl;rw [O.k] at ea;cases ea)];exact ea
  have kr:∀ x a o,c.env.cells.lookup x = some a → (insH k I oI).get? a = some o → k.get? a = some o:=fun x a o hx e=>by rw [insH_other _ _ _ _ (O.c x a hx)] at e;exact e
  have hof:oI.isFreed = false:=(Heap.get?_some_iff.mp hoI).2
  have hkI:(insH k I oI).get? I = some oI:=insH_self _ _ _ hof
  have nexts:∀ b₃ s₃ σ₃,b.StaysIn b₃ → Sim c b₃ (insH k I oI) σ₃ s₃ → Inv (pre ++ [x]) σ₃ → wpAny (model c.prog c.w) c.A (again (Code.compLoop e d (.ref I) (.ref D) c.env)) (fun fin s'=>match fin with
    | .done f=>∃ b σ,b₀.StaysIn b ∧ Sim c b k σ s' ∧ W σ
    | .again c'=>(c' = Code.compLoop e d (.ref I) (.ref D) c.env ∧ ∃ m,m < (x :: post).length + 1 ∧ ∃ b σ pre post,b₀.StaysIn b ∧ Sim c b k σ s' ∧ items = pre ++ post ∧ m = post.length + 1 ∧ At pre.length b k s'.heap ∧ OffI c b k σ I ∧ Inv pre σ) ∨ (c'.quiet = true ∧ codeAny (model c.prog c.w) c.A c' (fun r s'=>match r with | .ok f=>∃ b σ,b₀.StaysIn b ∧ Sim c b k σ s' ∧ W σ | .error _=>False) s')) (fun _ _=>False) s₃:=fun b₃ s₃ σ₃ t₃ S₃ hq=>by
   have stA:b₀.StaysIn b₃:=stays_trans st t₃
   refine wpAny_pure (.inl ⟨rfl,post.length + 1,by simp,b₃,σ₃,pre ++ [x],post,stA,S₃.less kk kr S.flk,by rw [e'];simp,rfl,?_,?_,hq⟩)
   ·have:At (pre.length + 1) b₃ k s₃.heap:=X.stay c rfl _ b k h' b₃ σ₃ s₃ oI hit' S'.kb S'.kk hoI (S₃.kk.at (O.nfl S) hkI) t₃ (S₃.less kk kr S.flk)
    simpa using this
   ·exact ⟨S₃.bk _ _ hkI,O.k,O.L,(fun q hq e=>by have:=(S₃.led q hq).2.2.1;rw [e,hkI] at this;cases this),O.c⟩
  refine wpAny_bind (gst (turn pre x post σ e' hI b (insH k I oI) _ v SA ry) (fun b₂ _ σ₂ _ s₂ t₂ S₂ _ h₂=>?_))
  refine wpAny_bind (gst (h₂ b₂ (insH k I oI) s₂ S₂) (fun b₃ y₃ σ₃ ok s₃ t₃ S₃ r₃ h₃=>?_))
  subst r₃
  cases ok with
  | false=>
   first | refine wpI_F Bool.false_ne_true ?_ | rw [if_neg Bool.false_ne_true]
   exact wpAny_mono (nexts b₃ s₃ σ₃ (stays_trans t₂ t₃) S₃ h₃) (fun _ _ z=>z) fun _ _ z=>z.elim
  | true=>
   first | refine wpI_T rfl ?_ | rw [if_pos rfl]
   refine h₃ b₃ (insH k I oI) s₃ S₃ _ _ _ fun b₄ s₄ σ₄ t₄ S₄ h₄=>?_
   exact wpAny_mono (nexts b₄ s₄ σ₄ (stays_trans t₂ (stays_trans t₃ t₄)) S₄ h₄) (fun _ _ z=>z) fun _ _ z=>z.elim
theorem comp_start {e:Expr} {gens:List Comprehension} {d:Nat} {g:Comprehension} {D I:Addr} {items:List AV} {Ok:St → Prop} {At:Nat → Heap → Heap → Heap → Prop} {k b₀:Heap} {σ₀:St} {s₀:Shared}
  {R:Result → Shared → Prop} (hc:IsC e gens) (hg:gens[d]? = some g) (ha:(g.is_async != 0) = false) (X:Iter c b₀ k σ₀ s₀ I items Ok At) (h:codeAny (model c.prog c.w) c.A (.compLoop e d (.ref I) (.ref D) c.env) R s₀) :
  codeAny (model c.prog c.w) c.A (.compStart e d (.ref I) (.ref D) c.env) R s₀:=by
 have hund:c.A.under (Code.compStart e d (.ref I) (.ref D) c.env) = c.A:=by cases hc <;> exact Around.under_of_weight rfl
 have hden:denote table (Code.compStart e d (.ref I) (.ref D) c.env) = (compStart e d (.ref I) (.ref D) c.env).onRaise (fun x=>do noteFrame x c.env;standAt theWindowsPlace):=by cases hc <;> rfl
 refine codeAny_of_tree ?_
 rw [hund]
 show wpAny _ c.A (denote table (Code.compStart e d (.ref I) (.ref D) c.env)) _ _ s₀
 rw [hden]
 refine wpAny_notedAt ?_
 have fin:wpAny (model c.prog c.w) c.A (again (Code.compLoop e d (.ref I) (.ref D) c.env)) (fun fin s'=>match fin with | .done f=>R (.ok f) s' | .again c'=>c'.quiet = true ∧ codeAny (model c.prog c.w) c.A c' R s')
   (notedBy (model c.prog c.w) c.A c.env fun e s'=>R (.error e) s') s₀:=wpAny_pure ⟨rfl,h⟩
 have hcl:clausesOf e = gens:=by cases hc <;> rfl
 unfold compStart
 rw [hcl,hg]
 simp only [Option.elim_some,ha,Bool.false_eq_true,if_false]
 refine wpAny_bind (wpAny_askSetting ?_)
 split
 ·exact fin
 ·exact wpAny_bind (wpAny_rule (wpAny_bind (wpAny_standAt (wpAny_bind (X.self b₀ k s₀ _ _ X.it fin)))))
theorem Emi.lst {elt:Expr} {gens:List Comprehension} {scope:Scope} {pos:Pos} {d:Nat} {D:Addr} {σ:St} {P:St → Prop} (hg:gens[d + 1]? = none)
  (h:Ev c elt σ fun y σ₁=>∃ pre xs post,σ₁.H = pre ++ (D,.list xs) :: post ∧ xs.length ≤ sizeLine ∧ P { σ₁ with H:=pre ++ (D,.list (xs ++ [y])) :: post }):Emi c (.ListComp elt gens scope pos) gens d D σ P:=fun b k s S rest QQ EE hr=>by
 unfold emitK
 rw [hg]
 dsimp only [lastT]
 refine wpAny_bind (wpAny_bind (gst (h b k s S) (fun b₁ y σ₁ v s₁ t₁ S₁ r₁ hZ=>?_)))
 obtain ⟨pre,xs,post,hH,hl,hP⟩:=hZ
 obtain ⟨⟨vs,q,z⟩,_⟩:=S₁.led (D,.list xs) (by rw [hH];exact List.mem_append_right _ (.head _))
 have hvl:=VRs.length z
 refine wpAny_bind (wpAny_list_append_plain q.plain (fun h' q' hs=>wpAny_pure ?_) (by simp only [List.size_toArray,hvl];exact hl))
 refine hr b₁ _ _ t₁ (S₁.upd hH hs (y:=.list (xs ++ [y])) ⟨vs ++ [v],?_,VRs.append z (VRs.one r₁)⟩ s₁.toks) hP
 obtain ⟨n,e⟩:=q'
 exact ⟨n,by rw [e];simp⟩
theorem Emi.nest {e:Expr} {gens:List Comprehension} {d:Nat} {g':Comprehension} {D:Addr} {σ:St} {P:St → Prop} (hc:IsC e gens) (hg:gens[d + 1]? = some g') (ha:(g'.is_async != 0) = false)
  (h:Ev c g'.iter σ fun y σ₁=>∃ items,Itb c y σ₁ items ∧ ∃ Inv:List AV → St → Prop,Inv [] σ₁ ∧
   (∀ pre x post σ,items = pre ++ x :: post → Inv pre σ → Asn c g'.target x σ (kEm c g'.ifs e gens (d + 1) D (Inv (pre ++ [x])))) ∧ (∀ σ,Inv items σ → P σ))
  (hs:∀ x,foldedSetIterable g'.iter c.env x = pure x:=by intro _;rfl):Emi c e gens d D σ P:=fun b k s S rest QQ EE hr=>by
 unfold emitK
 rw [hg]
 dsimp only
 rw [ha]
 refine wpAny_bind (gst (h b k s S) (fun b₁ y σ₁ v s₁ t₁ S₁ r₁ hZ=>?_))
 obtain ⟨items,hi,Inv,h0,turn,done⟩:=hZ
 refine wpAny_bind (wpAny_standAt (wpAny_bind ?_))
 refine wpAny_of_eq (hs v) (wpAny_bind (wpAny_holding ?_))
 refine wpAny_mono (hi b₁ k s₁ v S₁ r₁ _ fun I s' At X S'=>?_) (fun _ _ z=>z) fun _ _ z=>z.elim
 refine wpAny_bind (wpAny_runOwn ?_)
 refine codeAny_mono (comp_start hc hg ha X (comp_core hc hg ha X S' Inv h0 turn done fun _ _ _=>trivial)) fun r s'' z=>?_
 cases r with
 | ok f=>
  obtain ⟨b₂,σ₂,t₂,S₂,hP⟩:=z
  exact hr b₂ s'' σ₂ (stays_trans t₁ t₂) S₂ hP
 | error e=>exact z.elim
noncomputable def clFor (cells:List (PySem.Str × Addr)):List (PySem.Str × NameKind) → List (PySem.Str × Addr) → List (PySem.Str × Addr)
 | [],acc=>acc
 | (n,k) :: r,acc=>match k == .free,cells.lookup n with
  | true,some a=>clFor cells r ((n,a) :: acc)
  | _,_=>clFor cells r acc
theorem clFor_mem (cells:List (PySem.Str × Addr)):∀ (names:List (PySem.Str × NameKind)) (acc:List (PySem.Str × Addr)),(∀ x a,(x,a) ∈ acc → cells.lookup x = some a) → ∀ x a,(x,a) ∈ clFor cells names acc → cells.lookup x = some a
 | [],_,h,x,a,e=>h x a e
 | (n,k) :: r,acc,h,x,a,e=>by
  unfold clFor at e
  split at e
  ·rename_i a' _ q
   refine clFor_mem cells r _ (fun y u hu=>?_) x a e
   rcases List.mem_cons.mp hu with z | z
   ·cases z;exact q
   ·exact h y u z
  ·exact clFor_mem cells r acc h x a e
theorem closure_is {scope:Scope} {env:Env} (h:(scope.names.all fun x=>!(x.2 == .free) || (env.cells.lookup x.1).isSome) = true):closureFor scope env = pure (clFor env.cells scope.names []):=by
 unfold closureFor
 have key:∀ (names:List (PySem.Str × NameKind)) (acc:List (PySem.Str × Addr)),(names.all fun x=>!(x.2 == .free) || (env.cells.lookup x.1).isSome) = true →
   (forIn names acc fun x r=>(match x with | (name,kind)=>if kind == .free then (do let a ← cellOf env name;pure (ForInStep.yield ((name,a) :: r))) else pure (ForInStep.yield r):Sem (ForInStep (List (PySem.Str × Addr))))) = pure (clFor env.cells names acc):=by
  intro names
  induction names with
  | nil=>intro acc _;rw [List.forIn_nil];rfl
  | cons x r ih=>
   intro acc hq
   obtain ⟨n,k⟩:=x
   rw [List.all_cons,Bool.and_eq_true] at hq
   rw [List.forIn_cons]
   unfold clFor
   cases hk:k == .free with
   | false=>
    simp only [hk,Bool.false_eq_true,if_false]
    exact ih acc hq.2
   | true=>
    have:(env.cells.lookup n).isSome = true:=by simpa [hk] using hq.1
    obtain ⟨a,ha⟩:=Option.isSome_iff_exists.mp this
    simp only [hk,if_true,ha]
    have hc:cellOf env n = pure a:=by unfold cellOf;rw [ha]
    rw [hc]
    exact ih _ hq.2
 have z:=key scope.names [] h
 exact congrArg (fun t:Sem (List (PySem.Str × Addr))=>t >>= fun cs=>pure cs) z
end
end Lw
end
section
open PySem PySem.Calls PySem.W PyProof.Rows
namespace Lw
noncomputable def rest (h b:Heap) (vis:List Addr):Heap:={ h with objs:=h.objs.mapIdx fun i o=>if (b.get? i).isSome || vis.contains i then ({ cls:=.none,data:=.freed }:Obj) else o }
theorem rest_get (h b:Heap) (vis:List Addr) (a:Addr) (o:Obj):(rest h b vis).get? a = some o ↔ h.get? a = some o ∧ b.get? a = none ∧ a ∉ vis:=by
 rw [Heap.get?_some_iff,Heap.get?_some_iff]
 simp only [rest,Array.getElem?_mapIdx]
 cases hx:h.objs[a]? with
 | none=>simp
 | some ob=>
  simp only [Option.map_some,Option.some.injEq]
  by_cases hc:((b.get? a).isSome || vis.contains a) = true
  ·rw [if_pos hc]
   constructor
   ·rintro ⟨rfl,e⟩;cases e
   ·rintro ⟨_,e1,e2⟩
    rw [e1] at hc
    simp at hc
    exact absurd hc e2
  ·rw [if_neg hc]
   simp only [Bool.not_eq_true,Bool.or_eq_false_iff,Option.isSome_eq_false_iff,Option.isNone_iff_eq_none,List.contains_eq_mem,decide_eq_false_iff_not] at hc
   exact ⟨fun z=>⟨z,hc⟩,fun z=>z.1⟩
theorem Sim.leave {W₀:Wld} {c c':Cx W₀} {b b₂ k:Heap} {σ₁ σ₂:St} {s s₂:Shared} {vis:List Addr}
  (S:Sim c b k σ₁ s) (st:b.StaysIn b₂) (S₂:Sim c' b₂ (rest s.heap b vis) σ₂ s₂) (hL:c.L ∉ vis) (hk:∀ a ∈ vis,k.get? a = none) (hc:∀ x a,c.env.cells.lookup x = some a → a ∉ vis) (hfl:∀ a ∈ c'.fl,a ∈ c.fl ∨ a ∈ vis) (hgz:c'.gz = c.gz:=by rfl) :
  Sim c b₂ k { σ₁ with H:=σ₂.H } s₂:=by
 have kin:∀ a o,k.get? a = some o → ∃ sl,(rest s.heap b vis).get? a = some { o with slots:=sl } ∧ (a ∉ c.fl → sl = o.slots):=fun a o e=>
  let ⟨sl,e1,z⟩:=S.kk a o e
  ⟨sl,(rest_get _ _ _ _ _).mpr ⟨e1,S.bk a o e,fun hm=>by rw [hk a hm] at e;cases e⟩,z⟩
 refine byG fun Gq kq=>?_
 obtain ⟨m,⟨oL,es,ep,ho,r⟩,hm⟩:=S.ns
 refine kq ?_
 have hLk:(rest s.heap b vis).get? c.L = some oL:=(rest_get _ _ _ _ _).mpr ⟨ho,S.offL.1,hL⟩
 have offk:∀ q ∈ σ₂.H,∀ a o,(rest s.heap b vis).get? a = some o → q.1 ≠ a:=fun q hq a o e e'=>by
  have:=(S₂.led q hq).2.2.1
  rw [e',e] at this;cases this
 exact {
  g0:=stays_trans S.g0 st
  kb:=S₂.kb
  kk:=fun a o e=>by
   refine byG fun Gq kq=>?_
   obtain ⟨sl,e1,z⟩:=kin a o e
   obtain ⟨sl2,e2,z2⟩:=S₂.kk a _ e1
   refine kq ?_
   refine ⟨sl2,e2,fun hn=>?_⟩
   rw [z2 (fun hm=>?_),z hn]
   rcases hfl a hm with h1 | h1
   ·exact hn h1
   ·rw [hk a h1] at e;cases e
  flk:=S.flk
  bk:=fun a o e=>let ⟨_,e1,_⟩:=kin a o e;S₂.bk a _ e1
  ns:=let ⟨_,e1,_⟩:=S₂.kk _ _ hLk;⟨m,⟨_,es,ep,e1,r⟩,fun x y e=>let ⟨v,e',z⟩:=hm x y e;⟨v,e',VR.mono st _ z⟩⟩
  offL:=⟨S₂.bk _ _ hLk,S.offL.2⟩
  cells:=fun x a hx=>by
   refine byG fun Gq kq=>?_
   obtain ⟨⟨v,⟨o,e,d⟩,z,zr⟩,q1,q2,q3,q4⟩:=S.cells x a hx
   have hak:(rest s.heap b vis).get? a = some o:=(rest_get _ _ _ _ _).mpr ⟨e,q1,hc x a hx⟩
   obtain ⟨_,e1k,_⟩:=S₂.kk _ _ hak
   refine kq ?_
   exact ⟨⟨v,⟨_,e1k,d⟩,(fun y e'=>let ⟨u,e1,z1⟩:=z y e';⟨u,e1,VR.mono st _ z1⟩),zr⟩,S₂.bk _ _ hak,q2,q3,fun q hq=>offk q hq a o hak⟩
  cinj:=S.cinj
  led:=fun q hq=>by
   refine byG fun Gq kq=>?_
   obtain ⟨x,y1,y2,y3⟩:=S₂.led q hq
   refine kq ?_
   refine ⟨x,y1,?_,offk q hq _ _ hLk⟩
   ·cases e:k.get? q.1 with
    | none=>rfl
    | some o=>obtain ⟨_,e1,_⟩:=kin _ _ e;exact absurd rfl (offk q hq _ _ e1)
  nd:=S₂.nd
  os:=S₂.os.trans (by unfold Cx.os;rw [hgz])
  gens:=⟨fun e=>S₂.gens.1 (hgz.trans e),fun z e=>S₂.gens.2 z (hgz.trans e)⟩ }
theorem cellsFrom_append:∀ (names:List (PySem.Str × NameKind)) (n:Nat) (acc:List (PySem.Str × Addr)),cellsFrom n names acc = cellsFrom n names [] ++ acc
 | [],_,_=>rfl
 | (x,k) :: r,n,acc=>by
  unfold cellsFrom
  split
  ·rw [cellsFrom_append r (n + 1) ((x,n) :: acc),cellsFrom_append r (n + 1) [(x,n)],List.append_assoc];rfl
  ·exact cellsFrom_append r n acc
theorem cellsFrom_map:∀ (names:List (PySem.Str × NameKind)) (n m:Nat) (acc acc':List (PySem.Str × Addr)),acc.map (·.1) = acc'.map (·.1) → (cellsFrom n names acc).map (·.1) = (cellsFrom m names acc').map (·.1)
 | [],_,_,_,_,h=>h
 | (x,k) :: r,n,m,acc,acc',h=>by
  unfold cellsFrom
  split
  ·exact cellsFrom_map r _ _ _ _ (by simp [h])
  ·exact cellsFrom_map r _ _ _ _ h
theorem lookup_isSome {α:Type} (l:List (PySem.Str × α)) (x:PySem.Str):(l.lookup x).isSome = (l.map (·.1)).contains x:=by
 induction l with
 | nil=>rfl
 | cons q l ih=>
  obtain ⟨y,v⟩:=q
  rw [List.lookup_cons,List.map_cons,List.contains_cons]
  cases h:x == y with
  | true=>rfl
  | false=>simpa using ih
noncomputable def ownCell (scope:Scope) (x:PySem.Str):Bool:=((cellsFrom 0 scope.names []).map (·.1)).contains x
theorem ownCell_eq (scope:Scope) (n:Nat) (x:PySem.Str):((cellsFrom n scope.names []).lookup x).isSome = ownCell scope x:=by
 rw [lookup_isSome,cellsFrom_map scope.names n 0 [] [] rfl];rfl
noncomputable def compCx {W₀:Wld} (c:Cx W₀) (scope:Scope) (hk:scope.kind = .function) (C:Addr):Cx W₀:=
 {c with
  env:={ scope:=relabel scope c.env,locals:=C,globals:=c.env.globals,cells:=cellsFrom (C + 1) scope.names [] ++ clFor c.env.cells scope.names [],qual:=c.env.qual,func:=Option.none,code:=c.env.code,frame:=c.env.frame,builtins:=c.env.builtins }
  hk:=hk
  ro:=fun x=>!ownCell scope x
  fz:=false }
theorem newCompEnv {M:Model} {A:Around} {E:Value → Shared → Prop} {s:Shared} {scope:Scope} {env:Env} {cl:List (PySem.Str × Addr)} {Q:Env → Shared → Prop}
  (h:Q { scope,locals:=s.heap.objs.size,globals:=env.globals,cells:=cellsFrom (s.heap.objs.size + 1) scope.names cl,qual:=env.qual,func:=none,code:=env.code,frame:=env.frame,builtins:=env.builtins }
   {s with heap:=pushCells (s.heap.push { cls:=.type "dict",data:=.dict #[] }) scope.names }) :
  wpAny M A (newFunctionEnv scope env.globals cl [] env.qual none .none (some env)) Q E s:=by
 simp only [newFunctionEnv,Option.isSome_some,if_true]
 refine wpAny_bind (wpAny_alloc ?_)
 refine wpAny_bind (wpAny_layCells _ (fun name kind cells=>by cases hkc:kind == NameKind.cell <;> simp [hkc]) _ _ _ _ ?_)
 rw [show ({ s with heap:=s.heap.push { cls:=.type "dict",data:=.dict #[] } }:Shared).heap.objs.size = s.heap.objs.size + 1 from Heap.size_push ..]
 rw [List.forIn_nil]
 exact wpAny_bind (wpAny_pure (wpAny_pure h))
section
variable {W₀:Wld} {c:Cx W₀}
theorem comp_enter {b k:Heap} {σ:St} {s:Shared} {scope:Scope} (hk:scope.kind = .function) (hfree:(scope.names.all fun x=>!(x.2 == .free) || (c.env.cells.lookup x.1).isSome) = true)
  {I:Addr} {items:List AV} {Ok:St → Prop} {At:Nat → Heap → Heap → Heap → Prop} (X:Iter c b k σ s I items Ok At) (S:Sim c b k σ s) (hI:OffI c b k σ I) :
  let s₄:Shared:={ s with heap:=pushCells (s.heap.push { cls:=.type "dict",data:=.dict #[] }) scope.names }
  let c':=compCx c scope hk s.heap.objs.size
  let σ':St:={ m:=[],cl:=σ.cl.filter fun q=>c'.ro q.1,H:=σ.H }
  let vis:=s.heap.objs.size :: I :: ((cellsFrom (s.heap.objs.size + 1) scope.names []).map (·.2) ++ σ.H.map (·.1))
  Sim c b k σ s₄ ∧ Sim c' b (rest s₄.heap b vis) σ' s₄ ∧ Iter c' b (rest s₄.heap b vis) σ' s₄ I items Ok At ∧ c.L ∉ vis ∧ (∀ a ∈ vis,k.get? a = none) ∧ (∀ x a,c.env.cells.lookup x = some a → a ∉ vis):=by
 intro s₄ c' σ' vis
 have keep:s.heap.StaysIn s₄.heap:=fun a o e=>pushCells_keeps _ _ a o (Heap.get?_push_of_some _ e)
 have S₄:Sim c b k σ s₄:=S.grow (s':=s₄) keep rfl S.gens
 refine byG fun Gq kq=>?_
 obtain ⟨f1,f2,f3,f4,f5⟩:=S.fresh
 refine kq ?_
 have okc:=cellsFrom_ok scope.names (s.heap.push { cls:=.type "dict",data:=.dict #[] }) (s.heap.objs.size + 1) [] ⟨fun _ _ hm=>(nomatch hm),List.Pairwise.nil⟩ (by rw [Heap.size_push];exact Nat.le_refl _)
 rw [Heap.size_push] at okc
 have high:∀ x a,(x,a) ∈ cellsFrom (s.heap.objs.size + 1) scope.names [] → s.heap.objs.size < a:=fun x a hm=>(okc.empty x a hm).2
 have none_high:∀ {h:Heap} {a:Addr},StaysB c.fl h s.heap → s.heap.objs.size ≤ a → h.get? a = none:=fun {h a} st hl=>by
  cases q:h.get? a with
  | none=>rfl
  | some o=>obtain ⟨o',e⟩:=st.there q;exact absurd (Heap.lt_size e) (Nat.not_lt.mpr hl)
 have low:∀ {a:Addr} {o:Obj},s.heap.get? a = some o → a < s.heap.objs.size:=fun e=>Heap.lt_size e
 have hLlow:c.L < s.heap.objs.size:=let ⟨m,hn,_⟩:=S.ns;hn.lt
 refine byG fun Gq kq=>?_
 obtain ⟨oI,hoI,_⟩:=X.there _ _ _ _ X.it
 refine kq ?_
 have hcl:∀ x a,(clFor c.env.cells scope.names []).lookup x = some a → c.env.cells.lookup x = some a:=fun x a e=>clFor_mem c.env.cells scope.names [] (fun _ _ hm=>(nomatch hm)) x a (mem_of_lookup e)
 have visH:∀ q ∈ σ.H,q.1 ∈ vis:=fun q hq=>List.mem_cons_of_mem _ (List.mem_cons_of_mem _ (List.mem_append_right _ (List.mem_map_of_mem hq)))
 have offOwn:∀ a,a < s.heap.objs.size → a ≠ I → (∀ q ∈ σ.H,q.1 ≠ a) → a ∉ vis:=fun a hlt hne hH hm=>by
  rcases List.mem_cons.mp hm with h1 | hm
  ·exact Nat.lt_irrefl _ (h1 ▸ hlt)
  rcases List.mem_cons.mp hm with h1 | hm
  ·exact hne h1
  rcases List.mem_append.mp hm with h1 | h1
  ·refine byG fun Gq kq=>?_
   obtain ⟨⟨x,a'⟩,hq,e⟩:=List.mem_map.mp h1
   refine kq ?_
   have h2:=high x a' hq
   have h3:a' = a:=e
   lia
  ·refine byG fun Gq kq=>?_
   obtain ⟨q,hq,e⟩:=List.mem_map.mp h1
   refine kq ?_
   exact hH q hq e
 have hLv:c.L ∉ vis:=offOwn _ hLlow (Ne.symm hI.L) fun q hq=>(S.led q hq).2.2.2
 have hcv:∀ x a,c.env.cells.lookup x = some a → a ∉ vis:=fun x a hx=>by
  refine byG fun Gq kq=>?_
  obtain ⟨⟨v,⟨o,e,d⟩,_⟩,q1,q2,q3,q4⟩:=S.cells x a hx
  refine kq ?_
  exact offOwn a (low e) (hI.c x a hx) q4
 have hkv:∀ a ∈ vis,k.get? a = none:=fun a hm=>by
  rcases List.mem_cons.mp hm with rfl | hm
  ·exact f2
  rcases List.mem_cons.mp hm with rfl | hm
  ·exact hI.k
  rcases List.mem_append.mp hm with h1 | h1
  ·refine byG fun Gq kq=>?_
   obtain ⟨⟨x,a'⟩,hq,rfl⟩:=List.mem_map.mp h1
   refine kq ?_
   exact none_high S.kk (Nat.le_of_lt (high x a' hq))
  ·refine byG fun Gq kq=>?_
   obtain ⟨q,hq,rfl⟩:=List.mem_map.mp h1
   refine kq ?_
   exact (S.led q hq).2.2.1
 have restNone:∀ a ∈ vis,(rest s₄.heap b vis).get? a = none:=fun a hm=>by
  cases q:(rest s₄.heap b vis).get? a with
  | none=>rfl
  | some o=>exact absurd hm ((rest_get _ _ _ _ _).mp q).2.2
 have lk:∀ x a,c'.env.cells.lookup x = some a → ((cellsFrom (s.heap.objs.size + 1) scope.names []).lookup x = some a ∧ c'.ro x = false) ∨ (c.env.cells.lookup x = some a ∧ c'.ro x = true):=fun x a hx=>by
  have hx':(cellsFrom (s.heap.objs.size + 1) scope.names [] ++ clFor c.env.cells scope.names []).lookup x = some a:=hx
  rw [List.lookup_append] at hx'
  cases h1:(cellsFrom (s.heap.objs.size + 1) scope.names []).lookup x with
  | some a'=>
   rw [h1] at hx'
   refine .inl ⟨hx',?_⟩
   have:=ownCell_eq scope (s.heap.objs.size + 1) x
   rw [h1] at this
   show (!ownCell scope x) = false
   rw [← this];rfl
  | none=>
   rw [h1] at hx'
   refine .inr ⟨hcl x a hx',?_⟩
   have:=ownCell_eq scope (s.heap.objs.size + 1) x
   rw [h1] at this
   show (!ownCell scope x) = true
   rw [← this];rfl
 have S':Sim c' b (rest s₄.heap b vis) σ' s₄:={
  g0:=S.g0
  kb:=S₄.kb
  kk:=.of fun a o e=>((rest_get _ _ _ _ _).mp e).1
  flk:=fun a ha=>.inr (by
   rcases S₄.flk a ha with e | ⟨o,e,d⟩
   ·subst e
    refine byG fun Gq kq=>?_
    obtain ⟨m,⟨oL,es,ep,ho,hd⟩,_⟩:=S₄.ns
    refine kq ?_
    exact ⟨oL,(rest_get _ _ _ _ _).mpr ⟨ho,S.offL.1,hLv⟩,fun vs q=>by rw [hd.1] at q;cases q⟩
   ·refine byG fun Gq kq=>?_
    obtain ⟨sl,e1,_⟩:=S₄.kk _ _ e
    refine kq ?_
    exact ⟨_,(rest_get _ _ _ _ _).mpr ⟨e1,S.bk _ _ e,fun hm=>by rw [hkv a hm] at e;cases e⟩,d⟩)
  bk:=fun a o e=>((rest_get _ _ _ _ _).mp e).2.1
  ns:=⟨fun _=>none,(Heap.Ns.new s.heap (.type "dict")).keeps (pushCells_keeps _ _),fun x y e=>by cases e⟩
  offL:=⟨f1,fun _=>restNone _ (List.mem_cons_self ..)⟩
  cells:=fun x a hx=>by
   rcases lk x a hx with ⟨h1,h2⟩ | ⟨h1,h2⟩
   ·have hm:=mem_of_lookup h1
    have z:=okc.empty x a hm
    have hv:a ∈ vis:=List.mem_cons_of_mem _ (List.mem_cons_of_mem _ (List.mem_append_left _ (List.mem_map.mpr ⟨_,hm,rfl⟩)))
    refine ⟨⟨none,z.1,fun y e=>?_,fun h=>by rw [h2] at h;cases h⟩,none_high (.of S.kb) (Nat.le_of_lt z.2),fun _=>restNone a hv,Nat.ne_of_gt z.2,fun q hq e=>?_⟩
    ·exfalso
     have hmem:=mem_of_lookup e
     have:=(List.mem_filter.mp hmem).2
     rw [h2] at this;cases this
    ·obtain ⟨ob,ho⟩:=(S.led q hq).1.there
     rw [e] at ho
     exact Nat.lt_irrefl _ (Nat.lt_trans (low ho) z.2)
   ·refine byG fun Gq kq=>?_
    obtain ⟨⟨v,⟨o,e,d⟩,z,zr⟩,q1,q2,q3,q4⟩:=S₄.cells x a h1
    obtain ⟨⟨v0,⟨o0,e0,d0⟩,_⟩,_⟩:=S.cells x a h1
    refine kq ?_
    have hak:(rest s₄.heap b vis).get? a = some o:=(rest_get _ _ _ _ _).mpr ⟨e,q1,hcv x a h1⟩
    refine ⟨⟨v,⟨o,e,d⟩,fun y e'=>z y ?_,fun _=>⟨o,hak,d⟩⟩,q1,(fun h=>by rw [h2] at h;cases h),Nat.ne_of_lt (low e0),q4⟩
    have:∀ (l:List (PySem.Str × AV)),(l.filter fun q=>c'.ro q.1).lookup x = some y → c'.ro x = true → l.lookup x = some y:=fun l=>by
     induction l with
     | nil=>intro h _;exact h
     | cons q l ih=>
      obtain ⟨xq,yq⟩:=q
      intro h hr
      rw [List.lookup_cons]
      cases hxq:x == xq with
      | true=>
       have hxe:x = xq:=beq_iff_eq.mp hxq
       subst hxe
       rw [List.filter_cons,if_pos hr,List.lookup_cons,hxq] at h
       exact h
      | false=>
       refine ih ?_ hr
       rw [List.filter_cons] at h
       split at h
       ·rw [List.lookup_cons,hxq] at h;exact h
       ·exact h
    exact this σ.cl e' h2
  cinj:=fun x y a hx hy=>by
   rcases lk x a hx with ⟨h1,_⟩ | ⟨h1,_⟩ <;> rcases lk y a hy with ⟨h2,_⟩ | ⟨h2,_⟩
   ·exact name_of_addr okc.apart (mem_of_lookup h1) (mem_of_lookup h2)
   ·refine byG fun Gq kq=>?_
    obtain ⟨⟨v,⟨o,e,d⟩,_⟩,_⟩:=S.cells y a h2
    refine kq ?_
    exact absurd (Nat.lt_trans (low e) (high x a (mem_of_lookup h1))) (Nat.lt_irrefl _)
   ·refine byG fun Gq kq=>?_
    obtain ⟨⟨v,⟨o,e,d⟩,_⟩,_⟩:=S.cells x a h1
    refine kq ?_
    exact absurd (Nat.lt_trans (low e) (high y a (mem_of_lookup h2))) (Nat.lt_irrefl _)
   ·exact S.cinj x y a h1 h2
  led:=fun q hq=>by
   refine byG fun Gq kq=>?_
   obtain ⟨x,y1,y2,y3⟩:=S₄.led q hq
   obtain ⟨ob,ho⟩:=(S.led q hq).1.there
   refine kq ?_
   exact ⟨x,y1,restNone _ (visH q hq),Nat.ne_of_lt (low ho)⟩
  nd:=S.nd
  os:=S.os
  gens:=S.gens }
 refine ⟨S₄,S',?_,hLv,hkv,hcv⟩
 have hlowI:I < s.heap.objs.size:=low hoI
 exact {
  item:=fun c'' h1 h2=>X.item c'' h1 h2
  fin:=fun c'' h1 h2=>X.fin c'' h1 h2
  self:=X.self
  it:=X.enter _ _ _ _ _ X.it keep fun a o ha e=>(rest_get _ _ _ _ _).mpr ⟨S₄.kk.at ha e,S.bk _ _ e,fun hm=>by rw [hkv a hm] at e;cases e⟩
  there:=X.there
  off:=⟨hI.b,restNone _ (List.mem_cons_of_mem _ (List.mem_cons_self ..)),Nat.ne_of_lt hlowI,hI.H,fun x a hx e=>by
   rcases lk x a hx with ⟨h1,_⟩ | ⟨h1,_⟩
   ·have:=high x a (mem_of_lookup h1);rw [e] at this;exact Nat.lt_irrefl _ (Nat.lt_trans this hlowI)
   ·exact hI.c x a h1 e⟩
  stay:=fun c'' h1=>X.stay c'' h1
  enter:=X.enter }
theorem Iter.newLed {b k:Heap} {σ:St} {s:Shared} {I:Addr} {items:List AV} {Ok:St → Prop} {At:Nat → Heap → Heap → Heap → Prop} (X:Iter c b k σ s I items Ok At) (o:Obj) (y:AO) :
  Iter c b k { σ with H:=(s.heap.objs.size,y) :: σ.H } { s with heap:=s.heap.push o } I items Ok At:=by
 obtain ⟨oI,hoI,_⟩:=X.there _ _ _ _ X.it
 have hH:∀ q ∈ (s.heap.objs.size,y) :: σ.H,q.1 ≠ I:=by
  intro q hq
  rcases List.mem_cons.mp hq with rfl | hq
  ·exact Ne.symm (Nat.ne_of_lt (Heap.lt_size hoI))
  ·exact X.off.H q hq
 exact { X with
  it:=X.enter _ _ _ _ _ X.it (stays_push _ _) fun _ _ _ e=>e
  off:=⟨X.off.b,X.off.k,X.off.L,hH,X.off.c⟩ }
noncomputable abbrev inComp (σ:St) (scope:Scope) (D:Addr) (y:AO):St:={ m:=[],cl:=σ.cl.filter fun q=>!ownCell scope q.1,H:=(D,y) :: σ.H }
theorem Sim.freezeH {b k:Heap} {σ:St} {s:Shared} {D:Addr} {z:AO} {pre post:List (Addr × AO)} (S:Sim c b k { σ with H:=pre ++ (D,z) :: post } s) {o:Obj} (ho:s.heap.get? D = some o) :
  b.StaysIn (insH b D o) ∧ (insH b D o).get? D = some o ∧ Sim c (insH b D o) k { σ with H:=pre ++ post } s:=by
 have hD:=S.led (D,z) (List.mem_append_right _ (.head _))
 have S₁:Sim c b k { σ with H:=pre ++ post } s:=S.weak (fun _ _ e=>e) (fun _ _ e=>e) (List.Sublist.append_left (List.sublist_cons_self _ _) _)
 have nd:=S.nd
 have hne:∀ q ∈ pre ++ post,q.1 ≠ D:=fun q hq e=>by
  have nd':(pre.map (·.1) ++ D :: post.map (·.1)).Nodup:=by simpa using nd
  rcases List.mem_append.mp hq with h1 | h1
  ·exact (List.nodup_append.mp nd').2.2 q.1 (List.mem_map_of_mem h1) D (.head _) e
  ·exact (List.nodup_cons.mp (List.nodup_append.mp nd').2.1).1 (List.mem_map.mpr ⟨q,h1,e⟩)
 exact S₁.freeze ho hD.2.1 hD.2.2.2 hne (fun x r hx=>Ne.symm ((S.cells x r hx).2.2.2.2 (D,z) (List.mem_append_right _ (.head _)))) hD.2.2.1
end
end Lw
end
section
open PySem PySem.Calls PySem.W PyProof.Rows
namespace Lw
noncomputable def KR (p:Program) (w:World) (b:Heap) (kw:List (PySem.Str × AV)) (kvs:List (PySem.Str × Value)):Prop:=kvs.map (·.1) = kw.map (·.1) ∧ VRs p w b (kw.map (·.2)) (kvs.map (·.2))
noncomputable def Cal {W₀:Wld} (c:Cx W₀) (f:Value) (as:List AV) (kw:List (PySem.Str × AV)) (σ:St) (Q:AV → St → Prop):Prop:=
 ∀ b k s vs kvs,Sim c b k σ s → c.VRs b as vs → KR c.prog c.w b kw kvs → wpAny (model c.prog c.w) c.A (call f vs kvs) (Post c k c.VR Q b) (fun _ _=>False) s
noncomputable def CalC {W₀:Wld} (c:Cx W₀) (f:Value) (as:List AV) (kw:List (PySem.Str × AV)) (σ:St) (Q:AV → St → Prop):Prop:=
 ∀ b k s vs kvs,Sim c b k σ s → c.VRs b as vs → KR c.prog c.w b kw kvs → codeAny (model c.prog c.w) c.A (.call f ⟨vs,kvs⟩) (fun r s'=>match r with | .ok (.ret v)=>Post c k c.VR Q b v s' | _=>False) s
theorem CalC.cal {W₀:Wld} {c:Cx W₀} {f:Value} {as:List AV} {kw:List (PySem.Str × AV)} {σ:St} {Q:AV → St → Prop} (h:CalC c f as kw σ Q):Cal c f as kw σ Q:=fun b k s vs kvs S r rk=>
 wpAny_call (codeAny_mono (h b k s vs kvs S r rk) fun r s z=>by
  rcases r with e | (v | _ | _ | _) <;> exact z)
structure IsFn (W₀:Wld) (f:Addr) (fd:FuncData) (body:List Stmt):Prop where
 obj:∃ o,W₀.g0.get? f = some o ∧ o.data = .func fd
 code:W₀.g0.CodeRec fd.code fd.qualname
 body:fd.body = .stmts body
 glob:fd.globals = mainGlobals
 blt:fd.builtins = builtinsNs
 clos:fd.closure = []
 kind:fd.scope.kind = .function
 co:fd.scope.isCoroutine = false
 gen:fd.scope.isGenerator = false
noncomputable def funCx {W₀:Wld} (c:Cx W₀) {f:Addr} {fd:FuncData} {body:List Stmt} (hf:IsFn W₀ f fd body) (L:Addr):Cx W₀:=
 let env:Env:=newEnv fd.scope L fd.globals (cellsFrom (L + 1) fd.scope.names []) (fd.qualname ++ ".<locals>.") (some f) fd.code none fd.builtins
 {A:=c.A.deeper env,env:=env,hh:=c.hh,hk:=hf.kind,hg:=hf.glob,hb:=hf.blt,gz:=c.gz,fl:=L :: c.fl,frs:=c.frs.map (env :: ·),
  hfr:=fun l h=>by
   obtain ⟨l',h1,rfl⟩:=Option.map_eq_some_iff.mp h
   obtain ⟨h2,h3⟩:=c.hfr l' h1
   refine ⟨Around.frames_deeper h2,fun e he=>?_⟩
   rcases List.mem_cons.mp he with rfl | he
   ·exact ⟨by show fd.scope.kind ≠ .module;rw [hf.kind];decide,L,.head _,rfl⟩
   ·obtain ⟨h4,a,h5,h6⟩:=h3 e he
    exact ⟨h4,a,.tail _ h5,h6⟩ }
noncomputable def Bind {W₀:Wld} (c:Cx W₀) (fd:FuncData) (as:List AV) (kw:List (PySem.Str × AV)) (bas:List (PySem.Str × AV)):Prop:=
 ∀ b k σ s vs kvs,Sim c b k σ s → c.VRs b as vs → KR c.prog c.w b kw kvs → ∃ binds,BindsTo s fd ⟨vs,kvs⟩ binds ∧ binds.map (·.1) = bas.map (·.1) ∧ c.VRs b (bas.map (·.2)) (binds.map (·.2))
noncomputable def BindG {W₀:Wld} (c:Cx W₀) (fd:FuncData) (as:List AV) (kw:List (PySem.Str × AV)) (bas:List (PySem.Str × AV)):Prop:=
 ∀ b k σ s vs kvs,Sim c b k σ s → c.VRs b as vs → KR c.prog c.w b kw kvs → ∀ (A:Around) (Q:List (PySem.Str × Value) → Shared → Prop) (E:Value → Shared → Prop),(∀ b' s' binds,b.StaysIn b' → Sim c b' k σ s' → s.heap.StaysIn s'.heap → binds.map (·.1) = bas.map (·.1) → c.VRs b' (bas.map (·.2)) (binds.map (·.2)) → Q binds s') →
  wpAny (model c.prog c.w) A (bindArgs fd ⟨vs,kvs⟩) Q E s
theorem Bind.g {W₀:Wld} {c:Cx W₀} {fd:FuncData} {as:List AV} {kw:List (PySem.Str × AV)} {bas:List (PySem.Str × AV)} (h:Bind c fd as kw bas):BindG c fd as kw bas:=fun b k σ s vs kvs S r rk A Q E hq=>by
 obtain ⟨binds,hb,hn,hv⟩:=h b k σ s vs kvs S r rk
 exact hb _ _ _ _ (hq b s binds (stays_refl _) S (stays_refl _) hn hv)
theorem bindL_get {kindOf:PySem.Str → Option NameKind}:∀ {binds:List (PySem.Str × Value)} {m₀:PySem.Str → Option Value} {x:PySem.Str},x ∉ binds.map (·.1) → bindL kindOf binds m₀ x = m₀ x
 | [],_,_,_=>rfl
 | (n,v) :: r,m₀,x,h=>by
  unfold bindL
  have h1:x ≠ n:=fun e=>h (by rw [e];exact .head _)
  rw [bindL_get (fun hm=>h (.tail _ hm))]
  split
  ·exact if_neg h1
  ·rfl
theorem bindC_get {kindOf:PySem.Str → Option NameKind}:∀ {binds:List (PySem.Str × Value)} {m₀:PySem.Str → Option Value} {x:PySem.Str},x ∉ binds.map (·.1) → bindC kindOf binds m₀ x = m₀ x
 | [],_,_,_=>rfl
 | (n,v) :: r,m₀,x,h=>by
  unfold bindC
  have h1:x ≠ n:=fun e=>h (by rw [e];exact .head _)
  rw [bindC_get (fun hm=>h (.tail _ hm))]
  split
  ·rfl
  ·exact if_neg h1
theorem bindL_has {kindOf:PySem.Str → Option NameKind}:∀ {binds:List (PySem.Str × Value)} {m₀:PySem.Str → Option Value} {x:PySem.Str} {v:Value},(binds.map (·.1)).Nodup → kindOf x = some .local → binds.lookup x = some v → bindL kindOf binds m₀ x = some v
 | [],_,_,_=>fun _ _ e=>by cases e
 | (n,w) :: r,m₀,x,v=>fun hn hk e=>by
  rw [List.lookup_cons] at e
  unfold bindL
  rw [List.map_cons,List.nodup_cons] at hn
  cases hx:x == n with
  | true=>
   obtain rfl:=beq_iff_eq.mp hx
   rw [hx] at e;cases e
   rw [bindL_get hn.1,if_pos hk]
   exact if_pos rfl
  | false=>
   rw [hx] at e
   exact bindL_has hn.2 hk e
theorem bindC_has {kindOf:PySem.Str → Option NameKind}:∀ {binds:List (PySem.Str × Value)} {m₀:PySem.Str → Option Value} {x:PySem.Str} {v:Value},(binds.map (·.1)).Nodup → kindOf x ≠ some .local → binds.lookup x = some v → bindC kindOf binds m₀ x = some v
 | [],_,_,_=>fun _ _ e=>by cases e
 | (n,w) :: r,m₀,x,v=>fun hn hk e=>by
  rw [List.lookup_cons] at e
  unfold bindC
  rw [List.map_cons,List.nodup_cons] at hn
  cases hx:x == n with
  | true=>
   obtain rfl:=beq_iff_eq.mp hx
   rw [hx] at e;cases e
   rw [bindC_get hn.1,if_neg hk]
   exact if_pos rfl
  | false=>
   rw [hx] at e
   exact bindC_has hn.2 hk e
theorem VRs.lookup {p:Program} {w:World} {b:Heap}:∀ {bas:List (PySem.Str × AV)} {binds:List (PySem.Str × Value)} {x:PySem.Str} {a:AV},binds.map (·.1) = bas.map (·.1) → VRs p w b (bas.map (·.2)) (binds.map (·.2)) → bas.lookup x = some a →
  ∃ v,binds.lookup x = some v ∧ VR p w b a v
 | [],_,_,_=>fun _ _ e=>by cases e
 | (n,a) :: r,[],_,_=>fun h _ _=>by cases h
 | (n,a) :: r,(n',v) :: r',x,y=>fun h hZ e=>by
  obtain ⟨u,t,e1,z1,z2⟩:=hZ
  obtain ⟨h1,h2⟩:=List.cons.inj h
  obtain ⟨h3,h4⟩:=List.cons.inj e1
  dsimp only at h1
  subst h1
  rw [List.lookup_cons] at e ⊢
  cases hx:x == n' with
  | true=>
   rw [hx] at e;cases e
   exact ⟨v,rfl,(show v = u from h3) ▸ z1⟩
  | false=>
   rw [hx] at e
   exact VRs.lookup h2 (h4 ▸ z2) e
theorem lookup_filter {α:Type} (P:PySem.Str → Bool) (l:List (PySem.Str × α)) (x:PySem.Str) (a:α) (h:(l.filter fun q=>P q.1).lookup x = some a):P x = true ∧ l.lookup x = some a:=by
 induction l with
 | nil=>cases h
 | cons q l ih=>
  obtain ⟨n,v⟩:=q
  rw [List.filter_cons] at h
  rw [List.lookup_cons]
  cases hx:x == n with
  | true=>
   obtain rfl:=beq_iff_eq.mp hx
   by_cases hp:P x = true
   ·rw [if_pos hp,List.lookup_cons,hx] at h
    exact ⟨hp,h⟩
   ·rw [if_neg hp] at h
    exact absurd (ih h).1 hp
  | false=>
   by_cases hp:P n = true
   ·rw [if_pos hp,List.lookup_cons,hx] at h
    exact ih h
   ·rw [if_neg hp] at h
    exact ih h
section
variable {W₀:Wld} {c:Cx W₀}
noncomputable abbrev inFun (fd:FuncData) (bas:List (PySem.Str × AV)) (H:List (Addr × AO)):St:=
 {m:=bas.filter fun q=>fd.scope.names.lookup q.1 == some .local,cl:=bas.filter fun q=>!(fd.scope.names.lookup q.1 == some .local),H:=H }
theorem Sim.slots {b k:Heap} {σ:St} {s:Shared} (S:Sim c b k σ s) (hz:c.fz = false) {h':Heap} (h1:∀ a o,a ∉ c.fl → s.heap.get? a = some o → h'.get? a = some o) (h2:s.heap.UpToSlots h'):Sim c b k σ { s with heap:=h' } where
 g0:=S.g0
 kb:=fun a o e=>h1 a o (fun hm=>by
  rcases S.flk a hm with rfl | ⟨o',e',_⟩
  ·rw [S.offL.1] at e;cases e
  ·rw [S.bk _ _ e'] at e;cases e) (S.kb a o e)
 kk:=fun a o e=>by
  obtain ⟨sl,e1,z⟩:=S.kk a o e
  by_cases hm:a ∈ c.fl
  ·rcases S.flk a hm with rfl | ⟨o',e',d⟩
   ·rw [S.offL.2 hz] at e;cases e
   ·rw [e] at e';cases e'
    obtain ⟨sl',e2⟩:=h2 a _ e1 d
    exact ⟨sl',e2,fun hn=>absurd hm hn⟩
  ·exact ⟨sl,h1 a _ hm e1,z⟩
 flk:=S.flk
 ns:=let ⟨m,hn,r⟩:=S.ns;⟨m,h2.ns hn,r⟩
 bk:=S.bk
 offL:=S.offL
 cells:=fun x a hx=>by
  obtain ⟨⟨v,⟨o,e,d⟩,r⟩,q⟩:=S.cells x a hx
  obtain ⟨sl,e'⟩:=h2 a o e (fun vs q=>by rw [d] at q;cases q)
  exact ⟨⟨v,⟨_,e',d⟩,r⟩,q⟩
 cinj:=S.cinj
 led:=fun q hq=>by
  obtain ⟨x,y1,y2,y3⟩:=S.led q hq
  refine ⟨x.stay (stays_refl _) fun o e=>h1 q.1 o (fun hm=>?_) e,y1,y2,y3⟩
  rcases S.flk q.1 hm with e' | ⟨o',e',_⟩
  ·exact y3 e'
  ·rw [y2] at e';cases e'
 nd:=S.nd
 os:=S.os
 gens:=S.gens
noncomputable def RsdX (c:Cx W₀) (b k:Heap) (X:St → Prop) (e:Value) (s:Shared):Prop:=
 ∃ b' σ' h a l,b.StaysIn b' ∧ e = .ref a ∧ Heap.MadeExcOf h s.heap a (.type "StopIteration") [] ∧ Sim c b' k σ' { s with heap:=h } ∧ c.frs = some l ∧ c.fz = false ∧ X σ'
noncomputable def RetX (c:Cx W₀) (b k:Heap) (X:St → Prop) (e:Value) (s:Shared):Prop:=
 ∃ b' σ' a ob,b.StaysIn b' ∧ Sim c b' k σ' s ∧ e = .ref a ∧ s.heap.get? a = some ob ∧ ob.cls = .type "StopIteration" ∧ X σ'
noncomputable def ExsX (c:Cx W₀) (ts:List Stmt) (σ:St) (Q:AF → St → Prop) (X:St → Prop):Prop:=∀ b k s,Sim c b k σ s → wpAny (model c.prog c.w) c.A (execs ts c.env) (Post c k (FR c) Q b) (RsdX c b k X) s
noncomputable def CalCX (c:Cx W₀) (f:Value) (as:List AV) (kw:List (PySem.Str × AV)) (σ:St) (Q:AV → St → Prop) (X:St → Prop):Prop:=
 ∀ b k s vs kvs,Sim c b k σ s → c.VRs b as vs → KR c.prog c.w b kw kvs → codeAny (model c.prog c.w) c.A (.call f ⟨vs,kvs⟩) (fun r s'=>match r with | .ok (.ret v)=>Post c k c.VR Q b v s' | .error e=>RetX c b k X e s' | _=>False) s
theorem call_fnCX {X:St → Prop} {f:Addr} {fd:FuncData} {body:List Stmt} {as:List AV} {kw bas:List (PySem.Str × AV)} {σ:St} {Q:AV → St → Prop} (hf:IsFn W₀ f fd body) (hroom:c.A.depth < recursionLimit)
  (hb:BindG c fd as kw bas) (hnd:(bas.map (·.1)).Nodup)
  (hkind:(bas.all fun q=>fd.scope.names.lookup q.1 == some .local || (fd.scope.names.lookup q.1 == some .cell && ownCell fd.scope q.1)) = true)
  (hcn:((cellsFrom 0 fd.scope.names []).map (·.1)).Nodup)
  (h:∀ L,ExsX (funCx c hf L) body (inFun fd bas σ.H) ((kFn σ Q)) (kXn σ X)) :
  CalCX c (.ref f) as kw σ Q X:=fun b k s vs kvs S r rk=>by
 refine byG fun Gq kq=>?_
 obtain ⟨o,ho,hd⟩:=hf.obj
 refine kq ?_
 have g0s₀:W₀.g0.StaysIn s.heap:=stays_trans S.g0 S.kb
 refine codeAny_call_function hroom (g0s₀ _ _ ho) hd hf.co hf.gen hf.body (hf.code.keeps g0s₀) (hb b k σ s vs kvs S r rk _ _ _ fun b s binds t₀ S _ hn hv=>?_)
 have g0s:W₀.g0.StaysIn s.heap:=stays_trans S.g0 S.kb
 have hbn:(binds.map (·.1)).Nodup:=hn ▸ hnd
 rw [hf.clos]
 have hk':∀ x ∈ binds,fd.scope.names.lookup x.1 = some .local ∨ (fd.scope.names.lookup x.1 = some .cell ∧ ((cellsFrom (s.heap.objs.size + 1) fd.scope.names []).lookup x.1).isSome = true):=fun x hx=>by
  have hx':x.1 ∈ bas.map (·.1):=hn ▸ List.mem_map_of_mem hx
  refine byG fun Gq kq=>?_
  obtain ⟨q,hq,e⟩:=List.mem_map.mp hx'
  refine kq ?_
  have:=List.all_eq_true.mp hkind q hq
  rw [e] at this
  rcases Bool.or_eq_true_iff.mp this with z | z
  ·exact .inl (by simpa using z)
  ·obtain ⟨z1,z2⟩:=Bool.and_eq_true_iff.mp z
   exact .inr ⟨by simpa using z1,(ownCell_eq fd.scope _ x.1).trans z2⟩
 refine wpAny_newFunctionEnv_cells hf.kind hk' fun env' he s₄ x=>?_
 subst he
 refine byG fun Gq kq=>?_
 obtain ⟨h₁,tk,rfl,keep⟩:=x.done
 refine kq ?_
 refine ⟨(W₀.lim.keeps g0s).keeps keep,codeAny_func ?_⟩
 let c':=funCx c hf s.heap.objs.size
 let vis:=s.heap.objs.size :: ((cellsFrom (s.heap.objs.size + 1) fd.scope.names []).map (·.2) ++ σ.H.map (·.1))
 have S₄:Sim c b k σ { s with heap:=h₁,toks:=tk }:=S.grow (s':={ s with heap:=h₁,toks:=tk }) keep rfl S.gens
 refine byG fun Gq kq=>?_
 obtain ⟨f1,f2,f3,f4,f5⟩:=S.fresh
 refine kq ?_
 have high:∀ n a,(n,a) ∈ cellsFrom (s.heap.objs.size + 1) fd.scope.names [] → s.heap.objs.size < a:=x.above
 have none_high:∀ {h:Heap} {a:Addr},StaysB c.fl h s.heap → s.heap.objs.size ≤ a → h.get? a = none:=fun {h a} st hl=>by
  cases q:h.get? a with
  | none=>rfl
  | some o=>obtain ⟨o',e⟩:=st.there q;exact absurd (Heap.lt_size e) (Nat.not_lt.mpr hl)
 have low:∀ {a:Addr} {o:Obj},s.heap.get? a = some o → a < s.heap.objs.size:=fun e=>Heap.lt_size e
 have hLlow:c.L < s.heap.objs.size:=let ⟨m,hn,_⟩:=S.ns;hn.lt
 have offOwn:∀ a,a < s.heap.objs.size → (∀ q ∈ σ.H,q.1 ≠ a) → a ∉ vis:=fun a hlt hH hm=>by
  rcases List.mem_cons.mp hm with h1 | hm
  ·exact Nat.lt_irrefl _ (h1 ▸ hlt)
  rcases List.mem_append.mp hm with h1 | h1
  ·refine byG fun Gq kq=>?_
   obtain ⟨⟨y,a'⟩,hq,e⟩:=List.mem_map.mp h1
   refine kq ?_
   have h2:=high y a' hq
   have h3:a' = a:=e
   rw [h3] at h2
   exact Nat.lt_irrefl _ (Nat.lt_trans h2 hlt)
  ·refine byG fun Gq kq=>?_
   obtain ⟨q,hq,e⟩:=List.mem_map.mp h1
   refine kq ?_
   exact hH q hq e
 have hLv:c.L ∉ vis:=offOwn _ hLlow fun q hq=>(S.led q hq).2.2.2
 have hcv:∀ y a,c.env.cells.lookup y = some a → a ∉ vis:=fun y a hx=>by
  refine byG fun Gq kq=>?_
  obtain ⟨⟨v,⟨o,e,d⟩,_⟩,q1,q2,q3,q4⟩:=S.cells y a hx
  refine kq ?_
  exact offOwn a (low e) q4
 have hkv:∀ a ∈ vis,k.get? a = none:=fun a hm=>by
  rcases List.mem_cons.mp hm with rfl | hm
  ·exact f2
  rcases List.mem_append.mp hm with h1 | h1
  ·refine byG fun Gq kq=>?_
   obtain ⟨⟨y,a'⟩,hq,rfl⟩:=List.mem_map.mp h1
   refine kq ?_
   exact none_high S.kk (Nat.le_of_lt (high y a' hq))
  ·refine byG fun Gq kq=>?_
   obtain ⟨q,hq,rfl⟩:=List.mem_map.mp h1
   refine kq ?_
   exact (S.led q hq).2.2.1
 have restNone:∀ a ∈ vis,(rest h₁ b vis).get? a = none:=fun a hm=>by
  cases q:(rest h₁ b vis).get? a with
  | none=>rfl
  | some o=>exact absurd hm ((rest_get _ _ _ _ _).mp q).2.2
 have S':Sim c' b (rest h₁ b vis) (inFun fd bas σ.H) { s with heap:=h₁,toks:=tk }:={
  g0:=S.g0
  kb:=S₄.kb
  kk:=.of fun a o e=>((rest_get _ _ _ _ _).mp e).1
  flk:=fun a ha=>by
   rcases List.mem_cons.mp ha with rfl | ha
   ·exact .inl rfl
   refine .inr ?_
   rcases S₄.flk a ha with e | ⟨o,e,d⟩
   ·subst e
    refine byG fun Gq kq=>?_
    obtain ⟨m,⟨oL,es,ep,ho,hd⟩,_⟩:=S₄.ns
    refine kq ?_
    exact ⟨oL,(rest_get _ _ _ _ _).mpr ⟨ho,S.offL.1,hLv⟩,fun vs q=>by rw [hd.1] at q;cases q⟩
   ·refine byG fun Gq kq=>?_
    obtain ⟨sl,e1,_⟩:=S₄.kk _ _ e
    refine kq ?_
    exact ⟨_,(rest_get _ _ _ _ _).mpr ⟨e1,S.bk _ _ e,fun hm=>by rw [hkv a hm] at e;cases e⟩,d⟩
  bk:=fun a o e=>((rest_get _ _ _ _ _).mp e).2.1
  ns:=⟨_,x.toInCall.ns,fun y a e=>by
   refine byG fun Gq kq=>?_
   obtain ⟨e1,e2⟩:=lookup_filter (fun n=>fd.scope.names.lookup n == some .local) bas y a e
   obtain ⟨v,e3,z⟩:=VRs.lookup hn hv e2
   refine kq ?_
   exact ⟨v,bindL_has hbn (show fd.scope.names.lookup y = some .local by simpa using e1) e3,z⟩⟩
  offL:=⟨f1,fun _=>restNone _ (List.mem_cons_self ..)⟩
  cells:=fun y a hx=>by
   have hm:=mem_of_lookup hx
   have hv':a ∈ vis:=List.mem_cons_of_mem _ (List.mem_append_left _ (List.mem_map.mpr ⟨_,hm,rfl⟩))
   refine ⟨⟨_,x.cell y a hx,fun z e=>?_,fun h=>by cases h⟩,none_high (.of S.kb) (Nat.le_of_lt (high y a hm)),fun _=>restNone a hv',Nat.ne_of_gt (high y a hm),fun q hq e=>?_⟩
   ·refine byG fun Gq kq=>?_
    obtain ⟨e1,e2⟩:=lookup_filter (fun n=>!(fd.scope.names.lookup n == some .local)) bas y z e
    obtain ⟨v,e3,zz⟩:=VRs.lookup hn hv e2
    refine kq ?_
    exact ⟨v,bindC_has hbn (show ¬ fd.scope.names.lookup y = some .local by simpa using e1) e3,zz⟩
   ·obtain ⟨ob,ho⟩:=(S.led q hq).1.there
    rw [e] at ho
    exact Nat.lt_irrefl _ (Nat.lt_trans (low ho) (high y a hm))
  cinj:=fun y z a hx hy=>name_of_addr x.apart (mem_of_lookup hx) (mem_of_lookup hy)
  led:=fun q hq=>by
   refine byG fun Gq kq=>?_
   obtain ⟨y,y1,y2,y3⟩:=S₄.led q hq
   obtain ⟨ob,ho⟩:=(S.led q hq).1.there
   refine kq ?_
   exact ⟨y,y1,restNone _ (List.mem_cons_of_mem _ (List.mem_append_right _ (List.mem_map_of_mem hq))),Nat.ne_of_lt (low ho)⟩
  nd:=S.nd
  os:=S.os
  gens:=S.gens }
 refine wpAny_mono (h s.heap.objs.size b (rest h₁ b vis) _ S') (fun fl s₅ zP=>Post.elim zP fun b₂ y σ₂ t₂ S₂ r₂ h₂=>?_) fun e s₅ hZ=>?_
 ·have L:=Sim.leave (c:=c) (c':=c') S₄ t₂ S₂ hLv hkv hcv (fun a h=>(List.mem_cons.mp h).elim (fun e=>.inr (e ▸ .head _)) .inl)
  cases y with
  | ret a=>obtain ⟨v,rfl,z⟩:=r₂;exact ⟨b₂,a,_,stays_trans t₀ t₂,L,z,h₂⟩
  | next=>rw [show fl = .next from r₂];exact ⟨b₂,.none,_,stays_trans t₀ t₂,L,rfl,h₂⟩
  | brk=>rw [show fl = .brk from r₂];exact ⟨b₂,.none,_,stays_trans t₀ t₂,L,rfl,h₂⟩
  | cont=>rw [show fl = .cont from r₂];exact ⟨b₂,.none,_,stays_trans t₀ t₂,L,rfl,h₂⟩
 ·refine byG fun Gq kq=>?_
  obtain ⟨b₂,σ₂,h₃,a,l,t₂,ea,hx,S₂,hfr,hz,hX⟩:=hZ
  refine kq ?_
  subst ea
  refine byG fun Gq kq=>?_
  obtain ⟨hA,hall⟩:=c'.hfr l hfr
  obtain ⟨l',hl',rfl⟩:=Option.map_eq_some_iff.mp hfr
  refine kq ?_
  have hsub:(rest h₃ {} c'.fl).StaysIn h₃:=fun a o e=>((rest_get _ _ _ _ _).mp e).1
  have hoff:∀ a ∈ c'.fl,(rest h₃ {} c'.fl).get? a = none:=fun a hm=>by
   cases q:(rest h₃ {} c'.fl).get? a with
   | none=>rfl
   | some o=>exact absurd hm ((rest_get _ _ _ _ _).mp q).2.2
  have hff:∀ l:List Env,(∀ e ∈ l,e.scope.kind ≠ .module ∧ ∃ a ∈ c'.fl,e.frame = some a) → h₃.FunFrames (rest h₃ {} c'.fl) l:=by
   intro l
   induction l with
   | nil=>intro _;trivial
   | cons e l ih=>
    intro hl
    refine byG fun Gq kq=>?_
    obtain ⟨z1,a,z2,z3⟩:=hl e (.head _)
    refine kq ?_
    refine ⟨z1,⟨a,?_⟩,ih fun e he=>hl e (.tail _ he)⟩
    rcases S₂.flk a z2 with e' | ⟨o',e',d⟩
    ·refine byG fun Gq kq=>?_
     obtain ⟨m,⟨oL,es,ep,ho,hd⟩,_⟩:=S₂.ns
     refine kq ?_
     exact ⟨oL,z3,hoff a z2,e' ▸ ho,fun vs q=>by rw [hd.1] at q;cases q⟩
    ·refine byG fun Gq kq=>?_
     obtain ⟨sl,e1,_⟩:=S₂.kk _ _ e'
     refine kq ?_
     exact ⟨_,z3,hoff a z2,e1,d⟩
  refine wpAny_leaves_madeW hA rfl hsub (hff _ hall) hx fun h₄ t x1 x2 x3 x4=>?_
  have S₃:Sim c' b₂ (rest h₁ b vis) σ₂ { s₅ with heap:=h₄ }:=by
   have hh:∀ a o,h₃.get? a = some o → a ∉ c'.fl → h₄.get? a = some o:=fun a o e hm=>x1.1 a o ((rest_get _ _ _ _ _).mpr ⟨e,by
    cases q:({}:Heap).get? a with
    | none=>rfl
    | some o=>exact absurd (Heap.lt_size q) (by show ¬ a < (#[]:Array Obj).size;simp),hm⟩)
   exact Sim.slots S₂ hz (h':=h₄) (fun a o hm e=>hh a o e hm) ((Heap.UpToSlots.of_keeps hx.keeps).trans x4)
  have L:=Sim.leave (c:=c) (c':=c') S₄ t₂ S₃ hLv hkv hcv (fun a h=>(List.mem_cons.mp h).elim (fun e=>.inr (e ▸ .head _)) .inl)
  refine byG fun Gq kq=>?_
  obtain ⟨ob,ho,hc⟩:=x1.there
  refine kq ?_
  exact ⟨b₂,_,a,ob,stays_trans t₀ t₂,L,rfl,ho,hc,hX⟩
theorem call_fnC {f:Addr} {fd:FuncData} {body:List Stmt} {as:List AV} {kw bas:List (PySem.Str × AV)} {σ:St} {Q:AV → St → Prop} (hf:IsFn W₀ f fd body) (hroom:c.A.depth < recursionLimit)
  (hb:Bind c fd as kw bas) (hnd:(bas.map (·.1)).Nodup)
  (hkind:(bas.all fun q=>fd.scope.names.lookup q.1 == some .local || (fd.scope.names.lookup q.1 == some .cell && ownCell fd.scope q.1)) = true)
  (hcn:((cellsFrom 0 fd.scope.names []).map (·.1)).Nodup)
  (h:∀ L,Exs (funCx c hf L) body (inFun fd bas σ.H) (kFn σ Q)) :
  CalC c (.ref f) as kw σ Q:=fun b k s vs kvs S r rk=>
 codeAny_mono (call_fnCX (X:=fun _=>False) (Q:=Q) hf hroom hb.g hnd hkind hcn (fun L b k s S=>wpAny_mono (h L b k s S) (fun _ _ z=>z) fun _ _ z=>z.elim) b k s vs kvs S r rk) fun r s z=>by
  rcases r with e | (v | _ | _ | _)
  ·obtain ⟨_,_,_,_,_,_,_,_,_,z⟩:=z;exact z
  all_goals exact z
end
end Lw
end
section
open PySem PySem.Calls PySem.W PyProof.Rows
namespace Lw
section
variable {W₀:Wld} {c:Cx W₀} {σ:St} {Q:AV → St → Prop}
noncomputable def Cee {W₀:Wld} (c:Cx W₀) (v:Value):Prop:=∀ h,W₀.g0.StaysIn h → ∃ k,(k = Keeper.frame ∨ k = Keeper.machine ∨ k = Keeper.boundFrame) ∧ Looks (model c.prog c.w) h (keeperOf v) k
theorem Cee.bi (id:String):Cee c (.builtin id):=fun h _=>⟨.machine,.inr (.inl rfl),Looks.of_pure rfl⟩
theorem Cee.ty (n:String):Cee c (.type n):=fun h _=>⟨.machine,.inr (.inl rfl),Looks.of_pure rfl⟩
noncomputable def AR {W₀:Wld} (c:Cx W₀) (b:Heap) (y:List AV × List (PySem.Str × AV)) (a:Args):Prop:=c.VRs b y.1 a.pos ∧ KR c.prog c.w b y.2 a.kw
theorem KR.nil {p:Program} {w:World} {b:Heap}:KR p w b [] []:=⟨rfl,rfl⟩
noncomputable abbrev Arg {W₀:Wld} (c:Cx W₀) (f:Value) (args:List Expr) (kws:List Keyword) (pos:Pos) (σ:St) (P:List AV × List (PySem.Str × AV) → St → Prop):Prop:=
 Go c (AR c) (evalArgs f true (backTo pos (starEach args c.env)) (backToKw pos (keywordEach kws c.env))) σ P
noncomputable abbrev kAr (P:List AV × List (PySem.Str × AV) → St → Prop) (as:List AV) (σ:St):Prop:=P (as,[]) σ
theorem evalArgs_go {f:Value} {ts:List (Bool × Sem Value)} {P:List AV × List (PySem.Str × AV) → St → Prop} (hp:ts.any (·.1) = false) (h:Sps c ts σ (kAr P)) :
  Go c (AR c) (evalArgs f true ts []) σ P:=fun b k s S=>by
 have key:wpAny (model c.prog c.w) c.A (spliced ts) (fun vs s'=>Post c k (AR c) P b ⟨vs,[]⟩ s') (fun _ _=>False) s:=
  gst (h b k s S) (fun b₁ as σ₁ vs s₁ t₁ S₁ r₁ h₁=>⟨b₁,(as,[]),σ₁,t₁,S₁,⟨r₁,KR.nil⟩,h₁⟩)
 match ts,hp with
 | [],_=>
  unfold evalArgs
  show wpAny _ _ (spliced [] >>= _) _ _ s
  refine wpAny_bind (wpAny_mono key (fun vs s' h'=>?_) fun _ _ x=>x)
  refine wpAny_holding ?_
  exact wpAny_bind (wpAny_pure (wpAny_bind (wpAny_pure (wpAny_pure h'))))
 | (false,x) :: r,_=>exact evalArgs_plain key
 | (true,x) :: r,hp=>simp at hp
theorem Arg.pos {f:Value} {args:List Expr} {pos:Pos} {P:List AV × List (PySem.Str × AV) → St → Prop} (h:Sps c (backTo pos (starEach args c.env)) σ (kAr P)) (hp:(backTo pos (starEach args c.env)).any (·.1) = false:=by rfl) :
  Arg c f args [] pos σ P:=evalArgs_go hp h
noncomputable abbrev Kws {W₀:Wld} (c:Cx W₀) (ts:List (Sem Value)) (σ:St) (P:List AV → St → Prop):Prop:=Go c c.VRs (evalAll ts) σ P
theorem Kws.nil {P:List AV → St → Prop} (h:P [] σ):Kws c [] σ P:=fun b k s S=>wpAny_pure ⟨b,[],σ,stays_refl _,S,rfl,h⟩
theorem Kws.cons {P:List AV → St → Prop} {e:Expr} {pos:Pos} {ts:List (Sem Value)} (h:Ev c e σ fun a σ₁=>Kws c ts σ₁ fun as σ₂=>P (a :: as) σ₂):Kws c ((do let v ← eval e c.env;standAt pos;pure v) :: ts) σ P:=fun b k s S=>by
 unfold evalAll
 refine wpAny_bind (wpAny_bind (gst (h b k s S) (fun b₁ a σ₁ v s₁ t₁ S₁ r₁ h₁=>?_)))
 refine wpAny_bind (wpAny_standAt (wpAny_pure (wpAny_bind (wpAny_holding ?_))))
 refine gst (h₁ b₁ k s₁ S₁) (fun b₂ as σ₂ vs s₂ t₂ S₂ r₂ h₂=>?_)
 exact wpAny_pure ⟨b₂,a :: as,σ₂,stays_trans t₁ t₂,S₂,⟨v,vs,rfl,VR.mono t₂ _ r₁,r₂⟩,h₂⟩
theorem zip_names {α:Type}:∀ (ns:List PySem.Str) (xs:List α),ns.length = xs.length → (ns.zip xs).map (·.1) = ns ∧ (ns.zip xs).map (·.2) = xs
 | [],[],_=>⟨rfl,rfl⟩
 | n :: ns,x :: xs,h=>by
  obtain ⟨a,b⟩:=zip_names ns xs (Nat.succ.inj h)
  exact ⟨by rw [List.zip_cons_cons,List.map_cons,a],by rw [List.zip_cons_cons,List.map_cons,b]⟩
theorem Arg.kw {f:Value} {args:List Expr} {kws:List Keyword} {pos:Pos} {P:List AV × List (PySem.Str × AV) → St → Prop} (ns:List PySem.Str)
  (h:Sps c (backTo pos (starEach args c.env)) σ fun as σ₁=>Kws c ((backToKw pos (keywordEach kws c.env)).map (·.2)) σ₁ fun ks σ₂=>ns.length = ks.length ∧ P (as,ns.zip ks) σ₂)
  (hp:(backTo pos (starEach args c.env)).any (·.1) = false:=by rfl) (hn:(backToKw pos (keywordEach kws c.env)).filterMap (·.1) = ns:=by rfl) (hall:(backToKw pos (keywordEach kws c.env)).all (·.1.isSome) = true:=by rfl) :
  Arg c f args kws pos σ P:=fun b k s S=>by
 have tail:∀ (pos':List Value) b₁ as σ₁ s₁,b.StaysIn b₁ → Sim c b₁ k σ₁ s₁ → c.VRs b₁ as pos' → (Kws c ((backToKw pos (keywordEach kws c.env)).map (·.2)) σ₁ fun ks σ₂=>ns.length = ks.length ∧ P (as,ns.zip ks) σ₂) →
   wpAny (model c.prog c.w) c.A (evalAll ((backToKw pos (keywordEach kws c.env)).map (·.2))) (fun ks s₂=>Post c k (AR c) P b ⟨pos',ns.zip ks⟩ s₂) (fun _ _=>False) s₁:=fun pos' b₁ as σ₁ s₁ t₁ S₁ r₁ h₁=>
  gst (h₁ b₁ k s₁ S₁) (fun b₂ ks σ₂ vs s₂ t₂ S₂ r₂ ⟨hl,h₂⟩=>⟨b₂,(as,ns.zip ks),σ₂,stays_trans t₁ t₂,S₂,⟨r₁.mono t₂,by
   obtain ⟨z1,z2⟩:=zip_names ns ks hl
   obtain ⟨z3,z4⟩:=zip_names ns vs (hl.trans (VRs.length r₂).symm)
   exact ⟨z3.trans z1.symm,by dsimp only;rw [z2,z4];exact r₂⟩⟩,h₂⟩)
 have key:wpAny (model c.prog c.w) c.A (spliced (backTo pos (starEach args c.env))) (fun vs s₁=>wpAny (model c.prog c.w) c.A (evalAll ((backToKw pos (keywordEach kws c.env)).map (·.2))) (fun ks s₂=>Post c k (AR c) P b ⟨vs,ns.zip ks⟩ s₂) (fun _ _=>False) s₁) (fun _ _=>False) s:=
  gst (h b k s S) (fun b₁ as σ₁ vs s₁ t₁ S₁ r₁ h₁=>tail vs b₁ as σ₁ s₁ t₁ S₁ r₁ h₁)
 unfold evalArgs
 match hts:backTo pos (starEach args c.env),hp with
 | [],_=>
  rw [hts] at key
  show wpAny _ _ (spliced [] >>= _) _ _ s
  refine wpAny_bind (wpAny_mono key (fun vs s' h'=>?_) fun _ _ x=>x)
  refine wpAny_holding ?_
  simp only [hall,if_true,hn]
  refine wpAny_bind (wpAny_mono h' (fun ks s₂ h₂=>?_) fun _ _ x=>x)
  exact wpAny_bind (wpAny_pure (wpAny_pure h₂))
 | (false,x) :: r,_=>
  rw [hts] at key
  show wpAny _ _ (spliced ((false,x) :: r) >>= _) _ _ s
  refine wpAny_bind (wpAny_mono key (fun vs s' h'=>?_) fun _ _ x=>x)
  refine wpAny_holding ?_
  simp only [hall,if_true,hn]
  refine wpAny_bind (wpAny_mono h' (fun ks s₂ h₂=>?_) fun _ _ x=>x)
  exact wpAny_bind (wpAny_pure (wpAny_pure h₂))
 | (true,x) :: r,hp=>simp at hp
noncomputable abbrev kCw {W₀:Wld} (c:Cx W₀) (v:Value) (fs:List AV) (Q:AV → St → Prop) (y:List AV × List (PySem.Str × AV)) (σ:St):Prop:=Cal c v (fs ++ y.1) y.2 σ Q
noncomputable abbrev kCp {W₀:Wld} (c:Cx W₀) (v:Value) (fs:List AV) (Q:AV → St → Prop) (as:List AV) (σ:St):Prop:=Cal c v (fs ++ as) [] σ Q
noncomputable abbrev kC0 {W₀:Wld} (c:Cx W₀) (v:Value) (Q:AV → St → Prop) (as:List AV) (σ:St):Prop:=Cal c v as [] σ Q
theorem callWith_go {v:Value} {first:List Value} {fs:List AV} {args:List Expr} {kws:List Keyword} {pos:Pos} {b k:Heap} {s:Shared} (hc:Cee c v) (S:Sim c b k σ s) (rf:c.VRs b fs first)
  (h:Arg c v args kws pos σ (kCw c v fs Q)) (hplain:((backTo pos (starEach args c.env)).any (·.1) || (backToKw pos (keywordEach kws c.env)).any (·.1.isNone)) = false) :
  wpAny (model c.prog c.w) c.A (callWith pos v first (backTo pos (starEach args c.env)) (backToKw pos (keywordEach kws c.env))) (Post c k c.VR Q b) (fun _ _=>False) s:=by
 refine callWith_of (P:=fun h=>W₀.g0.StaysIn h) hplain hc ?_
 refine gst (h b k s S) (fun b₁ y σ₁ a s₁ t₁ S₁ r₁ h₁=>⟨stays_trans S₁.g0 S₁.kb,?_⟩)
 exact glst t₁ (h₁ b₁ k s₁ _ _ S₁ ((rf.mono t₁).append r₁.1) r₁.2)
inductive kCl {W₀:Wld} (c:Cx W₀) (args:List Expr) (kws:List Keyword) (pos:Pos) (Q:AV → St → Prop) (a:AV) (σ:St):Prop
 | mk (v:Value) (hu:∀ b u,c.VR b a u → u = v) (hc:Cee c v) (h:Arg c v args kws pos σ (kCw c v [] Q))
theorem Ev.call {fn:Expr} {args:List Expr} {kws:List Keyword} {pos:Pos} (h:Ev c fn σ (kCl c args kws pos Q))
  (hplain:((backTo pos (starEach args c.env)).any (·.1) || (backToKw pos (keywordEach kws c.env)).any (·.1.isNone)) = false:=by rfl)
  (he:eval (.Call fn args kws pos) c.env = (do callWith pos (← eval fn c.env) [] (backTo pos (starEach args c.env)) (backToKw pos (keywordEach kws c.env))):=by rfl):Ev c (.Call fn args kws pos) σ Q:=fun b k s S=>by
 rw [he]
 refine wpAny_bind (gst (h b k s S) (fun b₁ a σ₁ v s₁ t₁ S₁ r₁ hZ=>?_))
 obtain ⟨u,hu,hc,h₁⟩:=hZ
 obtain rfl:=hu _ _ r₁
 exact glst t₁ (callWith_go hc S₁ (fs:=[]) rfl h₁ hplain)
theorem Ev.callB {x:PySem.Str} {np:Pos} {id:String} {args:List Expr} {pos:Pos} (hx:c.env.kindOf x = some .globalImplicit) (hg:Blt c x (.builtin id))
  (h:Sps c (backTo pos (starEach args c.env)) σ (kC0 c (.builtin id) Q))
  (hplain:(backTo pos (starEach args c.env)).any (·.1) = false:=by rfl) (hd:(x == ("__debug__" : PySem.Str)) = false:=by decide):Ev c (.Call (.Name x np) args [] pos) σ Q:=
 Ev.call (Ev.blt (a:=.bi id) hx hg (fun _=>rfl) ⟨.builtin id,fun _ _ e=>e,Cee.bi id,Arg.pos h hplain⟩ hd) (by rw [hplain];rfl) rfl
theorem Ev.callT {x:PySem.Str} {np:Pos} {id:String} {args:List Expr} {pos:Pos} (hx:c.env.kindOf x = some .globalImplicit) (hg:Blt c x (.type id))
  (h:Sps c (backTo pos (starEach args c.env)) σ (kC0 c (.type id) Q))
  (hplain:(backTo pos (starEach args c.env)).any (·.1) = false:=by rfl) (hd:(x == ("__debug__" : PySem.Str)) = false:=by decide):Ev c (.Call (.Name x np) args [] pos) σ Q:=
 Ev.call (Ev.blt (a:=.ty id) hx hg (fun _=>rfl) ⟨.type id,fun _ _ e=>e,Cee.ty id,Arg.pos h hplain⟩ hd) (by rw [hplain];rfl) rfl
noncomputable def HasM {W₀:Wld} (c:Cx W₀) (name:PySem.Str) (x:AV) (σ:St) (id:String):Prop:=∀ b k s v,Sim c b k σ s → c.VR b x v →
 ∃ T,PlainAttrs T ∧ Slot T name id ∧ typeOf (.builtin id) = pure (.type "method_descriptor") ∧ s.TypeIs v T ∧ ∀ a,v = .ref a → ∃ ob,s.heap.get? a = some ob ∧ ob.dict = none
inductive kMt {W₀:Wld} (c:Cx W₀) (name:PySem.Str) (args:List Expr) (kws:List Keyword) (pos:Pos) (Q:AV → St → Prop) (x:AV) (σ:St):Prop
 | mk (id:String) (hm:HasM c name x σ id) (h:Arg c (.builtin id) args kws pos σ (kCw c (.builtin id) [x] Q))
theorem Ev.meth {o:Expr} {name:PySem.Str} {apos pos:Pos} {args:List Expr} {kws:List Keyword} (h:Ev c o σ (kMt c name args kws pos Q))
  (he:∃ pl,eval (.Call (.Attribute o name apos) args kws pos) c.env = (do
   let ov ← eval o c.env
   standAt apos.atName
   let (f,first) ← holding [ov] (getMethod ov name pl)
   callWith pos f first (backTo pos (starEach args c.env)) (backToKw pos (keywordEach kws c.env))):=by exact ⟨_,rfl⟩)
  (hplain:((backTo pos (starEach args c.env)).any (·.1) || (backToKw pos (keywordEach kws c.env)).any (·.1.isNone)) = false:=by rfl):Ev c (.Call (.Attribute o name apos) args kws pos) σ Q:=fun b k s S=>by
 obtain ⟨pl,he⟩:=he
 refine methodCall_KW (pl:=pl) (gst (h b k s S) (fun b₁ x σ₁ v s₁ t₁ S₁ r₁ ⟨id,hm,h₁⟩=>?_)) he
 refine byG fun Gq kq=>?_
 obtain ⟨T,pa,sl,ty,tis,hd⟩:=hm b₁ k s₁ v S₁ r₁
 refine kq ?_
 refine getMethod_builtin tis pa sl ty hd ?_
 exact glst t₁ (callWith_go (fs:=[x]) (Cee.bi id) S₁ (VRs.one r₁) h₁ hplain)
end
end Lw
end
section
open PySem PySem.Calls PySem.W PyProof.Rows
namespace Lw
section
variable {W₀:Wld} {c:Cx W₀} {σ:St} {Q:AV → St → Prop}
theorem Sim.freezeNew {b k:Heap} {s s':Shared} (S:Sim c b k σ s) (g:s.heap.StaysIn s'.heap) (ho:s'.os = s.os) (hg:GB c s') {a:Addr} {o:Obj} (ha:s'.heap.get? a = some o) (hn:s.heap.get? a = none) :
  b.StaysIn (insH b a o) ∧ (insH b a o).get? a = some o ∧ Sim c (insH b a o) k σ s':=by
 have no:∀ {h:Heap},StaysB c.fl h s.heap → h.get? a = none:=fun {h} st=>by
  cases q:h.get? a with
  | none=>rfl
  | some o=>obtain ⟨o',e⟩:=st.there q;rw [e] at hn;cases hn
 refine (S.grow g ho hg).freeze ha (no (.of S.kb)) ?_ (fun q hq e=>?_) (fun x r hx e=>?_) (no S.kk)
 ·obtain ⟨m,⟨oL,es,ep,hL,_⟩,_⟩:=S.ns
  rintro rfl
  rw [hL] at hn;cases hn
 ·obtain ⟨ob,hob⟩:=(S.led q hq).1.there
  rw [e,hn] at hob;cases hob
 ·obtain ⟨⟨v,⟨o,e',_⟩,_⟩,_⟩:=S.cells x r hx
  rw [e,hn] at e';cases e'
theorem Cal.lenL {x:AV} {xs:List AV} (hx:LA σ x xs) (hl:(xs.length:Int) < 2 ^ 63) (h:Q (.int xs.length) σ):Cal c (.builtin "len") [x] [] σ Q:=fun b k s vs kvs S r rk=>by
 obtain ⟨v,r',rfl,rv,e⟩:=r
 rw [show r' = [] from e,show kvs = [] from List.map_eq_nil_iff.mp rk.1]
 obtain ⟨a,us,rfl,sq,ru⟩:=hx.get S rv
 have hn:(us.toArray.size:Int) = xs.length:=by rw [List.size_toArray,VRs.length ru]
 refine call_len_list sq.isList (by rw [hn];exact hl) ?_
 exact Post.at (R:=c.VR) (y:=.int xs.length) (S.toks _) ⟨_,by rw [hn]⟩ h
theorem Cal.lenS {l:List Nat} (hl:(l.length:Int) < 2 ^ 63) (h:Q (.int l.length) σ):Cal c (.builtin "len") [.str l] [] σ Q:=fun b k s vs kvs S r rk=>by
 obtain ⟨v,r',rfl,⟨t,rfl,o⟩,e⟩:=r
 rw [show r' = [] from e,show kvs = [] from List.map_eq_nil_iff.mp rk.1]
 have hn:((mkS l).length:Int) = l.length:=by show ((mkS l).cps.size:Int) = _;simp [mkS]
 refine PySem.P.len_str (by rw [hn];lia) ?_
 exact Post.at (R:=c.VR) (y:=.int l.length) (S.toks _) ⟨_,by rw [hn]⟩ h
theorem Sim.range {b k:Heap} {s:Shared} (S:Sim c b k σ s) (x y st:Int) (t u v:Tok) (tk:Nat) (h:Q (.rng x y st) σ) :
  Post c k c.VR Q b (.ref s.heap.objs.size) { s with heap:=s.heap.push { cls:=.type "range",data:=.fields #[.int x t,.int y u,.int st v] },toks:=tk }:=by
 obtain ⟨s1,g,S'⟩:=S.newFrozen { cls:=.type "range",data:=.fields #[.int x t,.int y u,.int st v] }
 exact ⟨_,.rng x y st,σ,s1,S'.toks tk,⟨_,t,u,v,rfl,g⟩,h⟩
theorem Cal.range1 {n:Int} (h:Q (.rng 0 n 1) σ):Cal c (.type "range") [.int n] [] σ Q:=fun b k s vs kvs S r rk=>by
 obtain ⟨v,r',rfl,⟨t,rfl⟩,e⟩:=r
 rw [show r' = [] from e,show kvs = [] from List.map_eq_nil_iff.mp rk.1]
 exact call_range_1 (S.range _ _ _ _ _ _ _ h)
theorem Cal.range3 {n m st:Int} (hs:st ≠ 0) (hp:Builtin.divisionGoesByPylong (m - n) st = false) (h:Q (.rng n m st) σ):Cal c (.type "range") [.int n,.int m,.int st] [] σ Q:=fun b k s vs kvs S r rk=>by
 obtain ⟨v,r',rfl,⟨t,rfl⟩,⟨v2,r2,rfl,⟨t2,rfl⟩,⟨v3,r3,rfl,⟨t3,rfl⟩,e⟩⟩⟩:=r
 rw [show r3 = [] from e,show kvs = [] from List.map_eq_nil_iff.mp rk.1]
 exact call_range_3 hs (S.range _ _ _ _ _ _ _ h) (.inl hp)
theorem VRs.ints {p:Program} {w:World} {h:Heap}:∀ {ns:List Int} {vs:List Value},VRs p w h (ns.map .int) vs → IntsAre vs ns
 | [],_,e=>by rw [show _ = [] from e];exact .nil
 | n :: ns,_,⟨v,r,e,⟨t,e'⟩,z⟩=>by subst e e';exact .cons n t (VRs.ints z)
theorem Cal.sum {x:AV} {ns:List Int} (hx:LA σ x (ns.map .int)) (hf:PyProof.Rows.SumFits ns) (h:Q (.int ns.sum) σ):Cal c (.builtin "sum") [x] [] σ Q:=fun b k s vs kvs S r rk=>by
 obtain ⟨v,r',rfl,rv,e⟩:=r
 rw [show r' = [] from e,show kvs = [] from List.map_eq_nil_iff.mp rk.1]
 obtain ⟨a,us,rfl,sq,ru⟩:=hx.get S rv
 have hi:=VRs.ints ru
 obtain ⟨m,hn,_⟩:=S.ns
 have hall:=hi.allInts
 obtain ⟨xs,hxs⟩:=hall.items
 have hnum:(numsOf us) = ns:=hi.numsOf
 have e0:numsOf (intItems xs).toList = ns:=by rw [← hxs];exact hnum
 rw [nums_intItems] at e0
 have sq':=sq.isList
 rw [hxs] at sq'
 refine sum_intList c.hh sq' (fun j hj=>?_) fun h' tk t' hk=>?_
 ·rw [numAt_eq,preSum_eq,e0]
  have:=hf j (by rw [← e0];simpa using hj)
  exact this
 ·rw [preSum_eq,e0,List.take_of_length_le (by rw [← e0];simp)]
  exact Post.at (R:=c.VR) (y:=.int ns.sum) (S.grow (s':={ s with heap:=h',toks:=tk }) (fun b o e=>hk b o e) rfl S.gens) ⟨_,rfl⟩ h
end
noncomputable def insN (x:Nat):List Nat → List Nat
 | []=>[x]
 | y :: r=>if x ≤ y then x :: y :: r else y :: insN x r
noncomputable def srt:List Nat → List Nat
 | []=>[]
 | x :: r=>insN x (srt r)
theorem insN_cons (x y:Nat) (r:List Nat):insN x (y :: r) = if x ≤ y then x :: y :: r else y :: insN x r:=rfl
theorem insN_perm (x:Nat):∀ l,(insN x l).Perm (x :: l)
 | []=>.refl _
 | y :: r=>by
  rw [insN_cons]
  split
  ·exact .refl _
  ·exact ((insN_perm x r).cons y).trans (.swap x y r)
theorem srt_perm:∀ l,(srt l).Perm l
 | []=>.refl _
 | x :: r=>(insN_perm x _).trans ((srt_perm r).cons x)
theorem insN_sorted (x:Nat):∀ l,l.Pairwise (· ≤ ·) → (insN x l).Pairwise (· ≤ ·)
 | [],_=>List.pairwise_singleton _ _
 | y :: r,h=>by
  obtain ⟨h1,h2⟩:=List.pairwise_cons.mp h
  rw [insN_cons]
  split
  ·rename_i hxy
   exact List.pairwise_cons.mpr ⟨fun z hz=>by rcases List.mem_cons.mp hz with rfl | hz;exact hxy;exact Nat.le_trans hxy (h1 z hz),h⟩
  ·rename_i hxy
   refine List.pairwise_cons.mpr ⟨fun z hz=>?_,insN_sorted x r h2⟩
   rcases List.mem_cons.mp ((insN_perm x r).mem_iff.mp hz) with rfl | hz
   ·exact Nat.le_of_lt (Nat.lt_of_not_le hxy)
   ·exact h1 z hz
theorem srt_sorted:∀ l,(srt l).Pairwise (· ≤ ·)
 | []=>.nil
 | x :: r=>insN_sorted x _ (srt_sorted r)
theorem srt_eq {a b:List Nat} (hp:a.Perm b) (hs:a.Pairwise (· ≤ ·)):a = srt b:=
 List.Perm.eq_of_pairwise (fun x y _ _ h1 h2=>Nat.le_antisymm h1 h2) hs (srt_sorted b) (hp.trans (srt_perm b).symm)
section
variable {W₀:Wld} {c:Cx W₀} {σ:St} {Q:AV → St → Prop}
theorem Cal.listL {x:AV} {xs:List AV} (hx:LA σ x xs) (hl:xs.length ≤ sizeLine) (h:Q (.lst xs) σ):Cal c (.type "list") [x] [] σ Q:=fun b k s vs kvs S r rk=>by
 obtain ⟨v,r',rfl,rv,e⟩:=r
 rw [show r' = [] from e,show kvs = [] from List.map_eq_nil_iff.mp rk.1]
 obtain ⟨a,us,rfl,⟨n,sq⟩,ru⟩:=hx.get S rv
 refine call_list_seq a (.inl rfl) sq rfl rfl (fun h' c' g e=>?_) (by rw [List.size_toArray,VRs.length ru];exact hl)
 obtain ⟨t1,t2,t3⟩:=S.freezeNew (s':={ s with heap:=h' }) (fun b o e=>g b o e) rfl S.gens e (by
  cases q:s.heap.get? s.heap.objs.size with
  | none=>rfl
  | some o=>exact absurd (Heap.lt_size q) (Nat.lt_irrefl _))
 exact ⟨_,.lst xs,σ,t1,t3,⟨_,us,rfl,⟨c',t2⟩,ru.mono t1⟩,h⟩
end
end Lw
end
section
open PySem PySem.Calls PySem.W PyProof.Rows
namespace Lw
noncomputable def fstAux (p:List Nat):List Nat → Nat → Option Nat
 | [],i=>if p = [] then some i else none
 | x :: r,i=>if (x :: r).take p.length = p then some i else fstAux p r (i + 1)
noncomputable def fnd (l p:List Nat) (lo:Nat):Option Nat:=if lo ≤ l.length then fstAux p (l.drop lo) lo else none
theorem fstAux_cons (p:List Nat) (x:Nat) (r:List Nat) (i:Nat):fstAux p (x :: r) i = if (x :: r).take p.length = p then some i else fstAux p r (i + 1):=rfl
theorem fstAux_nil (p:List Nat) (i:Nat):fstAux p [] i = if p = [] then some i else none:=rfl
theorem fstAux_spec (p:List Nat):∀ (l:List Nat) (i:Nat),match fstAux p l i with
  | some k=>i ≤ k ∧ (l.drop (k - i)).take p.length = p ∧ k - i ≤ l.length ∧ ∀ j,j < k - i → (l.drop j).take p.length ≠ p
  | none=>∀ j,j ≤ l.length → (l.drop j).take p.length ≠ p
 | [],i=>by
  rw [fstAux_nil]
  by_cases hp:p = []
  ·rw [if_pos hp];subst hp;exact ⟨Nat.le_refl _,rfl,by simp,fun j hj=>by simp at hj⟩
  ·rw [if_neg hp];intro j _ e;simp at e;exact hp e
 | x :: r,i=>by
  rw [fstAux_cons]
  by_cases hp:(x :: r).take p.length = p
  ·rw [if_pos hp];exact ⟨Nat.le_refl _,by rw [Nat.sub_self];exact hp,by simp,fun j hj=>by simp at hj⟩
  ·rw [if_neg hp]
   have ih:=fstAux_spec p r (i + 1)
   cases h:fstAux p r (i + 1) with
   | some k=>
    rw [h] at ih
    obtain ⟨a,b,c,d⟩:=ih
    have e:k - i = (k - (i + 1)) + 1:=(Nat.sub_add_cancel (Nat.sub_pos_of_lt a)).symm
    refine ⟨Nat.le_of_succ_le a,by rw [e,List.drop_succ_cons];exact b,by rw [e,List.length_cons];exact Nat.succ_le_succ c,fun j hj=>?_⟩
    cases j with
    | zero=>exact hp
    | succ j=>rw [List.drop_succ_cons];exact d j (Nat.lt_of_succ_lt_succ (by rw [e] at hj;exact hj))
   | none=>
    rw [h] at ih
    intro j hj
    cases j with
    | zero=>exact hp
    | succ j=>rw [List.drop_succ_cons];exact ih j (by simpa using hj)
theorem at_iff (l p:List Nat) (i:Nat):StrLaws.At (mkS l) (mkS p) (mkS l).length i ↔ i ≤ l.length ∧ (l.drop i).take p.length = p:=by
 unfold StrLaws.At
 rw [StrLaws.subAt_eq]
 have e1:(mkS l).length = l.length:=by show (mkS l).cps.size = _;simp [mkS]
 have e2:(mkS p).length = p.length:=by show (mkS p).cps.size = _;simp [mkS]
 rw [e1,e2]
 show i + p.length ≤ l.length ∧ ((l.drop i).take p.length == p) = true ↔ _
 rw [beq_iff_eq]
 constructor
 ·exact fun ⟨a,b⟩=>⟨by lia,b⟩
 ·rintro ⟨a,b⟩
  refine ⟨?_,b⟩
  have:=congrArg List.length b
  rw [List.length_take,List.length_drop] at this
  lia
theorem sub_le' {k lo n:Nat} (a:lo ≤ k) (b:lo ≤ n) (c:k - lo ≤ n - lo):k ≤ n:=by rw [← Nat.sub_add_cancel a,← Nat.sub_add_cancel b];exact Nat.add_le_add_right c lo
theorem occ_fnd (l p:List Nat) (lo:Nat) (n:Nat) (hn:1 ≤ n):(Builtin.Str.occurrences (mkS l) (mkS p) lo (mkS l).length n).head? = fnd l p lo:=by
 have sp:=fstAux_spec p (l.drop lo) lo
 rcases StrLaws.occ_head_from (mkS l) (mkS p) lo n hn with ⟨h0,hno⟩ | ⟨i,r,h0,hlo,hi,hno⟩
 ·rw [h0]
  unfold fnd
  by_cases hl:lo ≤ l.length
  ·rw [if_pos hl]
   cases h:fstAux p (l.drop lo) lo with
   | none=>rfl
   | some k=>
    rw [h] at sp
    obtain ⟨a,b,c,d⟩:=sp
    rw [List.length_drop] at c
    refine absurd ((at_iff l p k).mpr ⟨sub_le' a hl c,?_⟩) (hno k a)
    rw [List.drop_drop] at b
    rwa [Nat.add_sub_cancel' a] at b
  ·rw [if_neg hl];rfl
 ·rw [h0]
  obtain ⟨h1,h2⟩:=(at_iff l p i).mp hi
  unfold fnd
  rw [if_pos (Nat.le_trans hlo h1)]
  cases h:fstAux p (l.drop lo) lo with
  | none=>
   rw [h] at sp
   refine absurd ?_ (sp (i - lo) (by rw [List.length_drop];exact Nat.sub_le_sub_right h1 lo))
   rw [List.drop_drop,Nat.add_sub_cancel' hlo];exact h2
  | some k=>
   rw [h] at sp
   obtain ⟨a,b,c,d⟩:=sp
   rw [List.length_drop] at c
   rw [List.drop_drop,Nat.add_sub_cancel' a] at b
   rcases Nat.lt_trichotomy i k with hk | hk | hk
   ·refine absurd ?_ (d (i - lo) (Nat.sub_lt_sub_right hlo hk))
    rw [List.drop_drop,Nat.add_sub_cancel' hlo];exact h2
   ·subst hk;rfl
   ·exact absurd ((at_iff l p k).mpr ⟨sub_le' a (Nat.le_trans hlo h1) c,b⟩) (hno k a hk)
noncomputable def fndI (l p:List Nat) (lo:Nat):Int:=match fnd l p lo with | some k=>k | none=>-1
theorem find3_mkS (l p:List Nat) (i:Int):Txt.find3 (mkS l) (mkS p) i = fndI l p (fromIndex l.length i):=by
 have e1:(mkS l).length = l.length:=by show (mkS l).cps.size = _;simp [mkS]
 unfold Txt.find3 fndI
 rw [← occ_fnd l p _ 1 (Nat.le_refl _)]
 conv=>lhs;rw [show fromIndex (mkS l).length i = fromIndex l.length i by rw [e1]]
 cases Builtin.Str.occurrences (mkS l) (mkS p) (fromIndex l.length i) (mkS l).length 1 <;> rfl
theorem has_mkS (x y:List Nat):has x y = (fnd x y 0).isSome:=by
 unfold has Txt.contains
 rw [← occ_fnd x y 0 1 (Nat.le_refl _)]
 cases Builtin.Str.occurrences (mkS x) (mkS y) 0 (mkS x).length 1 <;> rfl
noncomputable def jn (sep:List Nat):List (List Nat) → List Nat
 | []=>[]
 | [x]=>x
 | x :: y :: r=>x ++ sep ++ jn sep (y :: r)
theorem foldl_glue (sep:List Nat):∀ (r:List (List Nat)) (acc:List Nat),((r.map mkS).foldl (fun a p=>a ++ (mkS sep).cps ++ p.cps) acc.toArray) = (acc ++ (match r with | []=>[] | y :: t=>sep ++ jn sep (y :: t))).toArray
 | [],acc=>by simp
 | x :: r,acc=>by
  rw [List.map_cons,List.foldl_cons]
  have:acc.toArray ++ (mkS sep).cps ++ (mkS x).cps = (acc ++ sep ++ x).toArray:=by simp [mkS]
  rw [this,foldl_glue sep r]
  cases r with
  | nil=>simp [jn]
  | cons y t=>simp [jn]
theorem join_mkS (sep:List Nat) (ls:List (List Nat)):Txt.join (mkS sep) (ls.map mkS) = mkS (jn sep ls):=by
 unfold Txt.join Builtin.Str.glued
 cases ls with
 | nil=>rfl
 | cons x r=>
  rw [List.map_cons,List.drop_succ_cons,List.drop_zero,List.headD_cons]
  have:=foldl_glue sep r x
  show PySem.Str.mk (((r.map mkS).foldl (fun a p=>a ++ (mkS sep).cps ++ p.cps) x.toArray)) = _
  rw [this]
  cases r with
  | nil=>simp [jn,mkS]
  | cons y t=>simp [jn,mkS]
theorem jn_nil:∀ (ls:List (List Nat)),jn [] ls = ls.flatten
 | []=>rfl
 | [x]=>by simp [jn]
 | x :: y :: r=>by rw [jn,jn_nil (y :: r)];simp
theorem okS_jn {sep:List Nat} (hs:okS sep = true):∀ {ls:List (List Nat)},ls.all okS = true → okS (jn sep ls) = true
 | [],_=>rfl
 | [x],h=>by simpa [jn] using h
 | x :: y :: r,h=>by
  rw [List.all_cons,Bool.and_eq_true] at h
  exact okS_append (okS_append h.1 hs) (okS_jn hs h.2)
noncomputable def loL (l:List Nat):List Nat:=(Txt.lower (mkS l)).cps.toList
section
variable {W₀:Wld} {c:Cx W₀} {σ:St} {Q:AV → St → Prop}
theorem HasM.str {name:PySem.Str} {id:String} {l:List Nat} (slot:Slot "str" name id) (ty:typeOf (.builtin id) = pure (.type "method_descriptor")):HasM c name (.str l) σ id:=fun b k s v S r=>by
 obtain ⟨t,rfl,o⟩:=r
 exact ⟨"str",F.plainAttrs_str,slot,ty,typeIs_str _ _ _,fun _ e=>nomatch e⟩
theorem HasM.lower {l:List Nat}:HasM c "lower" (.str l) σ "str.lower":=.str F.slot_str_lower F.type_str_lower
theorem HasM.find {l:List Nat}:HasM c "find" (.str l) σ "str.find":=.str F.slot_str_find F.type_str_find
theorem HasM.join {l:List Nat}:HasM c "join" (.str l) σ "str.join":=.str F.slot_str_join F.type_str_join
theorem HasM.split {l:List Nat}:HasM c "split" (.str l) σ "str.split":=.str F.slot_str_split F.type_str_split
theorem HasM.endswith {l:List Nat}:HasM c "endswith" (.str l) σ "str.endswith":=.str F.slot_str_endswith F.type_str_endswith
theorem HasM.replace {l:List Nat}:HasM c "replace" (.str l) σ "str.replace":=.str F.slot_str_replace F.type_str_replace
theorem HasM.translate {l:List Nat}:HasM c "translate" (.str l) σ "str.translate":=.str F.slot_str_translate F.type_str_translate
theorem Cal.lower {l:List Nat} (hl:(loL l).length ≤ sizeLine) (ho:okS (loL l) = true) (h:Q (.str (loL l)) σ):Cal c (.builtin "str.lower") [.str l] [] σ Q:=fun b k s vs kvs S r rk=>by
 obtain ⟨v,r',rfl,⟨t,rfl,o⟩,e⟩:=r
 rw [show r' = [] from e,show kvs = [] from List.map_eq_nil_iff.mp rk.1]
 refine SC.lower (decide_eq_false (by show ¬ (Txt.lower (mkS l)).cps.size > sizeLine;rw [← Array.length_toList];exact Nat.not_lt.mpr hl)) ?_
 exact Post.at (R:=c.VR) (y:=.str (loL l)) (S.toks _) ⟨_,rfl,ho⟩ h
theorem Cal.find3 {l p:List Nat} {i:Int} (h:Q (.int (fndI l p (fromIndex l.length i))) σ):Cal c (.builtin "str.find") [.str l,.str p,.int i] [] σ Q:=fun b k s vs kvs S r rk=>by
 refine byG fun Gq kq=>?_
 obtain ⟨v,r',rfl,⟨t,rfl,o⟩,⟨v2,r2,rfl,⟨t2,rfl,o2⟩,⟨v3,r3,rfl,⟨t3,rfl⟩,e⟩⟩⟩:=r
 refine kq ?_
 rw [show r3 = [] from e,show kvs = [] from List.map_eq_nil_iff.mp rk.1]
 refine SC.find3 ?_
 rw [find3_mkS]
 exact Post.at (R:=c.VR) (y:=.int _) (S.toks _) ⟨_,rfl⟩ h
theorem Cal.endswith {l p:List Nat} (h:Q (.bool (Txt.endswith (mkS l) (mkS p))) σ):Cal c (.builtin "str.endswith") [.str l,.str p] [] σ Q:=fun b k s vs kvs S r rk=>by
 obtain ⟨v,r',rfl,⟨t,rfl,o⟩,⟨v2,r2,rfl,⟨t2,rfl,o2⟩,e⟩⟩:=r
 rw [show r2 = [] from e,show kvs = [] from List.map_eq_nil_iff.mp rk.1]
 exact SC.endswith (Post.at (R:=c.VR) (y:=.bool _) S rfl h)
theorem VRs.texts {p:Program} {w:World} {h:Heap}:∀ {ls:List (List Nat)} {vs:List Value},VRs p w h (ls.map .str) vs → ∃ l:List (PySem.Str × Tok),vs = strValues l ∧ l.map (·.1) = ls.map mkS ∧ ls.all okS = true
 | [],_,e=>⟨[],by rw [show _ = [] from e];rfl,rfl,rfl⟩
 | n :: ns,_,⟨v,r,e,⟨t,e',o⟩,z⟩=>by
  subst e e'
  obtain ⟨l,rfl,e2,o2⟩:=VRs.texts z
  exact ⟨(mkS n,t) :: l,rfl,by rw [List.map_cons,e2];rfl,by rw [List.all_cons,o,o2];rfl⟩
theorem Cal.join {sep:List Nat} {x:AV} {ls:List (List Nat)} (hx:LA σ x (ls.map .str)) (hf:JoinOk (mkS sep) (ls.map mkS) = true) (h:Q (.str (jn sep ls)) σ):Cal c (.builtin "str.join") [.str sep,x] [] σ Q:=fun b k s vs kvs S r rk=>by
 obtain ⟨v,r',rfl,⟨t,rfl,o⟩,⟨v2,r2,rfl,rv,e⟩⟩:=r
 rw [show r2 = [] from e,show kvs = [] from List.map_eq_nil_iff.mp rk.1]
 obtain ⟨a,us,rfl,sq,ru⟩:=hx.get S rv
 obtain ⟨l,rfl,e2,o2⟩:=VRs.texts ru
 refine SC.join sq.isList e2 hf fun t' tk=>?_
 rw [join_mkS]
 exact Post.at (R:=c.VR) (y:=.str _) (S.toks _) ⟨_,rfl,okS_jn o o2⟩ h
theorem HasM.list {name:PySem.Str} {id:String} {a:Addr} {xs:List AV} (slot:Slot "list" name id) (ty:typeOf (.builtin id) = pure (.type "method_descriptor")) (hm:(a,AO.list xs) ∈ σ.H):HasM c name (.ref a) σ id:=fun b k s v S r=>by
 rw [show v = .ref a from r]
 refine byG fun Gq kq=>?_
 obtain ⟨⟨vs,⟨n,g⟩,ru⟩,_⟩:=S.led _ hm
 refine kq ?_
 exact ⟨"list",F.plainAttrs_list,slot,ty,⟨_,g,rfl⟩,fun a' e=>by cases e;exact ⟨_,g,rfl⟩⟩
end
end Lw
end
section
open PySem PySem.Calls PySem.W PyProof.Rows
namespace Lw
section
variable {W₀:Wld} {c:Cx W₀} {σ:St} {Q:AV → St → Prop}
structure Le (σ σ':St):Prop where
 m:∀ x a,σ'.m.lookup x = some a → σ.m.lookup x = some a
 cl:∀ x a,σ'.cl.lookup x = some a → σ.cl.lookup x = some a
 H:σ'.H.Sublist σ.H
theorem Go.weakP {α β:Type} {R:Heap → β → α → Prop} {t:Sem α} {σ':St} {P:β → St → Prop} (l:Le σ σ') (h:Go c R t σ' P):Go c R t σ P:=fun b k s S=>h b k s (S.weak l.m l.cl l.H)
theorem Sim.frzL {b k:Heap} {s:Shared} {D:Addr} {xs:List AV} {pre post:List (Addr × AO)} (hH:σ.H = pre ++ (D,.list xs) :: post) (S:Sim c b k σ s):∃ b',b.StaysIn b' ∧ Sim c b' k { σ with H:=pre ++ post } s ∧ c.VR b' (.lst xs) (.ref D):=by
 have S':Sim c b k { σ with H:=pre ++ (D,.list xs) :: post } s:=by rw [← hH];exact S
 refine byG fun Gq kq=>?_
 obtain ⟨⟨vs,⟨n,g⟩,r⟩,_⟩:=S'.led (D,.list xs) (List.mem_append_right _ (.head _))
 obtain ⟨st,gg,S₂⟩:=S'.freezeH g
 refine kq ?_
 exact ⟨_,st,S₂,_,vs,rfl,⟨n,gg⟩,VRs.mono st _ r⟩
theorem Sim.frzD {b k:Heap} {s:Shared} {D:Addr} {ks:List (List Nat)} {xs:List AV} {pre post:List (Addr × AO)} (hH:σ.H = pre ++ (D,.dict ks xs) :: post) (S:Sim c b k σ s):∃ b',b.StaysIn b' ∧ Sim c b' k { σ with H:=pre ++ post } s ∧ c.VR b' (.dct ks xs) (.ref D):=by
 have S':Sim c b k { σ with H:=pre ++ (D,.dict ks xs) :: post } s:=by rw [← hH];exact S
 refine byG fun Gq kq=>?_
 obtain ⟨⟨kvs,d,e,r,z⟩,_⟩:=S'.led (D,.dict ks xs) (List.mem_append_right _ (.head _))
 obtain ⟨ob,es,ep,g,rr⟩:=id d
 obtain ⟨st,gg,S₂⟩:=S'.freezeH g
 refine kq ?_
 exact ⟨_,st,S₂,_,kvs,rfl,⟨ob,es,ep,gg,rr⟩,e,VRs.mono st _ r,z⟩
inductive Frz (Q:AV → St → Prop) (a:AV) (σ:St):Prop where
 | as (h:Q a σ)
 | lst (D:Addr) (xs:List AV) (pre post:List (Addr × AO)) (ha:a = .ref D) (hH:σ.H = pre ++ (D,.list xs) :: post) (h:Q (.lst xs) { σ with H:=pre ++ post })
 | dct (D:Addr) (ks:List (List Nat)) (xs:List AV) (pre post:List (Addr × AO)) (ha:a = .ref D) (hH:σ.H = pre ++ (D,.dict ks xs) :: post) (h:Q (.dct ks xs) { σ with H:=pre ++ post })
theorem Post.frz {b k:Heap} {v:Value} {s:Shared} (h:Post c k c.VR (Frz Q) b v s):Post c k c.VR Q b v s:=by
 obtain ⟨b',a,σ',st,S,r,f⟩:=h
 cases f with
 | as h=>exact ⟨b',a,σ',st,S,r,h⟩
 | lst D xs pre post ha hH h=>
  subst ha
  obtain ⟨b₂,t₂,S₂,r₂⟩:=S.frzL hH
  exact ⟨b₂,_,_,stays_trans st t₂,S₂,by rw [show v = .ref D from r];exact r₂,h⟩
 | dct D ks xs pre post ha hH h=>
  subst ha
  obtain ⟨b₂,t₂,S₂,r₂⟩:=S.frzD hH
  exact ⟨b₂,_,_,stays_trans st t₂,S₂,by rw [show v = .ref D from r];exact r₂,h⟩
theorem Cal.frz {f:Value} {as:List AV} {kw:List (PySem.Str × AV)} (h:Cal c f as kw σ (Frz Q)):Cal c f as kw σ Q:=fun b k s vs kvs S r rk=>wpAny_mono (h b k s vs kvs S r rk) (fun _ _ z=>Post.frz z) fun _ _ z=>z
theorem Go.frzL {α β:Type} {R:Heap → β → α → Prop} {t:Sem α} {P:β → St → Prop} (x:PySem.Str) {D:Addr} {xs:List AV} {pre post:List (Addr × AO)} (hx:σ.m.lookup x = some (.ref D)) (hH:σ.H = pre ++ (D,.list xs) :: post)
  (h:Go c R t { σ with m:=(x,.lst xs) :: σ.m,H:=pre ++ post } P):Go c R t σ P:=fun b k s S=>by
 refine byG fun Gq kq=>?_
 obtain ⟨b',st,S',r'⟩:=S.frzL hH
 obtain ⟨m,hn,q⟩:=S'.ns
 obtain ⟨v,e,rv⟩:=q x _ hx
 refine kq ?_
 rw [show v = .ref D from rv] at e
 have S₂:Sim c b' k { σ with m:=(x,.lst xs) :: σ.m,H:=pre ++ post } s:={ S' with
  ns:=⟨m,hn,fun y a e'=>by
   rw [List.lookup_cons] at e'
   cases hy:y == x with
   | true=>rw [hy] at e';cases e';obtain rfl:=beq_iff_eq.mp hy;exact ⟨_,e,r'⟩
   | false=>rw [hy] at e';exact q y a e'⟩ }
 exact glst st (h b' k s S₂)
theorem Sim.setL {b k:Heap} {s:Shared} (S:Sim c b k σ s) {a:Addr} {xs ys:List AV} {vs us:List Value} {n:Nat} {pre post:List (Addr × AO)} (hH:σ.H = pre ++ (a,.list xs) :: post) (g:s.heap.get? a = some { cls:=.type "list",data:=.seq vs.toArray n })
  (f:Array Value → Array Value) (hf:f vs.toArray = us.toArray) (r:c.VRs b ys us) (tk:Nat) :
  Sim c b k { σ with H:=pre ++ (a,.list ys) :: post } { s with heap:=s.heap.update a (Obj.mapSeq f),toks:=tk }:=by
 refine S.upd hH ⟨Heap.size_update _ _ _,fun q hq=>Heap.get?_update_other _ _ (Ne.symm hq)⟩ (y:=.list ys) ?_ tk
 have e:=Heap.get?_update_self (Obj.mapSeq f) g rfl
 refine ⟨us,⟨(if (us.toArray.size == vs.toArray.size) then n else n + 1),?_⟩,r⟩
 rw [e];simp only [Obj.mapSeq,hf]
theorem HasM.append {a:Addr} {xs:List AV} (hm:(a,AO.list xs) ∈ σ.H):HasM c "append" (.ref a) σ "list.append":=.list F.slot_list_append F.type_list_append hm
theorem HasM.insert {a:Addr} {xs:List AV} (hm:(a,AO.list xs) ∈ σ.H):HasM c "insert" (.ref a) σ "list.insert":=.list F.slot_list_insert F.type_list_insert hm
theorem HasM.remove {a:Addr} {xs:List AV} (hm:(a,AO.list xs) ∈ σ.H):HasM c "remove" (.ref a) σ "list.remove":=.list F.slot_list_remove F.type_list_remove hm
theorem Cal.append {a:Addr} {xs:List AV} {y:AV} {pre post:List (Addr × AO)} (hH:σ.H = pre ++ (a,.list xs) :: post) (hl:xs.length ≤ sizeLine) (h:Q .none { σ with H:=pre ++ (a,.list (xs ++ [y])) :: post }) :
  Cal c (.builtin "list.append") [.ref a,y] [] σ Q:=fun b k s vs kvs S r rk=>by
 obtain ⟨v,r',rfl,rfl,⟨u,r2,rfl,ru,e⟩⟩:=r
 rw [show r2 = [] from e,show kvs = [] from List.map_eq_nil_iff.mp rk.1]
 obtain ⟨⟨us,⟨n,g⟩,rus⟩,_⟩:=S.led (a,.list xs) (by rw [hH];exact List.mem_append_right _ (.head _))
 refine call_meets F.slot_list_append ⟨_,g,rfl⟩ F.entry_list_append (F.args_list_append_2 _ _) (list_append a us.toArray n u (by rw [List.size_toArray,VRs.length rus];exact hl)) ⟨g,?_⟩
 exact Post.at (R:=c.VR) (y:=.none) (S.setL hH g _ (us:=us ++ [u]) (by simp) (rus.append (VRs.one ru)) _) rfl h
noncomputable def insL {α:Type} (xs:List α) (i:Nat) (y:α):List α:=xs.take i ++ y :: xs.drop i
theorem VRs.take {p:Program} {w:World} {h:Heap}:∀ {xs:List AV} {vs:List Value} (n:Nat),VRs p w h xs vs → VRs p w h (xs.take n) (vs.take n) ∧ VRs p w h (xs.drop n) (vs.drop n)
 | xs,vs,0,e=>⟨rfl,e⟩
 | [],_,n + 1,e=>by rw [show _ = [] from e];exact ⟨rfl,rfl⟩
 | x :: xs,_,n + 1,⟨v,r,e,a,b⟩=>by
  subst e
  obtain ⟨h1,h2⟩:=VRs.take n b
  exact ⟨⟨v,_,rfl,a,h1⟩,h2⟩
theorem Cal.insert {a:Addr} {xs:List AV} {i:Int} {y:AV} {pre post:List (Addr × AO)} (hH:σ.H = pre ++ (a,.list xs) :: post) (hl:xs.length ≤ sizeLine) (h0:0 ≤ i) (hi:i.toNat ≤ xs.length)
  (h:Q .none { σ with H:=pre ++ (a,.list (insL xs i.toNat y)) :: post }):Cal c (.builtin "list.insert") [.ref a,.int i,y] [] σ Q:=fun b k s vs kvs S r rk=>by
 obtain ⟨v,r',rfl,rfl,⟨vi,ri,rfl,⟨t,rfl⟩,⟨u,r2,rfl,ru,e⟩⟩⟩:=r
 rw [show r2 = [] from e,show kvs = [] from List.map_eq_nil_iff.mp rk.1]
 obtain ⟨⟨us,⟨n,g⟩,rus⟩,_⟩:=S.led (a,.list xs) (by rw [hH];exact List.mem_append_right _ (.head _))
 have hlen:=VRs.length rus
 have hfit:¬ (!Builtin.List.listFitsIndex i) = true:=by
  have:i < 2 ^ 62:=by
   have:sizeLine = 16777216:=sizeLine_eq
   lia
  have h2:Builtin.List.listFitsIndex i = true:=by unfold Builtin.List.listFitsIndex;simp;lia
  rw [h2];decide
 refine call_meets F.slot_list_insert ⟨_,g,rfl⟩ F.entry_list_insert (F.args_list_insert_3 _ _ _) (PySem.AutoListH.list_insert_list_int_val_1 a us.toArray n i t u hfit (by rw [List.size_toArray,hlen];exact hl)) ⟨g,?_⟩
 refine Post.at (R:=c.VR) (y:=.none) (S.setL hH g _ (us:=insL us i.toNat u) ?_ ?_ _) rfl h
 ·dsimp only
  rw [if_neg (by lia),List.size_toArray,Nat.min_eq_left (by rw [hlen];exact hi)]
  simp only [insL,List.extract_toArray,List.push_toArray,List.append_toArray]
  simp [List.take_of_length_le]
 ·obtain ⟨h1,h2⟩:=VRs.take i.toNat rus
  exact h1.append ⟨u,_,rfl,ru,h2⟩
end
section
variable {W₀:Wld} {c:Cx W₀} {σ:St} {P:AF → St → Prop}
theorem Ex.whil {test:Expr} {body:List Stmt} {pos:Pos} (I:Nat → St → Prop) (n:Nat) (h0:I n σ)
  (turn:∀ n σ,I n σ → Tr c test σ (kWl c body P fun σ=>∃ m,m < n ∧ I m σ)):Ex c (.While test body [] pos) σ P:=fun b k s S=>by
 refine wpAny_While (codeAny_mono (codeAny_whileLoop (R:=fun r s'=>match r with | .ok f=>Post c k (FR c) P b f s' | .error e=>False) (fun n s'=>∃ b' σ',b.StaysIn b' ∧ Sim c b' k σ' s' ∧ I n σ') ?_ n ⟨b,σ,stays_refl _,S,h0⟩) fun r s' z=>by
  cases r with
  | ok f=>exact z
  | error e=>exact z.elim)
 rintro n s' ⟨b',σ',st,S',hI⟩
 refine gst (turn n σ' hI b' k s' S') (fun b₂ d' σ₂ d s₂ t₂ S₂ r₂ h₂=>?_)
 subst r₂
 cases d with
 | false=>exact wpAny_execs_nil ⟨b₂,.next,σ₂,stays_trans st t₂,S₂,rfl,h₂⟩
 | true=>
  refine gst (h₂ b₂ k s₂ S₂) (fun b₃ y σ₃ f s₃ t₃ S₃ r₃ h₃=>?_)
  have tt:=stays_trans st (stays_trans t₂ t₃)
  cases y with
  | next=>obtain ⟨m,hm,hI'⟩:=h₃;rw [show f = .next from r₃];exact ⟨m,hm,b₃,σ₃,tt,S₃,hI'⟩
  | cont=>obtain ⟨m,hm,hI'⟩:=h₃;rw [show f = .cont from r₃];exact ⟨m,hm,b₃,σ₃,tt,S₃,hI'⟩
  | brk=>rw [show f = .brk from r₃];exact ⟨b₃,.next,σ₃,tt,S₃,rfl,h₃⟩
  | ret a=>obtain ⟨v,rfl,z⟩:=r₃;exact ⟨b₃,.ret a,σ₃,tt,S₃,⟨v,rfl,z⟩,h₃⟩
theorem Ex.assert {test:Expr} {pos:Pos} (h:Tr c test σ fun d σ₁=>d = true ∧ P .next σ₁):Ex c (.Assert test none pos) σ P:=fun b k s S=>
 wpAny_Assert c.hh (gst (h b k s S) (fun b₁ d' σ₁ d s₁ t₁ S₁ r₁ ⟨hd,h₁⟩=>by subst r₁;subst hd;exact ⟨b₁,.next,σ₁,t₁,S₁,rfl,h₁⟩))
noncomputable def Ord {W₀:Wld} (c:Cx W₀) (ts:List (Value → Sem Unit)) (xs:List AV) (σ:St) (P:Unit → St → Prop):Prop:=
 ∀ b k s vs,Sim c b k σ s → c.VRs b xs vs → wpAny (model c.prog c.w) c.A (assignInOrder ts vs) (Post c k UR P b) (fun _ _=>False) s
theorem Ord.nil {xs:List AV} {P:Unit → St → Prop} (h:P () σ):Ord c [] xs σ P:=fun b k s vs S r=>by
 show wpAny _ _ (pure ()) _ _ _
 exact wpAny_pure (Post.at (R:=UR) (y:=()) S trivial h)
noncomputable abbrev kOd {W₀:Wld} (c:Cx W₀) (ts:List (Value → Sem Unit)) (xs:List AV) (P:Unit → St → Prop) (_:Unit) (σ:St):Prop:=Ord c ts xs σ P
theorem Ord.cons {t:Value → Sem Unit} {ts:List (Value → Sem Unit)} {x:AV} {xs:List AV} {P:Unit → St → Prop} (h:Op1 c UR t x σ (kOd c ts xs P)):Ord c (t :: ts) (x :: xs) σ P:=fun b k s vs S r=>by
 obtain ⟨v,r',rfl,rv,rr⟩:=r
 unfold assignInOrder
 refine wpAny_bind (wpAny_holding (gst (h b k s v S rv) (fun b₁ _ σ₁ _ s₁ t₁ S₁ _ h₁=>?_)))
 exact glst t₁ (h₁ b₁ k s₁ r' S₁ (rr.mono t₁))
theorem Asn.tup {elts:List Expr} {x1:Nat} {pos:Pos} {xs:List AV} {P:Unit → St → Prop} (hn:(assignEach elts c.env).length = xs.length) (h:Ord c ((assignEach elts c.env).map (·.2)) xs σ P) (hstar:(assignEach elts c.env).findIdx? (·.1) = Option.none:=by rfl) :
  Asn c (.Tuple elts x1 pos) (.tup xs) σ P:=fun b k s v S r=>by
 obtain ⟨a,vs,rfl,sq,rv⟩:=r
 have hs:=sq.stay (S.kb _)
 refine wpAny_assign_Tuple c.hh hs.isTup (by rw [hn,List.size_toArray,VRs.length rv]) hstar fun h' hx=>?_
 have g:s.heap.StaysIn h':=fun q o e=>hx q o (Nat.ne_of_lt (Heap.lt_size e)) e
 exact h b k { s with heap:=h' } vs (S.grow (s':={ s with heap:=h' }) g rfl S.gens) rv
theorem Ex.asgT {t e:Expr} {pos:Pos} (h:Ev c e σ (kAs c t P)) (he:(assignEach [t] c.env).map (·.2) = [assign t c.env]:=by rfl) (hs:swapsWithSole [t] e pos.line c.env = pure false:=by rfl)
  (hw:swappedStores [t] e c.env = pure Option.none:=by rfl):Ex c (.Assign [t] e pos) σ P:=fun b k s S=>by
 refine wpAny_Assign_stores (gst (h b k s S) (fun b₁ a σ₁ v s₁ t₁ S₁ r₁ h₁=>?_)) hs hw
 rw [he]
 show wpAny _ _ (assign t c.env v) _ _ _
 exact gst (h₁ b₁ k s₁ v S₁ r₁) (fun b₂ _ σ₂ _ s₂ t₂ S₂ _ h₂=>⟨b₂,.next,σ₂,stays_trans t₁ t₂,S₂,rfl,h₂⟩)
theorem Ex.asgSwap {targets:List Expr} {e:Expr} {pos:Pos} {names:List PySem.Str} (h:Ev c e σ fun a σ₁=>∃ xs,a = .tup xs ∧ xs.length = names.length ∧ Ord c (names.reverse.map fun n=>bindName c.env n) xs.reverse σ₁ fun _ σ₂=>P .next σ₂)
  (hs:swapsWithSole targets e pos.line c.env = pure false:=by rfl) (hw:swappedStores targets e c.env = pure (some names):=by rfl):Ex c (.Assign targets e pos) σ P:=fun b k s S=>by
 rw [arm_exec_Assign]
 refine wpAny_bind (wpAny_standAt ?_)
 rw [hs]
 refine wpAny_bind (wpAny_pure ?_)
 rw [if_neg (by decide)]
 refine wpAny_bind (gst (h b k s S) (fun b₁ a σ₁ v s₁ t₁ S₁ r₁ hZ=>?_))
 obtain ⟨xs,ha,hl,h₁⟩:=hZ
 subst ha
 rw [hw]
 refine wpAny_bind (wpAny_pure ?_)
 unfold assignStores
 obtain ⟨q,vs,rfl,sq,rv⟩:=r₁
 have hsq:=(sq.stay (S₁.kb _)).isTup
 refine wpAny_bind (wpAny_rule ?_)
 rw [show names.length = vs.toArray.size by rw [List.size_toArray,VRs.length rv,hl]]
 refine wpAny_bind (wpAny_unpackItems_tuple c.hh hsq fun h' hx=>?_)
 have g:s₁.heap.StaysIn h':=fun q o e=>hx q o (Nat.ne_of_lt (Heap.lt_size e)) e
 have S₂:=S₁.grow (s':={ s₁ with heap:=h' }) g rfl S₁.gens
 have rrev:c.VRs b₁ xs.reverse vs.reverse:=VRs.of_get (by rw [List.length_reverse,List.length_reverse];exact VRs.length rv) fun i x v e1 e2=>by
  have hlen:=VRs.length rv
  have hi:i < xs.length:=by
   have:=(List.getElem?_eq_some_iff.mp e1).1
   rwa [List.length_reverse] at this
  rw [List.getElem?_reverse hi] at e1
  rw [List.getElem?_reverse (by rw [hlen];exact hi)] at e2
  obtain ⟨u,e3,z⟩:=VRs.get rv e1
  rw [hlen] at e2
  rw [e3] at e2;cases e2
  exact z
 refine wpAny_bind (gst (h₁ b₁ k { s₁ with heap:=h' } vs.reverse S₂ rrev) (fun b₃ _ σ₃ _ s₃ t₃ S₃ _ h₃=>?_))
 exact wpAny_pure ⟨b₃,.next,σ₃,stays_trans t₁ t₃,S₃,rfl,h₃⟩
noncomputable abbrev kZ {W₀:Wld} (c:Cx W₀) (P:AF → St → Prop) (v x y:AV) (σ:St):Prop:=Op3 c UR setItem x y v σ (kN P)
noncomputable abbrev kZ1 {W₀:Wld} (c:Cx W₀) (i:Expr) (P:AF → St → Prop) (v x:AV) (σ:St):Prop:=Ev c i σ (kZ c P v x)
theorem Ex.asgSub {o i e:Expr} {pos' pos:Pos} (h:Ev c e σ (kE c o (kZ1 c i P)))
  (hs:swapsWith e (some (.Subscript o i pos')) pos.line c.env = pure false:=by rfl):Ex c (.Assign [.Subscript o i pos'] e pos) σ P:=fun b k s S=>by
 refine wpAny_Assign_Subscript (gst (h b k s S) (fun b₁ a σ₁ v s₁ t₁ S₁ r₁ h₁=>?_)) hs
 refine gst (h₁ b₁ k s₁ S₁) (fun b₂ x σ₂ ov s₂ t₂ S₂ r₂ h₂=>?_)
 refine gst (h₂ b₂ k s₂ S₂) (fun b₃ y σ₃ iv s₃ t₃ S₃ r₃ h₃=>?_)
 exact gst (h₃ b₃ k s₃ ov iv v S₃ (VR.mono t₃ _ r₂) r₃ (VR.mono (stays_trans t₂ t₃) _ r₁)) (fun b₄ _ σ₄ _ s₄ t₄ S₄ _ h₄=>⟨b₄,.next,σ₄,stays_trans t₁ (stays_trans t₂ (stays_trans t₃ t₄)),S₄,rfl,h₄⟩)
end
end Lw
end
section
open PySem PySem.Calls PySem.W PyProof.Rows
namespace Lw
section
variable {W₀:Wld} {c:Cx W₀}
theorem comp_bodyR {W:AO → St → Prop} {e:Expr} {gens:List Comprehension} {g:Comprehension} {scope:Scope} (hcs:IsC e gens) (hg:gens[0]? = some g) (ha:(g.is_async != 0) = false) (hk:scope.kind = .function)
  (hfree:(scope.names.all fun x=>!(x.2 == .free) || (c.env.cells.lookup x.1).isSome) = true)
  {b k:Heap} {σ:St} {s:Shared} {I D:Addr} {items:List AV} {Ok:St → Prop} {At:Nat → Heap → Heap → Heap → Prop} {y:AO}
  (X:Iter c b k { σ with H:=(D,y) :: σ.H } s I items Ok At) (S:Sim c b k { σ with H:=(D,y) :: σ.H } s)
  (h:∀ C,∃ Inv:List AV → St → Prop,Inv [] (inComp σ scope D y) ∧
   (∀ pre x post σ,items = pre ++ x :: post → Inv pre σ → Asn (compCx c scope hk C) g.target x σ (kEm (compCx c scope hk C) g.ifs e gens 0 D (Inv (pre ++ [x])))) ∧
   (∀ σ₂,Inv items σ₂ → ∃ pre z post,σ₂.H = pre ++ (D,z) :: post ∧ W z { σ with H:=pre ++ (D,z) :: post }) ∧ ∀ pre σ,Inv pre σ → Ok σ)
  {RR:Addr → Result → Shared → Prop} (hR:∀ (C:Addr) (f:Flow) (b₂:Heap) (s₂:Shared) (z:AO) (pre post:List (Addr × AO)) (m:PySem.Str → Option Value),b.StaysIn b₂ → Sim c b₂ k { σ with H:=pre ++ (D,z) :: post } s₂ → s₂.heap.Ns C m →
   b₂.get? C = none → k.get? C = none → C ≠ c.L → (∀ q ∈ pre ++ (D,z) :: post,q.1 ≠ C) → (∀ x r,c.env.cells.lookup x = some r → r ≠ C) → W z { σ with H:=pre ++ (D,z) :: post } → RR C (.ok f) s₂) :
  wpAny (model c.prog c.w) c.A (newFunctionEnv scope c.env.globals (clFor c.env.cells scope.names []) [] c.env.qual none .none (some c.env))
   (fun cenv s₄=>codeAny (model c.prog c.w) c.A (.compStart e 0 (.ref I) (.ref D) { cenv with scope:=relabel scope c.env }) (RR cenv.locals) s₄) (fun _ _=>False) s:=by
 refine newCompEnv ?_
 refine byG fun Gq kq=>?_
 obtain ⟨S₄,S',X',v1,v2,v3⟩:=comp_enter hk hfree X S X.off
 obtain ⟨Inv,h0,turn,done,hOk⟩:=h s.heap.objs.size
 refine kq ?_
 have e1:({ scope:=relabel scope c.env,locals:=s.heap.objs.size,globals:=c.env.globals,cells:=cellsFrom (s.heap.objs.size + 1) scope.names (clFor c.env.cells scope.names []),qual:=c.env.qual,func:=none,code:=c.env.code,frame:=c.env.frame,builtins:=c.env.builtins }:Env) = (compCx c scope hk s.heap.objs.size).env:=by
  rw [cellsFrom_append];rfl
 dsimp only
 rw [e1]
 have core:=comp_start (c:=compCx c scope hk s.heap.objs.size) hcs hg ha X' (comp_core hcs hg ha X' S' Inv h0 turn done hOk)
 refine codeAny_mono core fun r s₅ z=>?_
 cases r with
 | error e=>exact z.elim
 | ok f=>
  refine byG fun Gq kq=>?_
  obtain ⟨b₂,σ₂,t₂,S₂,pre,w,post,hH,hW⟩:=z
  obtain ⟨m,hm,_⟩:=S₂.ns
  refine kq ?_
  have L:=Sim.leave (c:=c) (c':=compCx c scope hk s.heap.objs.size) S₄ t₂ S₂ v1 v2 v3 (fun _ h=>.inl h)
  rw [hH] at L
  exact hR _ f b₂ s₅ w pre post m t₂ L hm S₂.offL.1 S.fresh.2.1 S.fresh.2.2.1 (fun q hq=>(S₂.led q (by rw [hH];exact hq)).2.2.2) S.fresh.2.2.2.2 hW
structure CK {W₀:Wld} (c:Cx W₀) (e:Expr) (g:Comprehension) (gs:List Comprehension) (scope:Scope) (newAcc:Sem Value) (o:Obj) (y:AO):Prop where
 cs:IsC e (g :: gs)
 cl:clausesOf e = g :: gs
 new:∀ (s:Shared) (Q:Value → Shared → Prop),Q (.ref s.heap.objs.size) { s with heap:=s.heap.push o } → wpAny (model c.prog c.w) c.A newAcc Q (fun _ _=>False) s
 oa:∀ b k σ s,Sim c b k σ s → OA c b (s.heap.push o) s.heap.objs.size y
theorem CK.lst {elt:Expr} {g:Comprehension} {gs:List Comprehension} {scope:Scope} {pos:Pos}:CK c (.ListComp elt (g :: gs) scope pos) g gs scope (newList []) { cls:=.type "list",data:=.seq ([]:List Value).toArray } (.list []) where
 cs:=IsC.lst elt (g :: gs) scope pos
 cl:=rfl
 new:=fun s Q h=>wpAny_newList h (by decide)
 oa:=fun b k σ s S=>⟨[],⟨0,Heap.get?_push_size _ rfl⟩,rfl⟩
noncomputable def Turns {W₀:Wld} (c:Cx W₀) (e:Expr) (g:Comprehension) (gs:List Comprehension) (scope:Scope) (hk:scope.kind = .function) (y:AO) (σ₁:St) (items:List AV) (W:Addr → AO → St → Prop):Prop:=∀ D C,
 ∃ Inv:List AV → St → Prop,Inv [] (inComp σ₁ scope D y) ∧
   (∀ pre x post σ,items = pre ++ x :: post → Inv pre σ → Asn (compCx c scope hk C) g.target x σ (kEm (compCx c scope hk C) g.ifs e (g :: gs) 0 D (Inv (pre ++ [x])))) ∧
   (∀ σ₂,Inv items σ₂ → ∃ pre z post,σ₂.H = pre ++ (D,z) :: post ∧ W D z { σ₁ with H:=pre ++ (D,z) :: post })
noncomputable def TurnsG {W₀:Wld} (c:Cx W₀) (e:Expr) (g:Comprehension) (gs:List Comprehension) (scope:Scope) (hk:scope.kind = .function) (y:AO) (σ₁:St) (items:List AV) (Ok:St → Prop) (W:Addr → AO → St → Prop):Prop:=∀ D C,(∀ q ∈ σ₁.H,q.1 ≠ D) →
 ∃ Inv:List AV → St → Prop,Inv [] (inComp σ₁ scope D y) ∧
   (∀ pre x post σ,items = pre ++ x :: post → Inv pre σ → Asn (compCx c scope hk C) g.target x σ (kEm (compCx c scope hk C) g.ifs e (g :: gs) 0 D (Inv (pre ++ [x])))) ∧
   (∀ σ₂,Inv items σ₂ → ∃ pre z post,σ₂.H = pre ++ (D,z) :: post ∧ W D z { σ₁ with H:=pre ++ (D,z) :: post }) ∧ ∀ pre σ,Inv pre σ → Ok σ
noncomputable abbrev kFz (Q:AV → St → Prop) (D:Addr) (_:AO) (σ:St):Prop:=Frz Q (.ref D) σ
noncomputable abbrev kU1 (x:PySem.Str) (P:AF → St → Prop) (a:AV) (σ:St):Prop:=P .next { σ with m:=(x,a) :: σ.m }
inductive kLg {W₀:Wld} (c:Cx W₀) (e:Expr) (g:Comprehension) (gs:List Comprehension) (scope:Scope) (hk:scope.kind = .function) (y:AO) (Q:AV → St → Prop) (v:AV) (σ:St):Prop
 | mk (items:List AV) (Ok:St → Prop) (hi:ItbG c v σ items Ok) (ht:TurnsG c e g gs scope hk y σ items Ok (kFz Q))
inductive kLc {W₀:Wld} (c:Cx W₀) (e:Expr) (g:Comprehension) (gs:List Comprehension) (scope:Scope) (hk:scope.kind = .function) (y:AO) (Q:AV → St → Prop) (v:AV) (σ:St):Prop
 | mk (items:List AV) (hi:Itb c v σ items) (ht:Turns c e g gs scope hk y σ items (kFz Q))
theorem comp_plainG {e:Expr} {g:Comprehension} {gs:List Comprehension} {scope:Scope} {pos:Pos} {newAcc:Sem Value} {o:Obj} {y:AO} (K:CK c e g gs scope newAcc o y) {σ:St} {Q:AV → St → Prop} (hk:scope.kind = .function) (ha:(g.is_async != 0) = false)
  (hfree:(scope.names.all fun x=>!(x.2 == .free) || (c.env.cells.lookup x.1).isSome) = true) (hnames:∀ x ∈ scope.names,x.2 = .local → scope.names.lookup x.1 = some .local)
  (h:Ev c g.iter σ (kLg c e g gs scope hk y Q))
  (hs:∀ x,foldedSetIterable g.iter c.env x = pure x) (he:eval e c.env = comprehension e scope c.env (firstIterPos (g :: gs) pos) newAcc (firstAsync (g :: gs)) (eval g.iter c.env)):Ev c e σ Q:=fun b k s S=>by
 obtain ⟨gt,gi,gf,gas⟩:=g
 have hfa:firstAsync (⟨gt,gi,gf,gas⟩ :: gs) = false:=ha
 rw [he,hfa]
 refine wpAny_comprehension_free (cl:=clFor c.env.cells scope.names []) K.cl hs (closure_is hfree) hk hnames ?_
 refine gst (h b k s S) (fun b₁ y₁ σ₁ v s₁ t₁ S₁ r₁ hZ=>?_)
 obtain ⟨items,Ok,hi,hb⟩:=hZ
 refine hi b₁ k s₁ v S₁ r₁ _ fun I s₂ At X S₂=>?_
 refine K.new _ _ ?_
 have S₃:=S₂.newLed (o:=o) (y:=y) (K.oa _ _ _ _ S₂)
 refine comp_bodyR (W:=fun z σ₂=>Frz Q (.ref s₂.heap.objs.size) σ₂) K.cs rfl ha hk hfree (X.newLed _ _) S₃ (fun C=>hb s₂.heap.objs.size C S₂.fresh.2.2.2.1) fun C f b₂ s₄ z pre post m t₂ S₄ hm o1 o2 o3 o4 o5 hW=>?_
 refine ⟨m,hm,fun h' hs'=>?_⟩
 have S₅:=S₄.other (I:=C) o1 o2 o3 o4 o5 (h':=h') (fun a o ha e=>(hs'.2 a ha).trans e) s₄.toks
 exact Post.frz ⟨b₂,.ref _,_,stays_trans t₁ t₂,S₅,rfl,hW⟩
theorem comp_plain {e:Expr} {g:Comprehension} {gs:List Comprehension} {scope:Scope} {pos:Pos} {newAcc:Sem Value} {o:Obj} {y:AO} (K:CK c e g gs scope newAcc o y) {σ:St} {Q:AV → St → Prop} (hk:scope.kind = .function) (ha:(g.is_async != 0) = false)
  (hfree:(scope.names.all fun x=>!(x.2 == .free) || (c.env.cells.lookup x.1).isSome) = true) (hnames:∀ x ∈ scope.names,x.2 = .local → scope.names.lookup x.1 = some .local)
  (h:Ev c g.iter σ (kLc c e g gs scope hk y Q))
  (hs:∀ x,foldedSetIterable g.iter c.env x = pure x) (he:eval e c.env = comprehension e scope c.env (firstIterPos (g :: gs) pos) newAcc (firstAsync (g :: gs)) (eval g.iter c.env)):Ev c e σ Q:=
 comp_plainG K hk ha hfree hnames (Go.mono h fun v σ₁ hZ=>by
  obtain ⟨items,hi,hb⟩:=hZ
  refine ⟨items,_,hi,fun D C _=>?_⟩
  obtain ⟨Inv,h0,turn,done⟩:=hb D C
  exact ⟨Inv,h0,turn,done,fun _ _ _=>trivial⟩) hs he
theorem comp_used {e:Expr} {g:Comprehension} {gs:List Comprehension} {scope:Scope} {pos spos px:Pos} {x:PySem.Str} {newAcc:Sem Value} {o:Obj} {y:AO} (K:CK c e g gs scope newAcc o y) {σ:St} {P:AF → St → Prop} (hk:scope.kind = .function) (ha:(g.is_async != 0) = false)
  (hfree:(scope.names.all fun x=>!(x.2 == .free) || (c.env.cells.lookup x.1).isSome) = true) (hnames:∀ x ∈ scope.names,x.2 = .local → scope.names.lookup x.1 = some .local) (hx:c.env.kindOf x = some .local)
  (hsw:swapsWith e (some (.Name x px)) spos.line c.env = pure true)
  (h:Ev c g.iter σ (kLc c e g gs scope hk y (kU1 x P)))
  (hs:∀ x,foldedSetIterable g.iter c.env x = pure x)
  (he:evalThenUse e c.env (assign (.Name x px) c.env) = (do let _ ← comprehension e scope c.env (firstIterPos (g :: gs) pos) newAcc (firstAsync (g :: gs)) (eval g.iter c.env) (some (assign (.Name x px) c.env)))) (hz:c.fz = false):Ex c (.Assign [.Name x px] e spos) σ P:=fun b k s S=>by
 refine byG fun Gq kq=>?_
 obtain ⟨gt,gi,gf,gas⟩:=g
 refine kq ?_
 have hfa:firstAsync (⟨gt,gi,gf,gas⟩ :: gs) = false:=ha
 rw [exec_Assign_Name_used _ _ _ _ hsw]
 refine wpAny_bind (wpAny_standAt (wpAny_bind ?_))
 rw [he,hfa]
 refine wpAny_bind (wpAny_mono (wpAny_comprehension_free (use:=some (assign (.Name x px) c.env)) (Q:=fun _ s'=>Post c k (FR c) P b .next s') (cl:=clFor c.env.cells scope.names []) K.cl hs (closure_is hfree) hk hnames ?_) (fun _ s' hq=>wpAny_pure (wpAny_pure hq)) fun _ _ z=>z)
 refine gst (h b k s S) (fun b₁ y₁ σ₁ v s₁ t₁ S₁ r₁ hZ=>?_)
 refine byG fun Gq kq=>?_
 obtain ⟨items,hi,hb⟩:=hZ
 refine kq ?_
 refine hi b₁ k s₁ v S₁ r₁ _ fun I s₂ At X S₂=>?_
 refine K.new _ _ ?_
 have S₃:=S₂.newLed (o:=o) (y:=y) (K.oa _ _ _ _ S₂)
 refine comp_bodyR (W:=fun z σ₂=>Frz (kU1 x P) (.ref s₂.heap.objs.size) σ₂) K.cs rfl ha hk hfree (X.newLed _ _) S₃ (fun C=>Exists.imp (fun _ z=>⟨z.1,z.2.1,z.2.2,fun _ _ _=>trivial⟩) (hb s₂.heap.objs.size C)) fun C f b₂ s₄ z pre post m t₂ S₄ hm o1 o2 o3 o4 o5 hW=>?_
 show wpAny _ _ (assign (.Name x px) c.env (.ref s₂.heap.objs.size)) _ _ _
 have fr:∃ b₃ a σ',b₂.StaysIn b₃ ∧ Sim c b₃ k σ' s₄ ∧ c.VR b₃ a (.ref s₂.heap.objs.size) ∧ P .next { σ' with m:=(x,a) :: σ'.m } ∧ b₃.get? C = none ∧ ∀ q ∈ σ'.H,q.1 ≠ C:=by
  have hne:∀ {D:Addr} {w:AO} {pre' post':List (Addr × AO)},pre ++ (s₂.heap.objs.size,z) :: post = pre' ++ (D,w) :: post' → D ≠ C ∧ ∀ q ∈ pre' ++ post',q.1 ≠ C:=fun {D w pre' post'} e=>by
   refine ⟨o4 (D,w) (by rw [e];exact List.mem_append_right _ (.head _)),fun q hq=>o4 q (by rw [e];rcases List.mem_append.mp hq with h1 | h1;exact List.mem_append_left _ h1;exact List.mem_append_right _ (.tail _ h1))⟩
  cases hW with
  | as h=>exact ⟨b₂,.ref s₂.heap.objs.size,_,stays_refl _,S₄,rfl,h,o1,o4⟩
  | lst D xs pre' post' ha hH h=>
   refine byG fun Gq kq=>?_
   obtain ⟨n1,n2⟩:=hne hH
   have S':Sim c b₂ k { { σ₁ with H:=pre ++ (s₂.heap.objs.size,z) :: post } with H:=pre' ++ (D,.list xs) :: post' } s₄:=by rw [← hH];exact S₄
   obtain ⟨⟨vs,⟨nn,g⟩,r⟩,_⟩:=S'.led (D,.list xs) (List.mem_append_right _ (.head _))
   obtain ⟨st,gg,S₅⟩:=S'.freezeH g
   refine kq ?_
   cases ha
   exact ⟨_,.lst xs,_,st,S₅,⟨_,vs,rfl,⟨nn,gg⟩,VRs.mono st _ r⟩,h,(insH_other _ _ _ _ (Ne.symm n1)).trans o1,n2⟩
  | dct D ks xs pre' post' ha hH h=>
   refine byG fun Gq kq=>?_
   obtain ⟨n1,n2⟩:=hne hH
   have S':Sim c b₂ k { { σ₁ with H:=pre ++ (s₂.heap.objs.size,z) :: post } with H:=pre' ++ (D,.dict ks xs) :: post' } s₄:=by rw [← hH];exact S₄
   obtain ⟨⟨kvs,d,e4,r,zz⟩,_⟩:=S'.led (D,.dict ks xs) (List.mem_append_right _ (.head _))
   obtain ⟨ob,es,ep,g,rr⟩:=id d
   obtain ⟨st,gg,S₅⟩:=S'.freezeH g
   refine kq ?_
   cases ha
   exact ⟨_,.dct ks xs,_,st,S₅,⟨_,kvs,rfl,⟨ob,es,ep,gg,rr⟩,e4,VRs.mono st _ r,zz⟩,h,(insH_other _ _ _ _ (Ne.symm n1)).trans o1,n2⟩
 refine byG fun Gq kq=>?_
 obtain ⟨b₃,a,σ',t₃,S₅,ra,hP,p1,p2⟩:=fr
 obtain ⟨m₁,hn₁,q₁⟩:=S₅.ns
 refine kq ?_
 refine wpAny_assign_Name (wpAny_storeName_local hx hn₁ (fun h' hn' hs'=>?_) (by rw [c.hk];rfl))
 have S₆:Sim c b₃ k { σ' with m:=(x,a) :: σ'.m } { s₄ with heap:=h',toks:=s₄.toks }:=S₅.local hn' hs' (fun z u e=>by
  rw [List.lookup_cons] at e
  by_cases hzx:z = x
  ·subst hzx
   rw [beq_self_eq_true] at e
   cases e
   exact ⟨_,if_pos rfl,ra⟩
  ·rw [show (z == x) = false from beq_eq_false_iff_ne.mpr hzx] at e
   refine byG fun Gq kq=>?_
   obtain ⟨u',e',z'⟩:=q₁ z u e
   refine kq ?_
   exact ⟨u',(if_neg hzx).trans e',z'⟩) s₄.toks hz
 refine ⟨m,hm.sameBut hs' o3,fun h'' hs''=>?_⟩
 have S₇:=S₆.other (I:=C) p1 o2 o3 p2 o5 (h':=h'') (fun a o ha e=>(hs''.2 a ha).trans e) (s₄.toks + 1)
 exact ⟨b₃,.next,_,stays_trans t₁ (stays_trans t₂ t₃),S₇,rfl,hP⟩
variable {σ:St}
theorem Ev.lc {elt:Expr} {g:Comprehension} {gs:List Comprehension} {scope:Scope} {pos:Pos} {Q:AV → St → Prop} (hk:scope.kind = .function) (h:Ev c g.iter σ (kLc c (.ListComp elt (g :: gs) scope pos) g gs scope hk (.list []) Q))
  (hfree:(scope.names.all fun x=>!(x.2 == .free) || (c.env.cells.lookup x.1).isSome) = true) (hnames:(scope.names.all fun x=>!(x.2 == .local) || scope.names.lookup x.1 == some .local) = true) (ha:(g.is_async != 0) = false:=by rfl)
  (hs:∀ x,foldedSetIterable g.iter c.env x = pure x:=by intro _;rfl):Ev c (.ListComp elt (g :: gs) scope pos) σ Q:=by
 obtain ⟨gt,gi,gf,gas⟩:=g
 exact comp_plain (pos:=pos) CK.lst hk ha hfree (fun x hx hl=>by have:=List.all_eq_true.mp hnames x hx;simpa [hl] using this) h hs (by with_unfolding_all rfl)
theorem Ex.lc {x:PySem.Str} {px spos:Pos} {elt:Expr} {g:Comprehension} {gs:List Comprehension} {scope:Scope} {pos:Pos} {P:AF → St → Prop} (hk:scope.kind = .function) (h:Ev c g.iter σ (kLc c (.ListComp elt (g :: gs) scope pos) g gs scope hk (.list []) (kU1 x P)))
  (hx:c.env.kindOf x = some .local) (hsw:swapsWith (.ListComp elt (g :: gs) scope pos) (some (.Name x px)) spos.line c.env = pure true)
  (hfree:(scope.names.all fun x=>!(x.2 == .free) || (c.env.cells.lookup x.1).isSome) = true) (hnames:(scope.names.all fun x=>!(x.2 == .local) || scope.names.lookup x.1 == some .local) = true) (ha:(g.is_async != 0) = false:=by rfl)
  (hs:∀ x,foldedSetIterable g.iter c.env x = pure x:=by intro _;rfl) (hz:c.fz = false:=by kernel_rfl):Ex c (.Assign [.Name x px] (.ListComp elt (g :: gs) scope pos) spos) σ P:=by
 obtain ⟨gt,gi,gf,gas⟩:=g
 exact comp_used (pos:=pos) CK.lst hk ha hfree (fun x hx hl=>by have:=List.all_eq_true.mp hnames x hx;simpa [hl] using this) hx hsw h hs (by with_unfolding_all rfl) hz
end
end Lw
end
section
open PySem PySem.Calls PySem.W PyProof.Rows
namespace Lw
structure Def (W₀:Wld) (f:Addr) (F:Fn) (d kd:Value):Prop where
 ex:∃ q doc pm code o,W₀.g0.get? f = some o ∧ o.data = .func (mkFd F q d kd doc pm code) ∧ W₀.g0.CodeRec code q
 kind:F.scope.kind = .function
 co:F.scope.isCoroutine = false
 gen:F.scope.isGenerator = false
theorem Def.cee {W₀:Wld} {c:Cx W₀} {f:Addr} {F:Fn} {d kd:Value} (h:Def W₀ f F d kd):Cee c (.ref f):=fun hh k=>by
 obtain ⟨q,doc,pm,code,o,ho,hd,_⟩:=h.ex
 refine ⟨.frame,.inl rfl,(Looks.ld (part:=none) (k _ _ ho)).andThen ?_⟩
 rw [hd];exact .now
theorem Cx.Room.fn {W₀:Wld} {c:Cx W₀} {n:Nat} (h:c.Room (n + 1)) {f:Addr} {fd:FuncData} {body:List Stmt} (hf:IsFn W₀ f fd body) (L:Addr):(funCx c hf L).Room n:=by
 obtain ⟨a,b⟩:=h
 exact ⟨by show c.A.depth + 1 + 2 * n < 600;lia,by show c.A.units + 3 + 20 * n < 9000;lia⟩
theorem Cx.Room.comp {W₀:Wld} {c:Cx W₀} {n:Nat} (h:c.Room n) (scope:Scope) (hk:scope.kind = .function) (C:Addr):(compCx c scope hk C).Room n:=h
theorem Cx.Room.u {W₀:Wld} {c:Cx W₀} {n:Nat} (h:c.Room n):c.A.units < 9000:=by have:=h.2;lia
theorem Cx.Room.d {W₀:Wld} {c:Cx W₀} {n:Nat} (h:c.Room n):c.A.depth < recursionLimit:=by have:=h.1;have:recursionLimit = 1000:=rfl;lia
noncomputable def nodupB:List PySem.Str → Bool
 | []=>true
 | x :: r=>!r.contains x && nodupB r
theorem nodupB_of:∀ {l:List PySem.Str},nodupB l = true → l.Nodup
 | [],_=>.nil
 | x :: r,h=>by
  obtain ⟨a,b⟩:=Bool.and_eq_true_iff.mp h
  exact List.nodup_cons.mpr ⟨by simpa using a,nodupB_of b⟩
theorem call_defC {W₀:Wld} {c:Cx W₀} {f:Addr} {F:Fn} {d kd:Value} {as:List AV} {kw bas:List (PySem.Str × AV)} {σ:St} {Q:AV → St → Prop} {n:Nat} (hf:Def W₀ f F d kd) (hr:c.Room n)
  (hb:∀ q doc pm code,Bind c (mkFd F q d kd doc pm code) as kw bas) (hnd:nodupB (bas.map (·.1)) = true)
  (hkind:(bas.all fun q=>F.scope.names.lookup q.1 == some .local || (F.scope.names.lookup q.1 == some .cell && ownCell F.scope q.1)) = true)
  (hcn:nodupB ((cellsFrom 0 F.scope.names []).map (·.1)) = true)
  (m cl:List (PySem.Str × AV)) (hm:(bas.filter fun q=>F.scope.names.lookup q.1 == some .local) = m) (hcl:(bas.filter fun q=>!(F.scope.names.lookup q.1 == some .local)) = cl)
  (h:∀ q doc pm code (hfn:IsFn W₀ f (mkFd F q d kd doc pm code) F.body) L,Exs (funCx c hfn L) F.body ⟨m,cl,σ.H⟩ (kFn σ Q)) :
  CalC c (.ref f) as kw σ Q:=by
 subst hm hcl
 refine byG fun Gq kq=>?_
 obtain ⟨q,doc,pm,code,o,ho,hd,hcd⟩:=hf.ex
 refine kq ?_
 have hfn:IsFn W₀ f (mkFd F q d kd doc pm code) F.body:=⟨⟨o,ho,hd⟩,hcd,rfl,rfl,rfl,rfl,hf.kind,hf.co,hf.gen⟩
 exact call_fnC (bas:=bas) hfn hr.d (hb _ _ _ _) (nodupB_of hnd) hkind (nodupB_of hcn) fun L=>h _ _ _ _ hfn L
theorem call_def {W₀:Wld} {c:Cx W₀} {f:Addr} {F:Fn} {d kd:Value} {as:List AV} {kw bas:List (PySem.Str × AV)} {σ:St} {Q:AV → St → Prop} {n:Nat} (hf:Def W₀ f F d kd) (hr:c.Room n)
  (hb:∀ q doc pm code,Bind c (mkFd F q d kd doc pm code) as kw bas) (hnd:nodupB (bas.map (·.1)) = true)
  (hkind:(bas.all fun q=>F.scope.names.lookup q.1 == some .local || (F.scope.names.lookup q.1 == some .cell && ownCell F.scope q.1)) = true)
  (hcn:nodupB ((cellsFrom 0 F.scope.names []).map (·.1)) = true)
  (m cl:List (PySem.Str × AV)) (hm:(bas.filter fun q=>F.scope.names.lookup q.1 == some .local) = m) (hcl:(bas.filter fun q=>!(F.scope.names.lookup q.1 == some .local)) = cl)
  (h:∀ q doc pm code (hfn:IsFn W₀ f (mkFd F q d kd doc pm code) F.body) L,Exs (funCx c hfn L) F.body ⟨m,cl,σ.H⟩ (kFn σ Q)) :
  Cal c (.ref f) as kw σ Q:=(call_defC hf hr hb hnd hkind hcn m cl hm hcl h).cal
theorem kv_one {kvs:List (PySem.Str × Value)} {x:PySem.Str} (k1:kvs.map (·.1) = [x]):∃ u,kvs = [(x,u)]:=by
 cases kvs with
 | nil=>cases k1
 | cons q r=>
  cases r with
  | nil=>injection k1 with e;exact ⟨q.2,by rw [← e]⟩
  | cons _ _=>injection k1 with _ e;cases e
theorem allS {P:List Value → Prop} {n:Nat} (h:∀ a,∀ vs:List Value,vs.length = n → P (a :: vs)):∀ vs:List Value,vs.length = n + 1 → P vs
 | a :: vs,e=>h a vs (Nat.succ.inj e)
theorem all0 {P:List Value → Prop} (h:P []):∀ vs:List Value,vs.length = 0 → P vs:=fun vs e=>by
 rw [List.length_eq_zero_iff.mp e];exact h
theorem all1 {P:List Value → Prop} (h:∀ a,P [a]):∀ vs:List Value,vs.length = 1 → P vs:=allS fun a=>all0 (h a)
theorem all2 {P:List Value → Prop} (h:∀ a b,P [a,b]):∀ vs:List Value,vs.length = 2 → P vs:=allS fun a=>all1 (h a)
theorem all3 {P:List Value → Prop} (h:∀ a b d,P [a,b,d]):∀ vs:List Value,vs.length = 3 → P vs:=allS fun a=>all2 (h a)
theorem all4 {P:List Value → Prop} (h:∀ a b d e,P [a,b,d,e]):∀ vs:List Value,vs.length = 4 → P vs:=allS fun a=>all3 (h a)
theorem Bind.pos {W₀:Wld} {c:Cx W₀} {fd:FuncData} {as:List AV} {ns:List PySem.Str} (hl:ns.length = as.length) (h:∀ vs:List Value,vs.length = ns.length → bindArgs fd ⟨vs,[]⟩ = pure (ns.zip vs)):Bind c fd as [] (ns.zip as):=fun b k σ s vs kvs S r rk=>by
 have hv:=VRs.length r
 rw [show kvs = [] from List.map_eq_nil_iff.mp rk.1]
 refine ⟨_,BindsTo.of_eq (h vs (hv.trans hl.symm)),?_,?_⟩
 ·rw [(zip_names ns vs (hl.trans hv.symm)).1,(zip_names ns as hl).1]
 ·rw [(zip_names ns vs (hl.trans hv.symm)).2,(zip_names ns as hl).2];exact r
end Lw
end
section
open PySem PySem.Calls PySem.W PyProof.Rows
namespace Lw
noncomputable def AllIn:List (PySem.Str × AV) → List (PySem.Str × AV) → Prop
 | [],_=>True
 | q :: r,m=>m.lookup q.1 = some q.2 ∧ AllIn r m
theorem AllIn.mem:∀ {l m:List (PySem.Str × AV)},AllIn l m → ∀ q ∈ l,m.lookup q.1 = some q.2
 | q :: r,m,h,p,hp=>by
  rcases List.mem_cons.mp hp with rfl | hp
  ·exact h.1
  ·exact AllIn.mem h.2 p hp
theorem AllIn.sub {l m:List (PySem.Str × AV)} (h:AllIn l m):∀ x a,l.lookup x = some a → m.lookup x = some a:=fun x a e=>AllIn.mem h (x,a) (mem_of_lookup e)
structure Lf (σ σ':St):Prop where
 m:∀ x a,σ'.m.lookup x = some a → σ.m.lookup x = some a
 cl:∀ x a,σ'.cl.lookup x = some a → σ.cl.lookup x = some a
 H:σ.H = σ'.H
theorem Lf.le {σ σ':St} (h:Lf σ σ'):Le σ σ':=⟨h.m,h.cl,by rw [h.H];exact List.Sublist.refl _⟩
theorem Lf.of {σ σ':St} (h:AllIn σ'.m σ.m) (h2:AllIn σ'.cl σ.cl) (h3:σ.H = σ'.H):Lf σ σ':=⟨h.sub,h2.sub,h3⟩
theorem Lf.refl (σ:St):Lf σ σ:=⟨fun _ _ e=>e,fun _ _ e=>e,rfl⟩
theorem Lf.mm {σ σ':St} (h:AllIn σ'.m σ.m) (h2:σ'.cl = σ.cl) (h3:σ.H = σ'.H):Lf σ σ':=⟨h.sub,fun _ _ e=>h2 ▸ e,h3⟩
section
variable {W₀:Wld} {c:Cx W₀} {σ:St}
theorem Op1.weakP {α β:Type} {R:Heap → β → α → Prop} {f:Value → Sem α} {x:AV} {σ':St} {P:β → St → Prop} (l:Lf σ σ') (h:Op1 c R f x σ' P):Op1 c R f x σ P:=fun b k s v S r=>h b k s v (S.weak l.m l.cl l.le.H) r
noncomputable abbrev kLf (τ σ:St):Prop:=Lf σ τ
inductive kFs {W₀:Wld} (c:Cx W₀) (target:Expr) (body:List Stmt) (W:AF → St → Prop) (y:AV) (σ:St):Prop
 | mk (items:List AV) (hi:Itb c y σ items) (st:List AV → St) (h0:Lf σ (st [])) (turn:∀ pre x post,items = pre ++ x :: post → Asn c target x (st pre) (kBd c body (kLp W (kLf (st (pre ++ [x])))))) (done:W .next (st items))
inductive kWq (W:AF → St → Prop) (f:AF) (σ:St):Prop | mk (τ:St) (l:Le σ τ) (h:W f τ)
theorem kLp.weak {W:AF → St → Prop} {I:St → Prop} {f:AF} {σ:St} (h:kLp W I f σ):kLp (kWq W) I f σ:=by
 cases f with
 | next=>exact h
 | cont=>exact h
 | brk=>exact ⟨σ,⟨fun _ _ e=>e,fun _ _ e=>e,List.Sublist.refl _⟩,h⟩
 | ret a=>exact ⟨σ,⟨fun _ _ e=>e,fun _ _ e=>e,List.Sublist.refl _⟩,h⟩
theorem Asn.weak {t:Expr} {body:List Stmt} {x:AV} {W:AF → St → Prop} {I:St → Prop} {σ':St} (l:Lf σ σ') (h:Asn c t x σ' (kBd c body (kLp W I))):Asn c t x σ (kBd c body (kLp (kWq W) I)):=
 Op1.weakP l fun b k s v S r=>gst (h b k s v S r) fun b' y' σ₂ v s' t S' r' h'=>⟨b',y',σ₂,t,S',r',Go.mono h' fun f σ₃ z=>kLp.weak z⟩
theorem Ex.weakW {t:Stmt} {W:AF → St → Prop} (h:Ex c t σ (kWq W)):Ex c t σ W:=fun b k s S=>gst (h b k s S) fun b' y σ' v s' x S' r z=>match z with | ⟨τ,l,q⟩=>⟨b',y,τ,x,S'.weak l.m l.cl l.H,r,q⟩
theorem Op1.mono {α β:Type} {R:Heap → β → α → Prop} {f:Value → Sem α} {x:AV} {P P':β → St → Prop} (h:Op1 c R f x σ P) (g:∀ y σ',P y σ' → P' y σ'):Op1 c R f x σ P':=fun b k s v S r=>gst (h b k s v S r) fun b' y σ' v s' t S' r' q=>⟨b',y,σ',t,S',r',g _ _ q⟩
theorem Ex.forS {target iter:Expr} {body:List Stmt} {pos:Pos} {W:AF → St → Prop} (h:Ev c iter σ (kFs c target body W))
  (hs:∀ x,foldedSetIterable iter c.env x = pure x:=by intro _;rfl):Ex c (.For target iter body [] pos) σ W:=by
 refine Ex.weakW (Ex.forsG (Go.mono h fun y σ₁ z=>?_) hs)
 cases z with
 | mk items hi st h0 turn done=>exact ⟨items,_,hi,fun pre σ'=>Lf σ' (st pre),h0,fun pre x post σ' e l=>Asn.weak l (turn pre x post e),fun σ' l=>⟨st items,l.le,done⟩,fun _ _ _=>trivial⟩
inductive kWh {α:Type} (st:α → St) (μ:α → Nat) (ok:α → Prop) (x:α) (σ:St):Prop | mk (y:α) (ho:ok y) (hm:μ y < μ x) (l:Lf σ (st y))
theorem Ex.whilS {test:Expr} {body:List Stmt} {pos:Pos} {P:AF → St → Prop} {α:Type} (st:α → St) (μ:α → Nat) (ok:α → Prop) (x₀:α) (h0:Lf σ (st x₀)) (hx:ok x₀)
  (turn:∀ x,ok x → Tr c test (st x) (kWl c body P (kWh st μ ok x))):Ex c (.While test body [] pos) σ P:=by
 refine Ex.whil (fun n σ'=>∃ x,ok x ∧ μ x = n ∧ Lf σ' (st x)) (μ x₀) ⟨x₀,hx,rfl,h0⟩ ?_
 rintro n σ' ⟨x,ho,rfl,l⟩
 refine Go.weakP l.le ?_
 refine Go.mono (turn x ho) fun d σ₁ z=>?_
 cases d with
 | false=>exact z
 | true=>
  refine Go.mono z fun f σ₂ z=>?_
  cases f with
  | next=>obtain ⟨y,a,b,l'⟩:=z;exact ⟨μ y,b,y,a,rfl,l'⟩
  | cont=>obtain ⟨y,a,b,l'⟩:=z;exact ⟨μ y,b,y,a,rfl,l'⟩
  | brk=>exact z
  | ret a=>exact z
noncomputable abbrev kT2 (F:AV → Option AV) (x:AV) (τ:St) (y:AV) (σ:St):Prop:=F x = some y ∧ Lf σ τ
noncomputable abbrev kT1 {W₀:Wld} (c:Cx W₀) (elt:Expr) (F:AV → Option AV) (x:AV) (τ:St) (ok:Bool) (σ:St):Prop:=if ok then Ev c elt σ (kT2 F x τ) else F x = none ∧ Lf σ τ
noncomputable abbrev kT0 {W₀:Wld} (c:Cx W₀) (ifs:List Expr) (elt:Expr) (F:AV → Option AV) (x:AV) (τ:St) (_:Unit) (σ:St):Prop:=Ifs c ifs σ (kT1 c elt F x τ)
noncomputable abbrev seen (σ:St) (scope:Scope):List (PySem.Str × AV):=σ.cl.filter fun q=>!ownCell scope q.1
theorem Turns.lst {elt:Expr} {g:Comprehension} {scope:Scope} {pos:Pos} {hk:scope.kind = .function} {items:List AV} {W:Addr → AO → St → Prop} (F:AV → Option AV)
  (h:∀ C D acc x,x ∈ items → Asn (compCx c scope hk C) g.target x ⟨[],seen σ scope,(D,.list acc) :: σ.H⟩ (kT0 (compCx c scope hk C) g.ifs elt F x ⟨[],seen σ scope,(D,.list acc) :: σ.H⟩))
  (hl:items.length ≤ sizeLine) (hW:∀ D,W D (.list (items.filterMap F)) { σ with H:=(D,.list (items.filterMap F)) :: σ.H }):Turns c (.ListComp elt [g] scope pos) g [] scope hk (.list []) σ items W:=fun D C=>by
 refine ⟨fun pre σ'=>Lf σ' { m:=[],cl:=seen σ scope,H:=(D,.list (pre.filterMap F)) :: σ.H },⟨fun _ _ e=>e,fun _ _ e=>e,rfl⟩,fun pre x post σ' e l=>?_,fun σ₂ l=>⟨[],.list (items.filterMap F),σ.H,l.H,hW D⟩⟩
 have hpre:(pre.filterMap F).length ≤ sizeLine:=by
  have h1:=List.length_filterMap_le F pre
  have h2:pre.length ≤ items.length:=by rw [e];simp
  lia
 refine Op1.weakP l ?_
 intro b k s v S r
 refine gst (h C D _ x (by rw [e];simp) b k s v S r) (fun b' y' σ₂ _ _ t S' r' h'=>⟨b',y',σ₂,t,S',r',?_⟩)
 refine Go.mono h' fun ok σ₃ z=>?_
 cases ok with
 | true=>
  refine Emi.lst rfl (Go.mono z fun y σ₄ ⟨e1,l4⟩=>⟨[],_,σ.H,l4.H,hpre,?_⟩)
  show Lf _ { m:=[],cl:=seen σ scope,H:=(D,.list ((pre ++ [x]).filterMap F)) :: σ.H }
  rw [List.filterMap_append,show [x].filterMap F = [y] by simp [e1]]
  exact ⟨l4.m,l4.cl,rfl⟩
 | false=>
  obtain ⟨e1,l3⟩:=z
  show Lf σ₃ { m:=[],cl:=seen σ scope,H:=(D,.list ((pre ++ [x]).filterMap F)) :: σ.H }
  rw [List.filterMap_append,show [x].filterMap F = [] by simp [e1],List.append_nil]
  exact l3
end
end Lw
end
section
open PySem PySem.Calls PySem.W PyProof.Rows
namespace Lw
noncomputable abbrev gN (W₀:Wld) (x:PySem.Str) (v:Value):Prop:=∃ mg,W₀.g0.Ns mainGlobals mg ∧ mg x = some v
noncomputable abbrev bN (W₀:Wld) (x:PySem.Str) (v:Value):Prop:=∃ mg mb,W₀.g0.Ns mainGlobals mg ∧ mg x = none ∧ W₀.g0.Ns builtinsNs mb ∧ mb x = some v
section
variable {W₀:Wld} {c:Cx W₀} {σ:St} {Q:AV → St → Prop}
theorem Ev.cB {x:PySem.Str} {np:Pos} {id:String} {args:List Expr} {pos:Pos} (hg:bN W₀ x (.builtin id)) (hx:c.env.kindOf x = some .globalImplicit) (hplain:(backTo pos (starEach args c.env)).any (·.1) = false)
  (hd:(x == ("__debug__" : PySem.Str)) = false) (h:Sps c (backTo pos (starEach args c.env)) σ (kC0 c (.builtin id) Q)):Ev c (.Call (.Name x np) args [] pos) σ Q:=Ev.callB hx hg h hplain hd
theorem Ev.cT {x:PySem.Str} {np:Pos} {id:String} {args:List Expr} {pos:Pos} (hg:bN W₀ x (.type id)) (hx:c.env.kindOf x = some .globalImplicit) (hplain:(backTo pos (starEach args c.env)).any (·.1) = false)
  (hd:(x == ("__debug__" : PySem.Str)) = false) (h:Sps c (backTo pos (starEach args c.env)) σ (kC0 c (.type id) Q)):Ev c (.Call (.Name x np) args [] pos) σ Q:=Ev.callT hx hg h hplain hd
theorem Ev.cF {x:PySem.Str} {np:Pos} {f:Addr} {args:List Expr} {pos:Pos} (hg:gN W₀ x (.ref f)) (hf:Cee c (.ref f)) (hx:c.env.kindOf x = some .globalImplicit) (hplain:(backTo pos (starEach args c.env)).any (·.1) = false)
  (hd:(x == ("__debug__" : PySem.Str)) = false) (h:Sps c (backTo pos (starEach args c.env)) σ (kC0 c (.ref f) Q)):Ev c (.Call (.Name x np) args [] pos) σ Q:=
 Ev.call (Ev.glb (a:=.ref f) hx hg (fun _=>rfl) ⟨.ref f,fun _ _ e=>e,hf,Arg.pos h hplain⟩ hd) (by rw [hplain];rfl) rfl
inductive kM {W₀:Wld} (c:Cx W₀) (name:PySem.Str) (args:List Expr) (pos:Pos) (Q:AV → St → Prop) (x:AV) (σ:St):Prop
 | mk (id:String) (hm:HasM c name x σ id) (h:Sps c (backTo pos (starEach args c.env)) σ (kCp c (.builtin id) [x] Q))
theorem Ev.cM {o:Expr} {name:PySem.Str} {apos pos:Pos} {args:List Expr} (he:∃ pl,eval (.Call (.Attribute o name apos) args [] pos) c.env = (do
   let ov ← eval o c.env
   standAt apos.atName
   let (f,first) ← holding [ov] (getMethod ov name pl)
   callWith pos f first (backTo pos (starEach args c.env)) (backToKw pos (keywordEach [] c.env))))
  (hplain:(backTo pos (starEach args c.env)).any (·.1) = false) (h:Ev c o σ (kM c name args pos Q)):Ev c (.Call (.Attribute o name apos) args [] pos) σ Q:=
 Ev.meth (Go.mono h fun x σ₁ ⟨id,a,b⟩=>⟨id,a,Arg.pos b hplain⟩) he (by rw [hplain];rfl)
theorem Ex.expr {e pos} {P:AF → St → Prop} (hi:interactive c.env = false) (hs:swapsWith e none pos.line c.env = pure false) (h:Ev c e σ (kX P)):Ex c (.Expr e pos) σ P:=Ex.exp h hi hs
theorem Ev.cmp1 {l op r pos} (hm:behindInMarks op r = false) (h:Ev c l σ (kE c r (kB c (compareOp op) Q))):Ev c (.Compare l [op] [r] pos) σ Q:=Ev.cmp h hm
theorem Tr.cmp1 {l op r pos} {P:Bool → St → Prop} (hm:behindInMarks op r = false) (h:Ev c l σ (kE c r (kB c (compareOp op) (kT c P)))):Tr c (.Compare l [op] [r] pos) σ P:=Tr.cmp h hm
theorem Tr.val1 {e} {P:Bool → St → Prop} (he:isTrue e c.env (eval e c.env) = (do let v ← eval e c.env;standAt e.pos;holding [v] (truthy v))) (h:Ev c e σ (kT c P)):Tr c e σ P:=Tr.val h he
theorem Ex.asg1 {x pos' e pos} {P:AF → St → Prop} (hs:swapsWith e (some (.Name x pos')) pos.line c.env = pure false) (h:Ev c e σ (kSt c x P)):Ex c (.Assign [.Name x pos'] e pos) σ P:=Ex.asg h hs
theorem Ex.for1 {target iter:Expr} {body:List Stmt} {pos:Pos} {W:AF → St → Prop} (hs:∀ x,foldedSetIterable iter c.env x = pure x) (h:Ev c iter σ (kFs c target body W)):Ex c (.For target iter body [] pos) σ W:=Ex.forS h hs
theorem Ev.str1 {x:PySem.Str} {k pos} (hx:okS x.cps.toList = true) (h:Q (.str x.cps.toList) σ):Ev c (.Constant (.str x) k pos) σ Q:=Ev.str h hx
theorem O.fdivN {a k:Nat} {d:Int} (hd:d = (k:Int)) (hk:0 < k) (hs:k < 1073741824) (h:Q (.int ((a / k:Nat):Int)) σ):Op2 c c.VR (binaryOp .FloorDiv) (.int a) (.int d) σ Q:=by
 subst hd
 refine O.fdiv (by lia) (by simpa using hs) ?_
 rw [Int.fdiv_eq_ediv_of_nonneg _ (by lia)]
 exact h
theorem O.fmodN {a k:Nat} {d:Int} (hd:d = (k:Int)) (hk:0 < k) (h:Q (.int ((a % k:Nat):Int)) σ):Op2 c c.VR (binaryOp .Mod) (.int a) (.int d) σ Q:=by
 subst hd
 refine O.fmod (by lia) ?_
 rw [Int.fmod_eq_emod_of_nonneg _ (by lia)]
 exact h
theorem slcN {α:Type} (l:List α) {i j:Nat} (hi:i ≤ l.length) (hj:j ≤ l.length):slc l (some (i:Int)) (some (j:Int)) = (l.take j).drop i:=by
 unfold slc
 rw [clipN _ hi,clipN _ hj,List.drop_take,Int.toNat_natCast]
 congr 1
 rcases Nat.le_total i j with h | h
 ·rw [← Int.ofNat_sub h,Int.toNat_natCast]
 ·rw [Int.toNat_of_nonpos (Int.sub_nonpos_of_le (Int.ofNat_le.mpr h)),Nat.sub_eq_zero_of_le h]
theorem slcTo {α:Type} (l:List α) {j:Nat} (hj:j ≤ l.length):slc l none (some (j:Int)) = l.take j:=by
 unfold slc
 have e2:clipI l.length l.length (some (j:Int)) = j:=by simp only [clipI];split <;> lia
 rw [e2];simp [clipI]
theorem slcFrom {α:Type} (l:List α) {i:Nat} (hi:i ≤ l.length):slc l (some (i:Int)) none = l.drop i:=by
 unfold slc
 rw [clipN _ hi]
 show (l.drop i).take ((l.length:Int) - (i:Int)).toNat = _
 rw [← Int.ofNat_sub hi,Int.toNat_natCast,List.take_of_length_le (Nat.le_of_eq List.length_drop)]
theorem I.listN {value slice:Expr} {x:AV} {xs:List AV} {i:Nat} {y:AV} (hs:∀ a u,subscripted slice false (.ref a) (.int i u) = operate [.ref a,.int i u] (getItem (.ref a) (.int i u))) (hx:LA σ x xs) (hy:xs[i]? = some y) (hl:xs.length ≤ sizeLine) (h:Q y σ):Itm c value slice x (.int i) σ Q:=by
 have hi:i < xs.length:=(List.getElem?_eq_some_iff.mp hy).1
 have:sizeLine = 16777216:=sizeLine_eq
 exact I.list hx (by lia) (by lia) (by simpa using hy) h hs
theorem seqIx {i n:Nat} (h:i < n):seqIndex? (i:Int) n = some i:=by
 have h0:¬ (i:Int) < 0:=Int.not_lt.mpr (Int.natCast_nonneg i)
 unfold seqIndex?
 rw [if_neg h0]
 exact if_pos (by rw [decide_eq_true (Int.natCast_nonneg i),decide_eq_true (Int.ofNat_lt.mpr h)];rfl)
theorem I.strN {value slice:Expr} {l:List Nat} {i:Nat} {y:Nat} (hs:∀ x t u,subscripted slice false (.str x t) (.int i u) = operate [.str x t,.int i u] (getItem (.str x t) (.int i u))) (hy:l[i]? = some y) (hl:l.length ≤ sizeLine) (h:Q (.str [y]) σ):Itm c value slice (.str l) (.int i) σ Q:=by
 have hi:i < l.length:=(List.getElem?_eq_some_iff.mp hy).1
 have:sizeLine = 16777216:=sizeLine_eq
 refine I.str (j:=i) ?_ (seqIx hi) hy h hs
 unfold fitsSsize;simp;lia
theorem I.tupN {value slice:Expr} {xs:List AV} {i:Nat} {y:AV} (hs:∀ a u,subscripted slice false (.ref a) (.int i u) = operate [.ref a,.int i u] (getItem (.ref a) (.int i u))) (hy:xs[i]? = some y) (hl:xs.length ≤ sizeLine) (h:Q y σ):Itm c value slice (.tup xs) (.int i) σ Q:=by
 have hi:i < xs.length:=(List.getElem?_eq_some_iff.mp hy).1
 have:sizeLine = 16777216:=sizeLine_eq
 refine I.tup (j:=i) (by lia) (by lia) ?_ hy h hs
 exact seqIx hi
theorem Sto.loc1 {m cl:List (PySem.Str × AV)} {H:List (Addr × AO)} {x:PySem.Str} {a:AV} {P:Unit → St → Prop} (hx:c.env.kindOf x = some .local) (h:P () ⟨(x,a) :: m,cl,H⟩) (hz:c.fz = false:=by kernel_rfl):Sto c x a ⟨m,cl,H⟩ P:=Sto.loc hx h hz
theorem Sto.cel1 {m cl:List (PySem.Str × AV)} {H:List (Addr × AO)} {x:PySem.Str} {a:AV} {ca:Addr} {P:Unit → St → Prop} (hx:c.env.kindOf x = some .cell) (hc:c.env.cells.lookup x = some ca) (hro:c.ro x = false) (h:P () ⟨m,(x,a) :: cl,H⟩) :
  Sto c x a ⟨m,cl,H⟩ P:=Sto.cel hx hc hro h
theorem Sps.argN {pos:Pos} {P:List AV → St → Prop} (h:P [] σ):Sps c (backTo pos (starEach [] c.env)) σ P:=Sps.nil h
noncomputable abbrev kAc {W₀:Wld} (c:Cx W₀) (pos:Pos) (rest:List Expr) (P:List AV → St → Prop) (a:AV) (σ:St):Prop:=Sps c (backTo pos (starEach rest c.env)) σ (kCo P a)
theorem Sps.argC {e:Expr} {rest:List Expr} {pos:Pos} {P:List AV → St → Prop} (he:starEach (e :: rest) c.env = (false,eval e c.env) :: starEach rest c.env) (h:Ev c e σ (kAc c pos rest P)) :
  Sps c (backTo pos (starEach (e :: rest) c.env)) σ P:=by
 rw [he]
 exact Sps.cons (t:=eval e c.env) h
theorem Bnd.no {P:Option Int → St → Prop} (h:P none σ):Bnd c none σ P:=h
theorem Bnd.yes {e:Expr} {P:Option Int → St → Prop} (h:Ev c e σ (kIn P)):Bnd c (some e) σ P:=h
theorem Sli.str1 {value lower upper p} {l:List Nat} {lo hi:Option Int} (hs:∀ x t a,subscripted (.Slice lower upper none p) false (.str x t) (.ref a) = operate [.ref a,.str x t] (getItem (.str x t) (.ref a))) (hl:l.length ≤ sizeLine) (h:Q (.str (slc l lo hi)) σ) :
  Sli c value lower upper p (.str l) lo hi σ Q:=Sli.str hl h hs
theorem Sli.list1 {value lower upper p} {x:AV} {xs:List AV} {lo hi:Option Int} (hs:∀ a d,subscripted (.Slice lower upper none p) false (.ref a) (.ref d) = operate [.ref d,.ref a] (getItem (.ref a) (.ref d))) (hx:LA σ x xs) (hl:xs.length ≤ sizeLine) (h:Q (.lst (slc xs lo hi)) σ) :
  Sli c value lower upper p x lo hi σ Q:=Sli.list hx hl h hs
theorem sl (n:Nat) (h:n ≤ 16777216):n ≤ sizeLine:=by rw [sizeLine_eq];exact h
theorem rng_pre {n:Nat} {pre post:List AV} {x:AV} (e:((List.range n).map fun (i:Nat)=>AV.int (i:Int)) = pre ++ x :: post):x = .int pre.length ∧ pre.length < n:=by
 have h1:=congrArg (fun l=>l[pre.length]?) e
 simp only [List.getElem?_map,List.getElem?_append_right (Nat.le_refl _),Nat.sub_self,List.getElem?_cons_zero] at h1
 cases hr:(List.range n)[pre.length]? with
 | none=>rw [hr] at h1;cases h1
 | some j=>
  rw [hr] at h1
  obtain ⟨h2,h3⟩:=List.getElem?_eq_some_iff.mp hr
  rw [List.getElem_range] at h3
  rw [List.length_range] at h2
  subst h3
  simp only [Option.map_some,Option.some.injEq] at h1
  exact ⟨h1.symm,h2⟩
theorem Itb.rngN {n:Nat} (hn:n < 2 ^ 62):Itb c (.rng 0 n 1) σ ((List.range n).map fun (i:Nat)=>AV.int (i:Int)):=by
 have e:Builtin.Range.rangeSize 0 n 1 = n:=by rw [rangeSize_one];split <;> lia
 have:=Itb.rng (c:=c) (σ:=σ) 0 n 1 (small_one (by lia) (by lia) (by lia) (by lia))
 rw [e,Int.toNat_natCast] at this
 simpa using this
end
end Lw
end
section
open PySem PySem.Calls PySem.W PyProof.Rows
namespace Lw
section
variable {W₀:Wld} {c:Cx W₀} {σ:St} {Q:AV → St → Prop}
theorem Ev.and3 {x y z pos} (h:Ev c x σ (kTt c (kAn c y (kTt c (kAn c z Q Q)) Q))):Ev c (.BoolOp .And [x,y,z] pos) σ Q:=by
 refine Ev.bop ?_
 refine boolOp_cons (t:=eval x c.env) (t':=eval y c.env) (Go.mono h fun a σ₁ h₁=>?_)
 intro b k s v S r
 refine gst (h₁ b k s v S r) (fun b₂ d' σ₂ d s₂ t₂ S₂ r₂ h₂=>⟨b₂,d',σ₂,t₂,S₂,r₂,?_⟩)
 cases d' with
 | false=>rw [if_pos (by decide)];exact h₂
 | true=>
  rw [if_neg (by decide)]
  refine boolOp_cons (t:=eval y c.env) (t':=eval z c.env) (Go.mono h₂ fun a σ₁ h₁=>?_)
  intro b k s v S r
  refine gst (h₁ b k s v S r) (fun b₂ d' σ₂ d s₂ t₂ S₂ r₂ h₂=>⟨b₂,d',σ₂,t₂,S₂,r₂,?_⟩)
  cases d' with
  | false=>rw [if_pos (by decide)];exact h₂
  | true=>rw [if_neg (by decide)];exact h₂
theorem Ev.bool1 {x:Bool} {k pos} (h:Q (.bool x) σ):Ev c (.Constant (.bool x) k pos) σ Q:=Ev.bool h
noncomputable abbrev kTa {W₀:Wld} (c:Cx W₀) (y:Expr) (K P:Bool → St → Prop) (d:Bool) (σ:St):Prop:=if d then Tr c y σ K else P false σ
noncomputable abbrev kTo {W₀:Wld} (c:Cx W₀) (y:Expr) (P:Bool → St → Prop) (d:Bool) (σ:St):Prop:=if d then P true σ else Tr c y σ P
theorem Tr.and2 {x y pos} {P:Bool → St → Prop} (h:Tr c x σ (kTa c y P P)):Tr c (.BoolOp .And [x,y] pos) σ P:=by
 refine Tr.bop (All.andC (Go.mono h fun d σ₁ h₁=>?_))
 cases d with
 | false=>exact h₁
 | true=>
  refine All.andC (Go.mono h₁ fun d σ₂ h₂=>?_)
  cases d with
  | false=>exact h₂
  | true=>exact All.andN h₂
theorem Tr.and3 {x y z pos} {P:Bool → St → Prop} (h:Tr c x σ (kTa c y (kTa c z P P) P)):Tr c (.BoolOp .And [x,y,z] pos) σ P:=by
 refine Tr.bop (All.andC (Go.mono h fun d σ₁ h₁=>?_))
 cases d with
 | false=>exact h₁
 | true=>
  refine All.andC (Go.mono h₁ fun d σ₂ h₂=>?_)
  cases d with
  | false=>exact h₂
  | true=>
   refine All.andC (Go.mono h₂ fun d σ₂ h₂=>?_)
   cases d with
   | false=>exact h₂
   | true=>exact All.andN h₂
theorem Tr.or2 {x y pos} {P:Bool → St → Prop} (h:Tr c x σ (kTo c y P)):Tr c (.BoolOp .Or [x,y] pos) σ P:=by
 refine Tr.bop (All.orC (Go.mono h fun d σ₁ h₁=>?_))
 cases d with
 | true=>exact h₁
 | false=>
  refine All.orC (Go.mono h₁ fun d σ₂ h₂=>?_)
  cases d with
  | true=>exact h₂
  | false=>exact All.orN h₂
theorem Tr.neg {x pos} {P:Bool → St → Prop} (h:Tr c x σ (kNt P)):Tr c (.UnaryOp .Not x pos) σ P:=Tr.not h
end
theorem fnd_sign (a b:List Nat) (x:Nat) (h:x ∉ a):fnd (a ++ x :: b) [x] 0 = some a.length:=by
 unfold fnd
 rw [if_pos (Nat.zero_le _),List.drop_zero]
 have key:∀ (a:List Nat) (i:Nat),x ∉ a → fstAux [x] (a ++ x :: b) i = some (i + a.length):=by
  intro a
  induction a with
  | nil=>intro i _;exact if_pos rfl
  | cons y a ih=>
   intro i hn
   have hy:¬ y = x:=fun e=>hn (by rw [e];exact .head _)
   rw [List.cons_append,fstAux_cons,if_neg (by simpa using hy),ih (i + 1) fun hm=>hn (.tail _ hm)]
   simp;lia
 rw [key a 0 h];simp
theorem slcToA {α:Type} (l:List α) (j:Nat):slc l none (some (j:Int)) = l.take j:=by
 rcases Nat.le_total j l.length with h | h
 ·exact slcTo l h
 ·unfold slc
  rw [clipB _ h];simp only [clipI]
  rw [List.take_of_length_le h,List.take_of_length_le (by simp)];rfl
theorem slcFromA {α:Type} (l:List α) (i:Nat):slc l (some (i:Int)) none = l.drop i:=by
 rcases Nat.le_total i l.length with h | h
 ·exact slcFrom l h
 ·unfold slc
  rw [clipB _ h,List.drop_of_length_le h,List.drop_of_length_le (by simp)];simp
theorem slcEnd {α:Type} (a z:List α) {j:Int} (hj:j = -(z.length:Int)) (hz:0 < z.length):slc (a ++ z) (some j) none = z:=by
 subst hj
 unfold slc
 have e1:clipI (a ++ z).length 0 (some (-(z.length:Int))) = a.length:=by rw [List.length_append];exact clipM _ _ hz
 rw [e1,Int.toNat_natCast,List.drop_left]
 simp only [clipI,List.length_append]
 rw [Int.natCast_add,Int.add_comm,Int.add_sub_cancel,Int.toNat_natCast,List.take_of_length_le (Nat.le_refl _)]
theorem slcRest {α:Type} (a t:List α) {i:Int} (hi:i = a.length):slc (a ++ t) (some i) none = t:=by
 subst hi
 rw [slcFromA,List.drop_left]
theorem slcHead {α:Type} (a t:List α) {i:Int} (hi:i = a.length):slc (a ++ t) none (some i) = a:=by
 subst hi
 rw [slcToA,List.take_left]
end Lw
end
section
open PySem PySem.Calls PySem.W PyProof.Rows
namespace Lw
noncomputable def posI (log:List Nat) (x:Nat):Nat:=(fnd log [x] 0).getD 0
theorem fnd_mem {l:List Nat} {x:Nat} (h:x ∈ l):fnd l [x] 0 = some (posI l x):=by
 obtain ⟨a,b,rfl,hn⟩:=List.eq_append_cons_of_mem h
 unfold posI
 rw [fnd_sign a b x hn];rfl
theorem fnd_not {l:List Nat} {x:Nat} (h:x ∉ l):fnd l [x] 0 = none:=by
 unfold fnd
 rw [if_pos (Nat.zero_le _),List.drop_zero]
 have key:∀ (l:List Nat) (i:Nat),x ∉ l → fstAux [x] l i = none:=by
  intro l
  induction l with
  | nil=>intro i _;rfl
  | cons y l ih=>
   intro i hn
   rw [fstAux_cons]
   have hy:¬ y = x:=fun e=>hn (by rw [e];exact .head _)
   rw [if_neg (by simpa using hy)]
   exact ih _ fun hm=>hn (.tail _ hm)
 exact key l 0 h
theorem has_sign (l:List Nat) (x:Nat):has l [x] = decide (x ∈ l):=by
 rw [has_mkS]
 by_cases h:x ∈ l
 ·rw [fnd_mem h];simp [h]
 ·rw [fnd_not h];simp [h]
theorem eqA_int (a b:Int):eqA (.int a) (.int b) = decide (a = b):=by
 show (a == b) = _
 by_cases h:a = b
 ·subst h;simp
 ·rw [beq_eq_false_iff_ne.mpr h];simp [h]
theorem eqA_tup0:eqA (.tup []) (.tup []) = true:=rfl
theorem eqA_lst0:eqA (.lst []) (.lst []) = true:=rfl
theorem eqA_tupC (x y:AV) (xs ys:List AV):eqA (.tup (x :: xs)) (.tup (y :: ys)) = (eqA x y && eqA (.tup xs) (.tup ys)):=rfl
theorem eqA_lstC (x y:AV) (xs ys:List AV):eqA (.lst (x :: xs)) (.lst (y :: ys)) = (eqA x y && eqA (.lst xs) (.lst ys)):=rfl
theorem eqA_nil (xs:List AV):eqA (.lst xs) (.lst []) = xs.isEmpty:=by cases xs <;> rfl
theorem eqA_lst_map {α:Type} (e:α → AV) [DecidableEq α] (h:∀ a b,eqA (e a) (e b) = decide (a = b)):∀ xs ys:List α,eqA (.lst (xs.map e)) (.lst (ys.map e)) = decide (xs = ys)
 | [],[]=>rfl
 | [],_ :: _=>by simp;rfl
 | _ :: _,[]=>by rw [List.map_nil,eqA_nil];simp
 | x :: xs,y :: ys=>by
  rw [List.map_cons,List.map_cons,eqA_lstC,h,eqA_lst_map e h xs ys]
  by_cases h1:x = y <;> by_cases h2:xs = ys <;> simp [h1,h2]
theorem plains_map {α:Type} (e:α → AV) (d:Nat) (h:∀ a,(e a).plain d = true) (xs:List α):plains d (xs.map e) = true:=by
 rw [plains_all,List.all_map]
 exact List.all_eq_true.mpr fun x _=>h x
theorem filterMap_map {α:Type} (e:α → AV) (F:AV → Option AV) (p:α → Bool) (v:α → AV) (h:∀ a,F (e a) = if p a then some (v a) else none):∀ l:List α,(l.map e).filterMap F = (l.filter p).map v
 | []=>rfl
 | a :: l=>by
  rw [List.map_cons,List.filterMap_cons,h,filterMap_map e F p v h l,List.filter_cons]
  cases p a <;> rfl
theorem at_pre {α β:Type} {e:α → β} {l:List α} {pre:List β} {x:β} {post:List β} (h:l.map e = pre ++ x :: post):∃ a,l = l.take pre.length ++ a :: l.drop (pre.length + 1) ∧ x = e a ∧ pre = (l.take pre.length).map e:=by
 induction pre generalizing l with
 | nil=>
  cases l with
  | nil=>cases h
  | cons a l=>simp only [List.map_cons,List.nil_append,List.cons.injEq] at h;exact ⟨a,by simp,h.1.symm,rfl⟩
 | cons p pre ih=>
  cases l with
  | nil=>cases h
  | cons a l=>
   simp only [List.map_cons,List.cons_append,List.cons.injEq] at h
   obtain ⟨b,h1,h2,h3⟩:=ih h.2
   refine ⟨b,?_,h2,?_⟩
   ·rw [List.length_cons,List.take_succ_cons,List.drop_succ_cons,List.cons_append,← h1]
   ·rw [List.length_cons,List.take_succ_cons,List.map_cons,← h3,h.1]
theorem joinOk_of {sep:List Nat} {ls:List (List Nat)} (h:(ls.map List.length).sum + ls.length * sep.length ≤ 16777216):JoinOk (mkS sep) (ls.map mkS) = true:=by
 unfold JoinOk
 rw [StrLaws.joinTotal]
 have e1:((ls.map mkS).map (·.length)) = ls.map List.length:=by
  rw [List.map_map]
  exact List.map_congr_left fun l _=>by show (mkS l).cps.size = _;simp [mkS]
 have e2:(mkS sep).length = sep.length:=by show (mkS sep).cps.size = _;simp [mkS]
 rw [e1,e2,List.length_map]
 have:sizeLine = 16777216:=sizeLine_eq
 unfold Builtin.Str.tooLong
 simp only [Bool.not_eq_true',decide_eq_false_iff_not]
 lia
theorem Ex.asgSub1 {W₀:Wld} {c:Cx W₀} {σ:St} {P:AF → St → Prop} {o i e:Expr} {pos' pos:Pos} (hs:swapsWith e (some (.Subscript o i pos')) pos.line c.env = pure false) (h:Ev c e σ (kE c o (kZ1 c i P))) :
  Ex c (.Assign [.Subscript o i pos'] e pos) σ P:=Ex.asgSub h hs
end Lw
end
section
open PySem PySem.Calls PySem.W PyProof.Rows
namespace Lw
noncomputable def drv:Nat → Sre.M → Option Sre.M
 | 0,_=>none
 | n + 1,m=>if (m.runFor 4).outcome.isSome then some (m.runFor 4) else drv n (m.runFor 4)
theorem reDrive_at {M:Model} {A:Around} {E:Value → Shared → Prop} {s:Shared} {Q:Sre.M → Shared → Prop}:∀ {n k:Nat} {m m':Sre.M},drv n m = some m' → n ≤ k → Q m' s → wpAny M A (Builtin.Re.reDrive k m) Q E s
 | 0,_,_,_,h,_,_=>by cases h
 | n + 1,0,_,_,_,hk,_=>by lia
 | n + 1,k + 1,m,m',h,hk,hq=>by
  unfold drv at h
  unfold Builtin.Re.reDrive
  show wpAny M A (if (m.runFor 4).outcome.isSome then pure (m.runFor 4) else do rule "sre.turn";Builtin.Re.reDrive k (m.runFor 4)) Q E s
  split at h
  ·rename_i ho
   rw [if_pos ho];cases h;exact wpAny_pure hq
  ·rename_i ho
   rw [if_neg ho]
   exact wpAny_bind (wpAny_rule (reDrive_at h (by lia) hq))
theorem rules_all {M:Model} {A:Around} {E:Value → Shared → Prop} {s:Shared} {Q:PUnit → Shared → Prop} (f:Nat → PUnit → Sem (ForInStep PUnit)) (hf:∀ i u (Q':ForInStep PUnit → Shared → Prop),Q' (.yield ⟨⟩) s → wpAny M A (f i u) Q' E s):∀ (l:List Nat) (u:PUnit),Q ⟨⟩ s → wpAny M A (forIn l u f) Q E s
 | [],_,h=>by rw [List.forIn_nil];exact wpAny_pure h
 | i :: l,_,h=>by
  rw [List.forIn_cons]
  exact wpAny_bind (hf i _ _ (rules_all f hf l _ h))
theorem reRun_none {M:Model} {A:Around} {E:Value → Shared → Prop} {s:Shared} {Q:Option Sre.M → Shared → Prop} {n:Nat} {m m':Sre.M} (h:drv n m = some m') (hn:n ≤ 2 ^ 64) (ho:m'.outcome = some .failed) (hq:Q none s):wpAny M A (Builtin.Re.reRunToEnd m) Q E s:=by
 unfold Builtin.Re.reRunToEnd
 refine wpAny_bind (reDrive_at h hn ?_)
 refine wpAny_bind (rules_all _ (fun i u Q' hq'=>?_) _ _ ?_)
 ·cases m'.seen.has i
  ·exact wpAny_pure hq'
  ·exact wpAny_bind (wpAny_rule (wpAny_pure hq'))
 rw [ho]
 exact wpAny_pure hq
theorem reRun_some {M:Model} {A:Around} {E:Value → Shared → Prop} {s:Shared} {Q:Option Sre.M → Shared → Prop} {n:Nat} {m m':Sre.M} (h:drv n m = some m') (hn:n ≤ 2 ^ 64) (ho:m'.outcome = some .matched) (hq:Q (some m') s):wpAny M A (Builtin.Re.reRunToEnd m) Q E s:=by
 unfold Builtin.Re.reRunToEnd
 refine wpAny_bind (reDrive_at h hn ?_)
 refine wpAny_bind (rules_all _ (fun i u Q' hq'=>?_) _ _ ?_)
 ·cases m'.seen.has i
  ·exact wpAny_pure hq'
  ·exact wpAny_bind (wpAny_rule (wpAny_pure hq'))
 rw [ho]
 exact wpAny_pure hq
structure PatAt (h:Heap) (a:Addr) (cd:List Nat):Prop where
 ex:∃ (o:Obj) (src fl g gi ig:Value) (ca:Addr) (want:Value) (items:Array Value) (n:Nat) (tk:Tok),h.get? a = some o ∧ o.cls = .type "re.Pattern" ∧ o.dict = none ∧ o.data = .fields #[src,fl,g,gi,ig,.ref ca,.int 0 tk] ∧ (∃ t,g = .int 0 t) ∧
  (∃ oc:Obj,h.get? ca = some oc ∧ oc.data = .seq items n) ∧ (items.map Builtin.Re.reRawOf).map (·.toNat) = cd.toArray
theorem PatAt.keeps {h h':Heap} {a:Addr} {cd:List Nat} (x:PatAt h a cd) (k:h.StaysIn h'):PatAt h' a cd:=by
 refine byG fun Gq kq=>?_
 obtain ⟨o,src,fl,g,gi,ig,ca,want,items,n,tk,h1,h2,h3,h4,h5,⟨oc,h6,h7⟩,h8⟩:=x.ex
 refine kq ?_
 exact ⟨o,src,fl,g,gi,ig,ca,want,items,n,tk,k _ _ h1,h2,h3,h4,h5,⟨oc,k _ _ h6,h7⟩,h8⟩
noncomputable def target (a:Addr) (x:PySem.Str) (t:Tok) (cd:List Nat):Builtin.Re.ReTarget:={ pattern:=.ref a,string:=.str x t,code:=cd.toArray,text:=x.cps,kind:=0,groups:=0,pos:=min 0 x.cps.size,lim:=min (2 ^ 63 - 1) x.cps.size }
theorem reTarget_at {M:Model} {A:Around} {E:Value → Shared → Prop} {s:Shared} {Q:Builtin.Re.ReTarget → Shared → Prop} {a:Addr} {cd:List Nat} {x:PySem.Str} {t:Tok} (hp:PatAt s.heap a cd) (hq:Q (target a x t cd) s) :
  wpAny M A (Builtin.Re.reTarget "re.Pattern.search" "search" ⟨[.ref a,.str x t],[]⟩) Q E s:=by
 refine byG fun Gq kq=>?_
 obtain ⟨o,src,fl,g,gi,ig,ca,want,items,n,tk,h1,h2,h3,h4,⟨tg,h5⟩,⟨oc,h6,h7⟩,h8⟩:=hp.ex
 refine kq ?_
 unfold Builtin.Re.reTarget
 dsimp only
 refine wpAny_bind (wpAny_of_eq (a:=[some (.str x t),none,none]) (by rfl) ?_)
 dsimp only
 refine wpAny_bind (wpAny_pure (wpAny_bind (wpAny_pure ?_)))
 refine wpAny_bind (wpAny_fieldsOf h1 h4 ?_)
 refine wpAny_bind (m:=Builtin.Re.reTextOf (.str x t)) (wpAny_of_eq (a:=(x.cps,0)) rfl ?_)
 dsimp only
 rw [if_neg (by simp),if_neg (by simp [Builtin.Re.reRawNat])]
 refine wpAny_bind (m:=Builtin.Re.reNoCollectionInside (.str x t) 0) (wpAny_of_eq (a:=()) rfl ?_)
 have e5:(#[src,fl,g,gi,ig,Value.ref ca,Value.int 0 tk]:Array Value).getD 5 Value.none = .ref ca:=rfl
 have e2:(#[src,fl,g,gi,ig,Value.ref ca,Value.int 0 tk]:Array Value).getD 2 Value.none = g:=rfl
 rw [e5,e2]
 unfold Builtin.Re.reRawItems
 unfold seqItems?
 dsimp only
 refine wpAny_bind (wpAny_bind (wpAny_bind (wpAny_load h6 ?_)))
 rw [h7]
 refine wpAny_pure (wpAny_pure (wpAny_pure ?_))
 rw [show (some items).getD #[] = items from rfl,h8,h5]
 exact hq
section
variable {W₀:Wld} {c:Cx W₀} {σ:St} {Q:AV → St → Prop}
noncomputable def srch (cd l:List Nat) (n:Nat):Option Bool:=match drv n (Sre.forSearch cd.toArray l.toArray 0 0 (min (2 ^ 63 - 1) l.length) false) with
 | some m=>(match m.outcome with | some .failed=>some false | some .matched=>some true | _=>none)
 | none=>none
theorem kind_se:builtinKind "re.Pattern.search" = some .method:=by decide +kernel
theorem vam_se:Manifest.varargsMethods.contains "re.Pattern.search" = false:=by decide +kernel
theorem entry_se:entryFor table "re.Pattern.search" = some Builtin.«re.Pattern.search»:=entryFor_of_tree (by kernel_rfl)
theorem owner_re:Manifest.owners.lookup (String.ofList ['n','r','e','t','t','a','P','.','e','r'].reverse) = some Manifest.sig_re_Pattern:=by kernel_rfl
noncomputable def sigSe:Manifest.Signature:=⟨.keywords, "Pattern.search", "search",.self,[⟨"string",.posOrKw,true⟩,⟨"pos",.posOrKw,false⟩,⟨"endpos",.posOrKw,false⟩]⟩
theorem sig_se:Manifest.signature? "re.Pattern.search" = some sigSe:=by
 rw [signature?_of (id:="re.Pattern.search") (n:=['h','c','r','a','e','s']) (o:=['n','r','e','t','t','a','P','.','e','r']) (by kernel_rfl) owner_re];kernel_rfl
theorem args_se (a b:Value):argsOk "re.Pattern.search" ⟨[a,b],[]⟩:=by unfold argsOk;rw [sig_se];kernel_rfl
theorem slot_se:Slot "re.Pattern" "search" "re.Pattern.search":=
 .of (owner:="re.Pattern") (n:="search") (by rw [typeLookup_type,builtinLookup_eq_fast];kernel_rfl) (by decide +kernel) (by decide +kernel) (by decide +kernel)
  (by first | exact .inl (by decide +kernel) | exact .inr (by decide +kernel)) (by rw [isSubtype_type];kernel_rfl)
theorem type_se:typeOf (.builtin "re.Pattern.search") = pure (.type "method_descriptor"):=by show builtinType _ = _;rw [builtinType_eq_fast];kernel_rfl
theorem attrs_se:PlainAttrs "re.Pattern":=
 ⟨⟨"object.__getattribute__",by rw [typeLookup_type,builtinLookup_eq_fast];kernel_rfl,by decide +kernel⟩,by rw [typeLookup_type,builtinLookup_eq_fast];kernel_rfl⟩
theorem search_tree {b k:Heap} {s:Shared} (S:Sim c b k σ s) {a:Addr} {cd l:List Nat} {t:Tok} {n:Nat} {r:Bool} (hp:PatAt W₀.g0 a cd) (hn:n ≤ 2 ^ 64) (hs:srch cd l n = some r)
  (h:if r then ∀ x,Q (.ref x) σ else Q .none σ) {A:Around} {R:Fin → Shared → Prop} (hR:∀ v s',Post c k c.VR Q b v s' → R (.done (.ret v)) s') :
  wpAny (model c.prog c.w) A (Builtin.«re.Pattern.search» ⟨[.ref a,.str (mkS l) t],[]⟩) R (fun _ _=>False) s:=by
 unfold Builtin.«re.Pattern.search»
 refine wpAny_bind (reTarget_at (hp.keeps (stays_trans S.g0 S.kb)) ?_)
 unfold Builtin.Re.reAnswer
 have et:Sre.forSearch (target a (mkS l) t cd).code (target a (mkS l) t cd).text (target a (mkS l) t cd).groups (target a (mkS l) t cd).pos (target a (mkS l) t cd).lim false = Sre.forSearch cd.toArray l.toArray 0 0 (min (2 ^ 63 - 1) l.length) false:=by
  show Sre.forSearch cd.toArray (mkS l).cps 0 (min 0 (mkS l).cps.size) (min (2 ^ 63 - 1) (mkS l).cps.size) false = _
  simp [mkS]
 rw [et]
 unfold srch at hs
 cases hd:drv n (Sre.forSearch cd.toArray l.toArray 0 0 (min (2 ^ 63 - 1) l.length) false) with
 | none=>rw [hd] at hs;cases hs
 | some m=>
  rw [hd] at hs
  dsimp only at hs
  cases ho:m.outcome with
  | none=>rw [ho] at hs;cases hs
  | some oc=>
   rw [ho] at hs
   cases oc with
   | failed=>
    cases hs
    refine wpAny_bind (reRun_none hd hn ho ?_)
    exact wpAny_pure (hR _ _ (Post.at (R:=c.VR) (y:=.none) S rfl h))
   | matched=>
    cases hs
    refine wpAny_bind (reRun_some hd hn ho ?_)
    dsimp only
    unfold Builtin.Re.reNewMatch
    show wpAny _ _ ((do
     let z ← newTuple [rawInt m.start,rawInt m.handed]
     newFields "re.Match" [.str (mkS l) t,.ref a,rawInt (min 0 (mkS l).cps.size:Nat),rawInt (min (2 ^ 63 - 1) (mkS l).cps.size:Nat),rawInt m.lastindex,z]) >>= fun v=>ret v) _ _ _
    refine wpAny_bind (wpAny_bind (wpAny_newTuple ?_ (sl _ (by simp))))
    refine wpAny_newObj_type ?_
    refine wpAny_pure (hR _ _ ?_)
    exact Post.at (R:=c.VR) (y:=.ref _) ((S.push _).push _) rfl (h _)
   | stuck w=>cases hs
theorem Cal.search {a:Addr} {cd l:List Nat} {n:Nat} {r:Bool} (hp:PatAt W₀.g0 a cd) (hn:n ≤ 2 ^ 64) (hs:srch cd l n = some r) (h:if r then ∀ x,Q (.ref x) σ else Q .none σ):Cal c (.builtin "re.Pattern.search") [.ref a,.str l] [] σ Q:=fun b k s vs kvs S r' rk=>by
 refine byG fun Gq kq=>?_
 obtain ⟨v,r1,rfl,rfl,⟨u,r2,rfl,⟨t,rfl,o⟩,e⟩⟩:=r'
 refine kq ?_
 rw [show r2 = [] from e,show kvs = [] from List.map_eq_nil_iff.mp rk.1]
 have hp':=hp.keeps (stays_trans S.g0 S.kb)
 refine byG fun Gq kq=>?_
 obtain ⟨ob,_,_,_,_,_,_,_,_,_,_,h1,h2,_⟩:=hp'.ex
 refine kq ?_
 exact wpAny_call_entry slot_se ⟨ob,h1,h2⟩ entry_se (search_tree S hp hn hs h fun v s' z=>⟨v,rfl,z⟩) (args_se _ _)
theorem HasM.search {a:Addr} {cd:List Nat} (hp:PatAt W₀.g0 a cd):HasM c "search" (.ref a) σ "re.Pattern.search":=fun b k s v S r=>by
 rw [show v = .ref a from r]
 have hp':=hp.keeps (stays_trans S.g0 S.kb)
 refine byG fun Gq kq=>?_
 obtain ⟨ob,_,_,_,_,_,_,_,_,_,_,h1,h2,h3,_⟩:=hp'.ex
 refine kq ?_
 exact ⟨"re.Pattern",attrs_se,slot_se,type_se,⟨ob,h1,h2⟩,fun a' e=>by cases e;exact ⟨ob,h1,h3⟩⟩
noncomputable def BoundAt (h:Heap) (u:Addr) (id:String) (self:Value):Prop:=∃ o,h.get? u = some o ∧ o.cls = .type "builtin_function_or_method" ∧ o.data = .fields #[.builtin id,self]
theorem check_search {M:Model} {A:Around} {E:Value → Shared → Prop} {s:Shared} {Q:Unit → Shared → Prop} {a:Addr} {cd:List Nat} (hp:PatAt s.heap a cd) (x:Value) (h:Q () s):wpAny M A (checkBoundCall "re.Pattern.search" ⟨[.ref a,x],[]⟩) Q E s:=by
 refine byG fun Gq kq=>?_
 obtain ⟨ob,_,_,_,_,_,_,_,_,_,_,h1,h2,h3,h4,_⟩:=hp.ex
 refine kq ?_
 unfold checkBoundCall
 rw [sig_se,kind_se]
 dsimp only
 rw [if_neg (by decide)]
 refine wpAny_bind (wpAny_isInstance (T:="re.Pattern") (U:="module") (b:=false) ⟨ob,h1,h2⟩ (by rw [isSubtype_type];kernel_rfl) ?_)
 rw [vam_se]
 rw [if_neg (by decide)]
 unfold isType
 dsimp only
 refine wpAny_bind (wpAny_bind (wpAny_loadPart h1 ?_))
 rw [h4]
 refine wpAny_pure ?_
 rw [if_neg (by simp)]
 refine wpAny_bind (wpAny_typeOf (T:="re.Pattern") ⟨ob,h1,h2⟩ ?_)
 dsimp only
 exact wpAny_of_eq (a:=()) (by kernel_rfl) h
theorem bound_search {b k:Heap} {s:Shared} (S:Sim c b k σ s) {u a:Addr} {cd l:List Nat} {t:Tok} {n:Nat} {r:Bool} (hu:BoundAt W₀.g0 u "re.Pattern.search" (.ref a)) (hp:PatAt W₀.g0 a cd) (hn:n ≤ 2 ^ 64) (hs:srch cd l n = some r)
  (h:if r then ∀ x,Q (.ref x) σ else Q .none σ):wpAny (model c.prog c.w) c.A (call (.ref u) [.str (mkS l) t]) (Post c k c.VR Q b) (fun _ _=>False) s:=by
 obtain ⟨o,ho,hc,hd⟩:=hu
 have ho':=S.kb _ _ (S.g0 _ _ ho)
 have hp':=hp.keeps (stays_trans S.g0 S.kb)
 refine wpAny_call (codeAny_of_tree ?_)
 show wpAny _ c.A.in1 (callAny (.ref u) ⟨[.str (mkS l) t],[]⟩) _ _ s
 simp only [callAny]
 refine wpAny_bind (wpAny_load ho' ?_)
 rw [hd,hc]
 simp only [show (Value.type "builtin_function_or_method" == Value.type "method" || Value.type "builtin_function_or_method" == Value.type "builtin_function_or_method" || Value.type "builtin_function_or_method" == Value.type "method-wrapper") = true by decide,if_true]
 show wpAny _ _ (if (Value.type "builtin_function_or_method" != Value.type "method") = true then do
     checkBoundCall "re.Pattern.search" { pos:=[.ref a,Value.str (mkS l) t] }
     again (Code.builtin "re.Pattern.search" { pos:=[.ref a,Value.str (mkS l) t] })
    else again (Code.call (.builtin "re.Pattern.search") { pos:=[.ref a,Value.str (mkS l) t] })) _ _ _
 rw [if_pos (by decide)]
 refine wpAny_bind (check_search hp' _ ?_)
 refine wpAny_pure ⟨Code.quiet_builtin _ (by decide +kernel),codeAny_builtin entry_se ?_⟩
 exact search_tree S hp hn hs h fun v s' z=>z
theorem Cal.searchB {u a:Addr} {cd l:List Nat} {n:Nat} {r:Bool} (hu:BoundAt W₀.g0 u "re.Pattern.search" (.ref a)) (hp:PatAt W₀.g0 a cd) (hn:n ≤ 2 ^ 64) (hs:srch cd l n = some r) (h:if r then ∀ x,Q (.ref x) σ else Q .none σ):Cal c (.ref u) [.str l] [] σ Q:=fun b k s vs kvs S r' rk=>by
 obtain ⟨v,r1,rfl,⟨t,rfl,o⟩,e⟩:=r'
 rw [show r1 = [] from e,show kvs = [] from List.map_eq_nil_iff.mp rk.1]
 exact bound_search S hu hp hn hs h
theorem Cee.bound {u:Addr} {id:String} {self:Value} (hu:BoundAt W₀.g0 u id self):Cee c (.ref u):=fun h k=>by
 obtain ⟨o,ho,hc,hd⟩:=hu
 refine ⟨.machine,.inr (.inl rfl),(Looks.ld (part:=none) (k _ _ ho)).andThen ?_⟩
 rw [hd,hc]
 exact .now
end
end Lw
end
section
open PySem PySem.Calls PySem.W PyProof.Rows
set_option maxRecDepth 20000
namespace Lw
section
variable {W₀:Wld} {c:Cx W₀} {σ:St} {Q:AV → St → Prop}
noncomputable def AV.isNone:AV → Bool
 | .none=>true
 | _=>false
theorem VR.notNone {p:Program} {w:World} {h:Heap} {x:AV} {v:Value} (e:x.isNone = false) (r:VR p w h x v):v ≠ .none:=fun q=>by
 subst q
 cases x with
 | none=>cases e
 | bool _=>cases (show Value.none = .bool _ from r)
 | ref _=>cases (show Value.none = .ref _ from r)
 | bi _=>cases (show Value.none = .builtin _ from r)
 | ty _=>cases (show Value.none = .type _ from r)
 | int _=>obtain ⟨_,r⟩:=r;cases r
 | obj _=>obtain ⟨_,r,_⟩:=r;cases r
 | str _=>obtain ⟨_,r,_⟩:=r;cases r
 | tup _=>obtain ⟨_,_,r,_⟩:=r;cases r
 | lst _=>obtain ⟨_,_,r,_⟩:=r;cases r
 | dct _ _=>obtain ⟨_,_,r,_⟩:=r;cases r
 | rng _ _ _=>obtain ⟨_,_,_,_,r,_⟩:=r;cases r
theorem isNone_eq {x:AV} {v:Value} {b:Heap} (r:c.VR b x v):(v == Value.none) = x.isNone:=by
 cases h:x.isNone with
 | true=>
  cases x <;> first | (cases h;done) | (rw [show v = .none from r];rfl)
 | false=>exact beq_eq_false_iff_ne.mpr (VR.notNone h r)
noncomputable def AV.isBi:AV → Bool
 | .bi _=>true
 | _=>false
theorem plain_none {x:AV} {v:Value} {b:Heap} (hb:x.isBi = false) (r:c.VR b x v):plainIs v .none = true:=by
 cases x
 case none=>rw [show v = .none from r];rfl
 case bool=>rw [show v = _ from r];rfl
 case int=>obtain ⟨_,r⟩:=r;rw [r];rfl
 case str=>obtain ⟨_,r,_⟩:=r;rw [r];rfl
 case ref=>rw [show v = _ from r];rfl
 case bi=>cases hb
 case ty=>rw [show v = _ from r];rfl
 case tup=>obtain ⟨_,_,r,_⟩:=r;rw [r];rfl
 case lst=>obtain ⟨_,_,r,_⟩:=r;rw [r];rfl
 case dct=>obtain ⟨_,_,r,_⟩:=r;rw [r];rfl
 case rng=>obtain ⟨_,_,_,_,r,_⟩:=r;rw [r];rfl
 case obj=>obtain ⟨_,r,_⟩:=r;rw [r];rfl
theorem O.isN {x:AV} (hb:x.isBi = false) (h:Q (.bool x.isNone) σ):Op2 c c.VR (compareOp .Is) x .none σ Q:=fun b k s v u S r r'=>by
 rw [show u = .none from r']
 refine wpAny_is_plain (plain_none hb r) ?_
 rw [isNone_eq r]
 exact Post.at (R:=c.VR) (y:=.bool _) S rfl h
theorem O.isNotN {x:AV} (hb:x.isBi = false) (h:Q (.bool (!x.isNone)) σ):Op2 c c.VR (compareOp .IsNot) x .none σ Q:=fun b k s v u S r r'=>by
 rw [show u = .none from r']
 refine wpAny_isNot_plain (plain_none hb r) ?_
 rw [isNone_eq r]
 exact Post.at (R:=c.VR) (y:=.bool _) S rfl h
theorem Ev.replBehind {q y z:PySem.Str} {x:PySem.Str} {k1 k2 k3:Nat} {p1 p2 p3 p4 p5 p6 np:Pos} {l r:List Nat} (he:∃ pl,eval (.Call (.Attribute (.Name x np) "replace" p2) [.Constant (.str y) k2 p3,.Constant (.str z) k3 p4] [] p5) c.env = (do
   let ov ← eval (.Name x np) c.env
   standAt p2.atName
   let (f,first) ← holding [ov] (getMethod ov "replace" pl)
   callWith p5 f first (backTo p5 (starEach [.Constant (.str y) k2 p3,.Constant (.str z) k3 p4] c.env)) (backToKw p5 (keywordEach [] c.env))))
  (hx:c.env.kindOf x = some .local) (hl:σ.m.lookup x = some (.str l)) (hyz:(y == z) = false) (hb:l.length + (l.length + 1) * z.length ≤ 16777216)
  (hr:Txt.replace (mkS l) y z = mkS r) (hor:okS r = true) (hq:okS q.cps.toList = true) (hsz:q.cps.toList.length + r.length ≤ sizeLine) (hd:(x == ("__debug__" : PySem.Str)) = false) (h:Q (.str (q.cps.toList ++ r)) σ) :
  Ev c (.BinOp (.Constant (.str q) k1 p1) .Add (.Call (.Attribute (.Name x np) "replace" p2) [.Constant (.str y) k2 p3,.Constant (.str z) k3 p4] [] p5) p6) σ Q:=fun b k s S=>by
 refine wpAny_BinOp (wpAny_Constant_str ?_)
 have S₁:=S.toks (s.toks + 1)
 refine byG fun Gq kq=>?_
 obtain ⟨m,hn,rm⟩:=S₁.ns
 obtain ⟨v,e,t,rfl,ok⟩:=rm x _ hl
 obtain ⟨pl,he⟩:=he
 refine kq ?_
 refine methodCall_KW (pl:=pl) (wpAny_Name (wpAny_loadName_local c.hk hx hn e ?_) hd) he
 refine byG fun Gq kq=>?_
 obtain ⟨T,pa,sl,ty,tis,hdd⟩:=HasM.replace (c:=c) (σ:=σ) (l:=l) b k { s with toks:=s.toks + 1 } (.str (mkS l) t) S₁ ⟨t,rfl,ok⟩
 refine kq ?_
 refine getMethod_builtin tis pa sl ty hdd ?_
 refine callWith_of (P:=fun h=>W₀.g0.StaysIn h) rfl (Cee.bi (c:=c) "str.replace") ?_
 refine evalArgs_plain (spliced_cons (wpAny_Constant_str (k:=k2) (pos:=p3) (spliced_cons (wpAny_Constant_str (k:=k3) (pos:=p4) (spliced_nil ⟨stays_trans S.g0 S.kb,?_⟩)))))
 refine SC.replace (u:=s.toks + 1) (v:=s.toks + 1 + 1) (Nat.succ_ne_zero _) (Nat.succ_ne_zero _) (Nat.ne_of_lt (Nat.lt_succ_self _)) hyz ?_ fun t' tk=>?_
 ·have e1:(mkS l).length = l.length:=by show (mkS l).cps.size = _;simp [mkS]
  rw [e1];exact hb
 rw [hr]
 have:=O.addS (c:=c) (σ:=σ) (Q:=Q) hsz h b k { s with toks:=tk } (.str q s.toks) (.str (mkS r) t') (S.toks tk) ⟨_,rfl,hq⟩ ⟨_,rfl,hor⟩
 exact this
end
end Lw
end
section
open PySem PySem.Calls PySem.W PyProof.Rows
set_option maxHeartbeats 1000000
set_option maxRecDepth 20000
namespace Lw
inductive BltM (W₀:Wld):Prop
 | mk (mg:PySem.Str → Option Value) (bm:Addr) (o:Obj) (h1:W₀.g0.Ns mainGlobals mg) (h2:mg "__builtins__" = some (.ref bm)) (h3:bm ≠ builtinsNs) (h4:W₀.g0.get? bm = some o) (h5:o.cls = .type "module") (h6:o.dict = some builtinsNs) (h7:o.data = .plain)
section
variable {W₀:Wld} {c:Cx W₀}
theorem Sim.growBut {b k:Heap} {σ:St} {s s':Shared} (S:Sim c b k σ s) {a:Addr} {o y:AO} {pre post:List (Addr × AO)} (hH:σ.H = pre ++ (a,o) :: post) (hs:∀ q ob,q ≠ a → s.heap.get? q = some ob → s'.heap.get? q = some ob)
  (hy:OA c b s'.heap a y) (ho:s'.os = s.os) (hg:GB c s'):Sim c b k { σ with H:=pre ++ (a,y) :: post } s':=by
 have hm:(a,o) ∈ σ.H:=by rw [hH];exact List.mem_append_right _ (.head _)
 have ea:(pre ++ (a,y) :: post).map (·.1) = σ.H.map (·.1):=by rw [hH,List.map_append,List.map_append];rfl
 have nd:=S.nd
 rw [hH,List.map_append,List.map_cons] at nd
 have off:∀ q ∈ pre ++ (a,y) :: post,q = (a,y) ∨ (q ∈ σ.H ∧ q.1 ≠ a):=fun q hq=>by
  rcases List.mem_append.mp hq with h1 | h1
  ·refine .inr ⟨by rw [hH];exact List.mem_append_left _ h1,fun e=>?_⟩
   exact (List.nodup_append.mp nd).2.2 q.1 (List.mem_map_of_mem h1) a (.head _) e
  ·rcases List.mem_cons.mp h1 with h1 | h1
   ·exact .inl h1
   ·refine .inr ⟨by rw [hH];exact List.mem_append_right _ (.tail _ h1),fun e=>?_⟩
    exact (List.nodup_cons.mp (List.nodup_append.mp nd).2.1).1 (List.mem_map.mpr ⟨q,h1,e⟩)
 refine byG fun Gq kq=>?_
 obtain ⟨_,l1,l2,l3⟩:=S.led _ hm
 refine kq ?_
 exact {
  g0:=S.g0
  kb:=fun q ob e=>hs q ob (by rintro rfl;rw [l1] at e;cases e) (S.kb q ob e)
  kk:=S.kk.then fun q o o' e e'=>hs q o' (by rintro rfl;rw [l2] at e;cases e) e'
  flk:=S.flk
  ns:=by obtain ⟨m,hn,r⟩:=S.ns;exact ⟨m,hn.at' fun o e=>hs _ o (Ne.symm l3) e,r⟩
  bk:=S.bk
  offL:=S.offL
  cells:=fun x r hx=>by
   refine byG fun Gq kq=>?_
   obtain ⟨⟨v,⟨ob,e,d⟩,t⟩,q1,q2,q3,q4⟩:=S.cells x r hx
   refine kq ?_
   refine ⟨⟨v,⟨ob,hs r ob (Ne.symm (q4 _ hm)) e,d⟩,t⟩,q1,q2,q3,fun q hq=>?_⟩
   rcases off q hq with e' | ⟨h1,_⟩
   ·exact fun e=>q4 _ hm (by rw [e'] at e;exact e)
   ·exact q4 q h1
  cinj:=S.cinj
  led:=fun q hq=>by
   rcases off q hq with rfl | ⟨h1,h2⟩
   ·exact ⟨hy,l1,l2,l3⟩
   ·obtain ⟨x,y'⟩:=S.led q h1
    exact ⟨x.stay (stays_refl _) fun o e=>hs q.1 o h2 e,y'⟩
  nd:=by show ((pre ++ (a,y) :: post).map (·.1)).Nodup;rw [ea];exact S.nd
  os:=ho.trans S.os
  gens:=hg }
noncomputable def genCx (c:Cx W₀) (A':Around) (hA:A'.handled = none) (scope:Scope) (hk:scope.kind = .function) (C:Addr) (code:Value) (z:Array GenState × Drawn × OsState):Cx W₀:=
 {A:=A',env:=genEnv scope [] C code builtinsNs c.env,hh:=hA,hk:=hk,hg:=c.hg,hb:=rfl,fz:=true,gz:=some z }
theorem keeps_of {b:Heap} {σ:St} {s s':Shared} {c':Cx W₀} {b':Heap} {σ':St} {z:Array GenState × Drawn × OsState} (hz:c'.gz = some z) (hfl:c'.fl = []) (S:Sim c' b (rest s.heap b []) σ s) (st:b.StaysIn b') (S':Sim c' b' (rest s.heap b []) σ' s'):Keeps s s':=by
 obtain ⟨h',g',d',tk',o'⟩:=s'
 have e1:=S'.gens.2 z hz
 have e2:=S.gens.2 z hz
 have e3:o' = s.os:=S'.os.trans S.os.symm
 refine ⟨h',tk',?_,fun q o e=>?_⟩
 ·obtain ⟨h,g,d,tk,os⟩:=s
  dsimp only at e1 e2 e3
  rw [e1.1,e1.2,← e2.1,← e2.2,e3]
 ·cases hq:b.get? q with
  | some o₁=>
   have:=S.kb _ _ hq
   rw [e] at this
   cases this
   exact S'.kb _ _ (st _ _ hq)
  | none=>exact S'.kk.at (by rw [hfl];simp) ((rest_get _ _ _ _ _).mpr ⟨e,hq,by simp⟩)
theorem methX {A:Around} {E:Value → Shared → Prop} {s:Shared} {env:Env} {o:Expr} {name:PySem.Str} {apos pos:Pos} {args:List Expr} {Q:Value → Shared → Prop} (he:∃ pl,eval (.Call (.Attribute o name apos) args [] pos) env = (do
   let ov ← eval o env
   standAt apos.atName
   let (f,first) ← holding [ov] (getMethod ov name pl)
   callWith pos f first (backTo pos (starEach args env)) (backToKw pos (keywordEach [] env))))
  (h:∀ pl,wpAny (model c.prog c.w) A (eval o env) (fun ov s₁=>wpAny (model c.prog c.w) A (getMethod ov name pl) (fun fx s₂=>wpAny (model c.prog c.w) A (callWith pos fx.1 fx.2 (backTo pos (starEach args env)) (backToKw pos (keywordEach [] env))) Q E s₂) E s₁) E s) :
  wpAny (model c.prog c.w) A (eval (.Call (.Attribute o name apos) args [] pos) env) Q E s:=by
 obtain ⟨pl,he⟩:=he
 exact methodCall_KW (pl:=pl) (h pl) he
theorem genexprCode2 {M:Model} {A:Around} {E:Value → Shared → Prop} {s:Shared} {env:Env} {cc P:Addr} {ps:Array Value} {pos:Pos} {qualname:PySem.Str} {scope:Scope} {Q:Value → Shared → Prop} (hc:env.code = .ref cc) (hok:s.heap.IsCode cc P ps) (htab:s.heap.TableAt cc P ps)
  (hQ:∀ code h' tk more,Heap.ExtBut P s.heap h' → h'.get? P = some { cls:=.none,data:=.fields (ps ++ more) } → TriplesOk (ps ++ more).toList → Q code { s with heap:=h',toks:=tk }) :
  wpAny M A (genexprCode env pos qualname scope) Q E s:=by
 cases hnf:codeAmong pos ps.toList with
 | some cv=>
  refine byG fun Gq kq=>?_
  obtain ⟨o,vs,file,tf,flags,tg,inF,text,tt,op,ho,hd,h11,h2,h7,h9,h10,hop,hpd,htr,hne⟩:=id hok
  refine kq ?_
  exact wpAny_genexprCode_hit hc hok hnf (hQ cv s.heap s.toks #[] (Heap.ExtBut.refl _ _) (by rw [Array.append_empty];exact htab.2) (by rw [Array.append_empty];exact htr))
 | none=>
  refine wpAny_genexprCodeX hc hok htab hnf fun c' h' tk hx _ _ hic _ ht _=>?_
  refine byG fun Gq kq=>?_
  obtain ⟨o,vs,file,tf,flags,tg,inF,text,tt,op,ho,hd,h11,h2,h7,h9,h10,hop,hpd,htr,hne⟩:=hic
  refine kq ?_
  exact hQ _ _ _ _ hx ht.2 htr
theorem getD_some {vs:Array Value} {i:Nat} {a:Addr} (h:vs.getD i .none = .ref a):vs[i]? = some (.ref a):=by
 rw [Array.getD_eq_getD_getElem?] at h
 cases q:vs[i]? with
 | none=>rw [q] at h;cases h
 | some v=>rw [q] at h;exact congrArg some h
theorem Ev.joinGen {n:Nat} {σ:St} {Q:AV → St → Prop} {sep:PySem.Str} {k1:Nat} {p1 p2 p5 gp px:Pos} {elt iter:Expr} {x:PySem.Str} {scope:Scope} {cc P:Addr} (hB:BltM W₀) (hr:c.Room n) (hgz:c.gz = Option.none) (hcode:c.env.code = .ref cc)
  (hk:scope.kind = .function) (hco:scope.isCoroutine = false) (hclos:closureFor scope c.env = pure []) (hcell:(scope.names.all fun y=>!(y.2 == .cell)) = true) (h0:scope.names.lookup (".0" : PySem.Str) = some NameKind.local) (hx:scope.names.lookup x = some .local)
  (hs:∀ x,genFold iter c.env x = pure x) (hok:okS sep.cps.toList = true)
  (he:∃ pl,eval (.Call (.Attribute (.Constant (.str sep) k1 p1) "join" p2) [.GeneratorExp elt [⟨.Name x px,iter,[],0⟩] scope gp] [] p5) c.env = (do
   let ov ← eval (.Constant (.str sep) k1 p1) c.env
   standAt p2.atName
   let (f,first) ← holding [ov] (getMethod ov "join" pl)
   callWith p5 f first (backTo p5 (starEach [.GeneratorExp elt [⟨.Name x px,iter,[],0⟩] scope gp] c.env)) (backToKw p5 (keywordEach [] c.env))))
  (h:Ev c iter σ fun v σ₁=>∃ (xs:List AV) (rs:List (List Nat)),LA σ₁ v xs ∧ rs.length = xs.length ∧ xs.length ≤ sizeLine ∧ (P,.text cc) ∈ σ₁.H ∧ JoinOk sep (rs.map mkS) = true ∧ okS (Txt.join sep (rs.map mkS)).cps.toList = true ∧
   (∀ (i:Nat) (y:AV) (r:List Nat) A' hA C code z,xs[i]? = some y → rs[i]? = some r → A'.depth ≤ c.A.depth + 1 → A'.units ≤ c.A.units + 8 → Ev (genCx c A' hA scope hk C code z) elt ⟨[(x,y)],[],[]⟩ fun v _=>v = .str r) ∧
   Q (.str (Txt.join sep (rs.map mkS)).cps.toList) σ₁) :
  Ev c (.Call (.Attribute (.Constant (.str sep) k1 p1) "join" p2) [.GeneratorExp elt [⟨.Name x px,iter,[],0⟩] scope gp] [] p5) σ Q:=fun b k s S=>by
 have hX:=@methX W₀ c c.A (fun _ _=>False) s c.env _ _ _ _ _ (Post c k c.VR Q b) he
 refine hX fun pl=>?_
 refine wpAny_Constant_str ?_
 have S₀:=S.toks (s.toks + 1)
 refine byG fun Gq kq=>?_
 obtain ⟨T,pa,sl,ty,tis,hdd⟩:=HasM.join (c:=c) (σ:=σ) (l:=sep.cps.toList) b k { s with toks:=s.toks + 1 } (.str sep s.toks) S₀ ⟨s.toks,rfl,hok⟩
 refine kq ?_
 refine getMethod_builtin tis pa sl ty hdd ?_
 refine callWith_of (P:=fun h=>W₀.g0.StaysIn h) rfl (Cee.bi (c:=c) "str.join") ?_
 refine evalArgs_plain (spliced_cons ?_)
 refine wpAny_GeneratorExp_walksQD c.hh hco hclos (fun y hy e=>?_) h0 hx hk hr.d ?_ hs
 ·have:=List.all_eq_true.mp hcell y hy
  rw [e] at this;cases this
 refine gst (h b k _ S₀) (fun b₁ y σ₁ v s₁ t₁ S₁ r₁ hZ=>?_)
 refine byG fun Gq kq=>?_
 obtain ⟨xs,rs,la,hrl,hxl,hP,hjo,hjok,hel,hQ⟩:=hZ
 obtain ⟨ax,us,rfl,sq,rus⟩:=la.get S₁ r₁
 refine kq ?_
 have hlim:s₁.heap.NoLimit:=W₀.lim.keeps (stays_trans S₁.g0 S₁.kb)
 refine wpAny_pyIter_list sq.isList ?_
 refine ⟨hlim.push _,?_⟩
 refine byG fun Gq kq=>?_
 obtain ⟨pre,post,hH⟩:=List.append_of_mem hP
 obtain ⟨⟨ps,hop,htr,hcd,p0,more0,hp0,hps⟩,lb,lk,lL⟩:=S₁.led _ hP
 obtain ⟨o,vs,file,tf,flags,tg,inF,text,tt,ho,hcl,hd,h11,h18,h7,h9,h10,hne⟩:=hcd
 refine kq ?_
 have ho₁:s₁.heap.get? cc = some o:=S₁.kb _ _ (S₁.g0 _ _ ho)
 have hic:s₁.heap.IsCode cc P ps:=⟨o,vs,file,tf,flags,tg,inF,text,tt,_,ho₁,hd,h11,h18,h7,h9,h10,hop,rfl,htr,hne⟩
 have htab:s₁.heap.TableAt cc P ps:=⟨⟨o,vs,ho₁,hcl,hd,getD_some h11⟩,hop⟩
 refine genexprCode2 hcode (hic.push _) (htab.push _) fun code h₃ tk₃ more₃ hx₃ hop₃ htr₃=>?_
 have size₃:True:=trivial
 have lowP:P < s₁.heap.objs.size:=Heap.lt_size hop
 have lowA:ax < s₁.heap.objs.size:=let ⟨_,e⟩:=sq;Heap.lt_size e
 have up₃:∀ q ob,q ≠ P → s₁.heap.get? q = some ob → h₃.get? q = some ob:=fun q ob hq e=>hx₃ q ob hq (Heap.get?_push_of_some _ e)
 have hI:h₃.get? s₁.heap.objs.size = some { cls:=.type "list_iterator",data:=.fields #[.ref ax,.int 0 0] }:=hx₃ _ _ (Nat.ne_of_gt lowP) (Heap.get?_push_size _ rfl)
 have hAP:ax ≠ P:=by
  rintro rfl
  obtain ⟨nn,e⟩:=sq
  rw [hop] at e;cases e
 have hax₃:h₃.IsList ax us.toArray:=let ⟨nn,e⟩:=sq;⟨_,up₃ _ _ hAP e,rfl,nn,rfl⟩
 have g0₃:W₀.g0.StaysIn h₃:=fun q ob e=>up₃ q ob (by rintro rfl;rw [S₁.g0 _ _ e] at lb;cases lb) (S₁.kb _ _ (S₁.g0 _ _ e))
 refine byG fun Gq kq=>?_
 obtain ⟨mg,bm,obm,hmg,hmb,hbn,hbo,hbc,hbd,hbp⟩:=hB
 refine kq ?_
 refine wpAny_builtinsFor (s:={ s₁ with heap:=h₃,toks:=tk₃ }) (by rw [c.hg];exact hmg.keeps g0₃) hmb hbn (g0₃ _ _ hbo) hbc hbd hbp ?_
 have hlen:us.length = xs.length:=rus.length
 have low₃:s₁.heap.objs.size < h₃.objs.size:=Heap.lt_size hI
 have hcs:cStatics < s₁.heap.objs.size:=let ⟨_,hn,_⟩:=hlim;hn.lt
 refine ⟨s₁.heap.objs.size,[s₁.heap.objs.size,ax],[s₁.heap.objs.size],us.length,(fun i v=>us[i]? = some v),(fun i h=>h.IsListIter s₁.heap.objs.size ax i ∧ h.IsList ax us.toArray),(fun _=>true),(fun i v=>∃ r u,rs[i]? = some r ∧ v = .str (mkS r) u),rfl,
  (fun A' hA=>?_),⟨⟨_,hI,rfl,rfl⟩,hax₃⟩,?_,W₀.lim.keeps g0₃,?_,?_,?_⟩
 ·have:=Walks.list (prog:=c.prog) (w:=c.w) hA s₁.heap.objs.size ax (Nat.ne_of_lt lowA) us.toArray
  simpa using this
 ·intro q hq
  rcases List.mem_cons.mp hq with rfl | hq
  ·exact low₃
  ·rcases List.mem_cons.mp hq with rfl | hq
   ·exact Nat.lt_trans lowA low₃
   ·cases hq
 ·intro hm
  rcases List.mem_cons.mp hm with e | hm
  ·exact absurd (e ▸ hcs) (Nat.lt_irrefl _)
  ·cases hm
 ·intro href hhref
  refine ⟨fun A' E' i v s₂ m₂ hA hd' hu' hP' hn₂ hm₂ hkp=>wpAny_pure ⟨rfl,s₂.heap,s₂.toks,rfl,fun _ _ e=>e⟩,fun A' E' i v s₂ m₂ hA hd' hu' hP' _ hn₂ hm₂ hkp=>?_⟩
  refine byG fun Gq kq=>?_
  obtain ⟨hi,ev⟩:=List.getElem?_eq_some_iff.mp hP'
  have hix:i < xs.length:=hlen ▸ hi
  have hir:i < rs.length:=hrl ▸ hix
  have hxy:xs[i]? = some xs[i]:=List.getElem?_eq_getElem hix
  obtain ⟨v',e',rv⟩:=rus.get hxy
  refine kq ?_
  rw [hP'] at e'
  obtain rfl:v = v':=Option.some.inj e'
  have b₁s₂:b₁.StaysIn s₂.heap:=fun q ob e=>by
   have hq:q < s₁.heap.objs.size:=Heap.lt_size (S₁.kb _ _ e)
   have hqP:q ≠ P:=by rintro rfl;rw [lb] at e;cases e
   refine hkp q (List.mem_range.mpr (Nat.lt_trans hq low₃)) (fun hm=>?_) ob (hhref _ _ (up₃ _ _ hqP (S₁.kb _ _ e)))
   rcases List.mem_cons.mp hm with rfl | hm
   ·exact Nat.lt_irrefl _ hq
   ·cases hm
  have offC:b₁.get? h₃.objs.size = Option.none:=by
   cases q:b₁.get? h₃.objs.size with
   | none=>rfl
   | some ob=>exact absurd (Heap.lt_size (S₁.kb _ _ q)) (Nat.not_lt.mpr (Nat.le_of_lt low₃))
  have S₂:Sim (genCx c A' hA scope hk h₃.objs.size code (s₂.gens,s₂.drawn,s₂.os)) b₁ (rest s₂.heap b₁ []) ⟨[(x,xs[i])],[],[]⟩ s₂:={
   g0:=S₁.g0
   kb:=b₁s₂
   kk:=.of fun q ob e=>((rest_get _ _ _ _ _).mp e).1
   flk:=fun q hq=>by cases hq
   ns:=⟨m₂,hn₂,fun z u e=>by
    rw [List.lookup_cons] at e
    cases hz:z == x with
    | true=>
     obtain rfl:=beq_iff_eq.mp hz
     rw [hz] at e;cases e
     exact ⟨v,hm₂,rv⟩
    | false=>rw [hz] at e;cases e⟩
   bk:=fun q ob e=>((rest_get _ _ _ _ _).mp e).2.1
   offL:=⟨offC,fun e=>by cases e⟩
   cells:=fun z u e=>nomatch (show ([]:List (PySem.Str × Addr)).lookup z = some u from e)
   cinj:=fun z u w e=>nomatch (show ([]:List (PySem.Str × Addr)).lookup z = some w from e)
   led:=fun q hq=>by cases hq
   nd:=.nil
   os:=rfl
   gens:=⟨(fun e=>nomatch (show (some (s₂.gens,s₂.drawn,s₂.os):Option (Array GenState × Drawn × OsState)) = Option.none from e)),fun z e=>by
    have e':some (s₂.gens,s₂.drawn,s₂.os) = some z:=e
    cases e';exact ⟨rfl,rfl⟩⟩ }
  refine gst (hel i xs[i] rs[i] A' hA _ _ _ hxy (List.getElem?_eq_getElem hir) hd' hu' b₁ _ s₂ S₂) (fun b' y' σ' w s₃ t' S' r' q'=>?_)
  subst q'
  refine byG fun Gq kq=>?_
  obtain ⟨u,rfl,_⟩:=r'
  refine kq ?_
  exact ⟨⟨rs[i],u,List.getElem?_eq_getElem hir,rfl⟩,keeps_of rfl rfl S₂ t' S'⟩
 ·intro a h₅ tk gs hgs hlt hsz₅ hk₅ W hst
  have hpass:passing (fun _=>true) us.length 0 = List.range us.length:=by simp [passing]
  refine spliced_nil ⟨fun q ob e=>hk₅ _ _ (g0₃ _ _ e),?_⟩
  refine SC.joinGen W.in4_2 (fun i s st=>let ⟨oo,nm,qn,ho,hc,_⟩:=st.1;⟨oo,ho,hc⟩) hst ?_ (List.mem_cons_self ..) (fun i v ⟨j,_,r,u,_,e⟩=>⟨_,_,e⟩) (fun s' l hm hit=>?_) ?_
  ·intro q hq
   show q < h₅.objs.size
   rw [hsz₅]
   rcases List.mem_cons.mp hq with rfl | hq
   ·exact Nat.lt_succ_self _
   ·rcases List.mem_cons.mp hq with rfl | hq
    ·exact Nat.lt_succ_of_lt hlt
    ·exact Nat.lt_succ_of_lt (Nat.lt_trans (List.mem_range.mp hq) hlt)
  ·rw [hpass] at hit
   rw [List.length_range] at hit
   have hll:l.length = rs.length:=by rw [hrl,← hlen,← hit.1];simp [strValues]
   have hls:l.map (·.1) = rs.map mkS:=by
    refine List.ext_getElem (by simp [hll]) fun j h1 h2=>?_
    have hj:j < l.length:=by simpa using h1
    have hj2:j < us.length:=by rw [hlen,← hrl,← hll];exact hj
    refine byG fun Gq kq=>?_
    obtain ⟨i,hi,r,u,hr',ev⟩:=hit.2 j (.str l[j].1 l[j].2) (by simp [strValues,hj])
    refine kq ?_
    rw [List.getElem?_range hj2] at hi
    cases hi
    injection ev with e1 e2
    obtain ⟨hjr,er⟩:=List.getElem?_eq_some_iff.mp hr'
    rw [List.getElem_map,List.getElem_map,e1,er]
   rw [hls]
   refine ⟨hjo,fun t' kk=>?_⟩
   have stay:∀ q ob,q ≠ h₃.objs.size → q ≠ s₁.heap.objs.size → h₃.get? q = some ob → s'.heap.get? q = some ob:=fun q ob n1 n2 e=>by
    refine hm.heap q ob (fun hmem=>?_) (hk₅ _ _ e)
    rcases List.mem_cons.mp hmem with h1 | hmem
    ·exact n1 h1
    ·rcases List.mem_cons.mp hmem with h1 | hmem
     ·exact n2 h1
     ·cases hmem
   have SS:=S₁.growBut (s':={ s' with toks:=kk }) (y:=.text cc) hH (fun q ob hq e=>by
     have hlt:=Heap.lt_size e
     exact stay q ob (Nat.ne_of_lt (Nat.lt_trans hlt low₃)) (Nat.ne_of_lt hlt) (up₃ q ob hq e))
    ⟨ps ++ more₃,stay P _ (Nat.ne_of_lt (Nat.lt_trans lowP low₃)) (Nat.ne_of_lt lowP) hop₃,htr₃,⟨o,vs,file,tf,flags,tg,inF,text,tt,ho,hcl,hd,h11,h18,h7,h9,h10,hne⟩,p0,more0 ++ more₃,hp0,by rw [hps,Array.append_assoc]⟩
    (show s'.os = s₁.os from hm.os) ⟨fun _=>GenOnlyQ.bare hm.gens (AllBare.push (S₁.gens.1 hgz) hgs),fun z e=>by rw [hgz] at e;cases e⟩
   have eS:({ σ₁ with H:=pre ++ (P,AO.text cc) :: post }:St) = σ₁:=by rw [← hH]
   rw [eS] at SS
   exact ⟨b₁,.str (Txt.join sep (rs.map mkS)).cps.toList,σ₁,t₁,SS,⟨t',rfl,hjok⟩,hQ⟩
  ·rw [hpass,List.length_range,hlen];exact hxl
end
end Lw
end
section
open PySem PySem.Calls PySem.W PyProof.Rows
set_option maxHeartbeats 1000000
namespace Lw
noncomputable def putA (x:PySem.Str) (y:AV):List (PySem.Str × AV) → List (PySem.Str × AV)
 | []=>[(x,y)]
 | (z,u) :: r=>if z == x then (z,y) :: r else (z,u) :: putA x y r
section
variable {p:Program} {w:World} {b:Heap}
theorem isStr_eq (x z:PySem.Str) (t:Tok):(Value.str x t).isStr z = (x == z):=rfl
theorem ER.noRef:∀ {kvs:List (PySem.Str × AV)} {es:List DictEntry},ER p w b kvs es → es.any (·.refKey) = false
 | [],_,e=>by rw [show _ = [] from e];rfl
 | (x,y) :: kvs,_,⟨h,t,v,r,e,a,z⟩=>by rw [e,List.any_cons,ER.noRef z];rfl
theorem ER.get {name:PySem.Str} {y:AV}:∀ {kvs:List (PySem.Str × AV)} {es:List DictEntry},ER p w b kvs es → kvs.lookup name = some y → ∃ v,getL name es = some (some v) ∧ VR p w b y v
 | [],_=>fun _ e=>by cases e
 | (x,u) :: kvs,_=>fun hZ q=>by
  obtain ⟨h,t,v,r,e,a,z⟩:=hZ
  rw [List.lookup_cons] at q
  subst e
  unfold getL
  rw [List.find?_cons]
  simp only [isStr_eq]
  cases hx:name == x with
  | true=>
   rw [hx] at q;cases q
   rw [show (x == name) = true by rw [beq_iff_eq] at hx ⊢;exact hx.symm]
   exact ⟨v,rfl,a⟩
  | false=>
   rw [hx] at q
   obtain ⟨v',g,z'⟩:=ER.get z q
   rw [show (x == name) = false by rw [beq_eq_false_iff_ne] at hx ⊢;exact hx.symm]
   refine ⟨v',?_,z'⟩
   unfold getL at g
   dsimp only
   revert g
   cases List.find? (fun x=>x.key.isStr name) r with
   | some en=>exact id
   | none=>
    intro g
    dsimp only at g
    split at g <;> cases g
theorem ER.no {name:PySem.Str}:∀ {kvs:List (PySem.Str × AV)} {es:List DictEntry},ER p w b kvs es → kvs.lookup name = Option.none → getL name es = some Option.none:=fun {kvs es} e q=>by
 have:es.find? (·.key.isStr name) = Option.none:=by
  induction kvs generalizing es with
  | nil=>rw [show es = [] from e];rfl
  | cons kv kvs ih=>
   obtain ⟨x,u⟩:=kv
   obtain ⟨h,t,v,r,e',a,z⟩:=e
   subst e'
   rw [List.lookup_cons] at q
   cases hx:name == x with
   | true=>rw [hx] at q;cases q
   | false=>
    rw [hx] at q
    rw [List.find?_cons]
    simp only [isStr_eq]
    rw [show (x == name) = false by rw [beq_eq_false_iff_ne] at hx ⊢;exact hx.symm]
    exact ih z q
 unfold getL
 rw [this,e.noRef]
 rfl
theorem ER.put {name:PySem.Str} {y:AV} {v:Value} {hsh:Int} {t:Tok} (r:VR p w b y v):∀ {kvs:List (PySem.Str × AV)} {es:List DictEntry},ER p w b kvs es → ER p w b (putA name y kvs) (putL name hsh (.str name t) v es)
 | [],_,e=>by rw [show _ = [] from e];exact ⟨hsh,t,v,[],rfl,r,rfl⟩
 | (x,u) :: kvs,_,⟨h,t',v',r',e,a,z⟩=>by
  subst e
  unfold putA putL
  show ER p w b _ (if (x == name) = true then _ else _)
  cases hx:x == name with
  | true=>exact ⟨h,t',v,r',rfl,r,z⟩
  | false=>exact ⟨h,t',v',_,rfl,a,ER.put r z⟩
theorem ER.length:∀ {kvs:List (PySem.Str × AV)} {es:List DictEntry},ER p w b kvs es → es.length = kvs.length
 | [],_,e=>by rw [show _ = [] from e];rfl
 | (x,y) :: kvs,_,⟨h,t,v,r,e,a,z⟩=>by rw [e,List.length_cons,List.length_cons,ER.length z]
end
structure Inst (σ:St) (x C dx:Addr) (kvs:List (PySem.Str × AV)):Prop where
 o:(x,AO.inst C dx) ∈ σ.H
 d:(dx,AO.idict kvs) ∈ σ.H
section
variable {W₀:Wld} {c:Cx W₀} {σ:St} {Q:AV → St → Prop}
theorem Sim.inK {b k:Heap} {s:Shared} (S:Sim c b k σ s):W₀.K.In s.heap:=W₀.inK.keeps fun q o e=>S.kb _ _ (S.g0 _ _ e)
theorem Inst.at {x C dx:Addr} {kvs:List (PySem.Str × AV)} (I:Inst σ x C dx kvs) {b k:Heap} {s:Shared} (S:Sim c b k σ s):∃ es n,PySem.W.InstAt s.heap x (instObj C dx) C (some (dictOf es n)) ∧ ER c.prog c.w b kvs es ∧ s.heap.get? dx = some (dictOf es n):=by
 refine byG fun Gq kq=>?_
 obtain ⟨ho,_⟩:=S.led _ I.o
 obtain ⟨⟨es,n,hd,er⟩,_⟩:=S.led _ I.d
 refine kq ?_
 exact ⟨es,n,⟨ho,rfl,rfl,hd⟩,er,hd⟩
noncomputable abbrev Atr {W₀:Wld} (c:Cx W₀) (name:PySem.Str) (y:AV) (σ:St) (Q:AV → St → Prop):Prop:=Op1 c c.VR (fun v=>getAttr v name true) y σ Q
noncomputable abbrev kAt {W₀:Wld} (c:Cx W₀) (name:PySem.Str) (Q:AV → St → Prop) (y:AV) (σ:St):Prop:=Atr c name y σ Q
theorem Ev.atr {o:Expr} {name:PySem.Str} {pos:Pos} (h:Ev c o σ (kAt c name Q))
  (he:eval (.Attribute o name pos) c.env = (do
   let ov ← eval o c.env
   standAt pos.atName
   let r ← holding [ov] (getAttr ov name true)
   letTemporaryGo o ov r
   pure r):=by with_unfolding_all rfl):Ev c (.Attribute o name pos) σ Q:=fun b k s S=>by
 refine Attribute_any_ (gst (h b k s S) (fun b₁ a σ₁ v s₁ t₁ S₁ r₁ h₁=>?_)) he
 exact glst t₁ (h₁ b₁ k s₁ v S₁ r₁)
theorem handed {y:AV} {v:Value} {b:Heap} (hb:y.isBi = false) (r:c.VR b y v):handedIn v = true:=by
 cases y
 case none=>rw [show v = .none from r];rfl
 case bool=>rw [show v = _ from r];rfl
 case int=>obtain ⟨_,r⟩:=r;rw [r];rfl
 case str=>obtain ⟨_,r,_⟩:=r;rw [r];rfl
 case ref=>rw [show v = _ from r];rfl
 case bi=>cases hb
 case ty=>rw [show v = _ from r];rfl
 case tup=>obtain ⟨_,_,r,_⟩:=r;rw [r];rfl
 case lst=>obtain ⟨_,_,r,_⟩:=r;rw [r];rfl
 case dct=>obtain ⟨_,_,r,_⟩:=r;rw [r];rfl
 case rng=>obtain ⟨_,_,_,_,r,_⟩:=r;rw [r];rfl
 case obj=>obtain ⟨_,r,_⟩:=r;rw [r];rfl
theorem Atr.own {x C dx:Addr} {kvs:List (PySem.Str × AV)} {name:PySem.Str} {y:AV} {attr:Option Value} (I:Inst σ x C dx kvs) (hg:plainGet W₀.K C name = true) (hh:hasDictIn W₀.K C = true) (ha:findIn W₀.K (.ref C) name = some attr) (hn:noGet W₀.K attr = true)
  (hl:kvs.lookup name = some y) (hb:y.isBi = false) (h:Q y σ):Atr c name (.ref x) σ Q:=fun b k s v S r=>by
 obtain ⟨es,n,IA,er,hd⟩:=I.at S
 obtain ⟨u,g,z⟩:=er.get hl
 rw [show v = .ref x from r]
 exact get_value S.inK IA (plainGet_of hg).1 (findObj_own hh ha hn g) (handed hb z) (Post.at (R:=c.VR) (S.toks _) z h)
theorem meth_inst {x C dx f:Addr} {kvs:List (PySem.Str × AV)} {name:PySem.Str} {pl:Sem Bool} {b k:Heap} {s:Shared} {E:Value → Shared → Prop} {QQ:Value × List Value → Shared → Prop} (I:Inst σ x C dx kvs) (S:Sim c b k σ s) (hg:plainGet W₀.K C name = true)
  (hf:findIn W₀.K (.ref C) name = some (some (.ref f))) (ht:isFn W₀.K (.ref f) = true) (hl:kvs.lookup name = Option.none) (h:QQ (.ref f,[.ref x]) s):wpAny (model c.prog c.w) c.A (getMethod (.ref x) name pl) QQ E s:=by
 obtain ⟨es,n,IA,er,hd⟩:=I.at S
 exact method_fn S.inK IA (plainGet_of hg).1 (plainGet_of hg).2 hf (beq_iff_eq.mp ht) (by show (lookIn name (dictOf es n)).map _ = _;rw [lookIn_dict,er.no hl];rfl) h
end
end Lw
end
section
open PySem PySem.Calls PySem.W PyProof.Rows
set_option maxHeartbeats 1000000
namespace Lw
noncomputable def others (h:Heap) (no:List Addr):List (Addr × Obj):=(List.range h.objs.size).filterMap fun a=>if no.contains a then Option.none else (h.get? a).map fun o=>(a,o)
theorem mem_others {h:Heap} {no:List Addr} {q:Addr × Obj}:q ∈ others h no ↔ h.get? q.1 = some q.2 ∧ q.1 ∉ no:=by
 obtain ⟨a,o⟩:=q
 simp only [others,List.mem_filterMap,List.mem_range]
 constructor
 ·rintro ⟨b,hb,e⟩
  by_cases hc:no.contains b = true
  ·rw [if_pos hc] at e;cases e
  ·rw [if_neg hc] at e
   obtain ⟨ob,ho,e'⟩:=Option.map_eq_some_iff.mp e
   cases e'
   exact ⟨ho,fun hm=>hc (List.contains_iff_mem.mpr hm)⟩
 ·rintro ⟨e,hn⟩
  refine ⟨a,Heap.lt_size e,?_⟩
  rw [if_neg (fun hc=>hn (List.contains_iff_mem.mp hc)),e]
  rfl
theorem empty_get (a:Addr):({}:Heap).get? a = Option.none:=by
 cases h:({}:Heap).get? a with
 | none=>rfl
 | some o=>exact absurd (Heap.lt_size h) (by show ¬ a < (#[]:Array Obj).size;simp)
section
variable {W₀:Wld} {c:Cx W₀} {σ:St}
theorem Sim.fr {b k:Heap} {s:Shared} {m:PySem.Str → Option Value} (hn:s.heap.Ns c.L m):Fr {} c.L s.heap m:=⟨hn,(fun q o e=>by rw [empty_get] at e;exact nomatch e),Nat.zero_le _⟩
theorem Sim.growBut2 {b k:Heap} {s s':Shared} (S:Sim c b k σ s) {a:Addr} {o y:AO} {pre post:List (Addr × AO)} {m:PySem.Str → Option Value} (hH:σ.H = pre ++ (a,o) :: post) (hs:∀ q ob,q ≠ a → q ≠ c.L → s.heap.get? q = some ob → s'.heap.get? q = some ob)
  (hn:s'.heap.Ns c.L m) (hm':MR c b σ.m m) (hy:OA c b s'.heap a y) (ho:s'.os = s.os) (hg:GB c s') (hz:c.fz = false):Sim c b k { σ with H:=pre ++ (a,y) :: post } s':=by
 have hm:(a,o) ∈ σ.H:=by rw [hH];exact List.mem_append_right _ (.head _)
 have ea:(pre ++ (a,y) :: post).map (·.1) = σ.H.map (·.1):=by rw [hH,List.map_append,List.map_append];rfl
 have nd:=S.nd
 rw [hH,List.map_append,List.map_cons] at nd
 have off:∀ q ∈ pre ++ (a,y) :: post,q = (a,y) ∨ (q ∈ σ.H ∧ q.1 ≠ a):=fun q hq=>by
  rcases List.mem_append.mp hq with h1 | h1
  ·refine .inr ⟨by rw [hH];exact List.mem_append_left _ h1,fun e=>?_⟩
   exact (List.nodup_append.mp nd).2.2 q.1 (List.mem_map_of_mem h1) a (.head _) e
  ·rcases List.mem_cons.mp h1 with h1 | h1
   ·exact .inl h1
   ·refine .inr ⟨by rw [hH];exact List.mem_append_right _ (.tail _ h1),fun e=>?_⟩
    exact (List.nodup_cons.mp (List.nodup_append.mp nd).2.1).1 (List.mem_map.mpr ⟨q,h1,e⟩)
 refine byG fun Gq kq=>?_
 obtain ⟨_,l1,l2,l3⟩:=S.led _ hm
 refine kq ?_
 exact {
  g0:=S.g0
  kb:=fun q ob e=>hs q ob (by rintro rfl;rw [l1] at e;cases e) (by rintro rfl;rw [S.offL.1] at e;cases e) (S.kb q ob e)
  kk:=S.kk.then fun q o o' e e'=>hs q o' (by rintro rfl;rw [l2] at e;cases e) (by rintro rfl;rw [S.offL.2 hz] at e;cases e) e'
  flk:=S.flk
  ns:=⟨m,hn,hm'⟩
  bk:=S.bk
  offL:=S.offL
  cells:=fun x r hx=>by
   refine byG fun Gq kq=>?_
   obtain ⟨⟨v,⟨ob,e,d⟩,t⟩,q1,q2,q3,q4⟩:=S.cells x r hx
   refine kq ?_
   refine ⟨⟨v,⟨ob,hs r ob (Ne.symm (q4 _ hm)) q3 e,d⟩,t⟩,q1,q2,q3,fun q hq=>?_⟩
   rcases off q hq with e' | ⟨h1,_⟩
   ·exact fun e=>q4 _ hm (by rw [e'] at e;exact e)
   ·exact q4 q h1
  cinj:=S.cinj
  led:=fun q hq=>by
   rcases off q hq with rfl | ⟨h1,h2⟩
   ·exact ⟨hy,l1,l2,l3⟩
   ·refine byG fun Gq kq=>?_
    obtain ⟨x,y',y2,y3⟩:=S.led q h1
    refine kq ?_
    exact ⟨x.stay (stays_refl _) fun o e=>hs q.1 o h2 y3 e,y',y2,y3⟩
  nd:=by show ((pre ++ (a,y) :: post).map (·.1)).Nodup;rw [ea];exact S.nd
  os:=ho.trans S.os
  gens:=hg }
noncomputable abbrev Sat {W₀:Wld} (c:Cx W₀) (name:PySem.Str) (x y:AV) (σ:St) (P:Unit → St → Prop):Prop:=Op2 c UR (fun ov v=>setAttr ov name v) x y σ P
theorem ER.some {p:Program} {w:World} {b:Heap} {name:PySem.Str} {kvs:List (PySem.Str × AV)} {es:List DictEntry} (e:ER p w b kvs es):(getL name es).isSome = true:=by
 cases h:kvs.lookup name with
 | none=>rw [e.no h];rfl
 | some y=>obtain ⟨v,g,_⟩:=e.get h;rw [g];rfl
theorem putA_len (x:PySem.Str) (y:AV):∀ l:List (PySem.Str × AV),(putA x y l).length ≤ l.length + 1
 | []=>Nat.le_refl _
 | (z,u) :: r=>by
  show (if z == x then (z,y) :: r else (z,u) :: putA x y r).length ≤ _
  split
  ·exact Nat.le_succ _
  ·rw [List.length_cons,List.length_cons];exact Nat.succ_le_succ (putA_len x y r)
theorem Sat.own {x C dx:Addr} {kvs:List (PySem.Str × AV)} {name:PySem.Str} {y:AV} {pre post:List (Addr × AO)} {P:Unit → St → Prop} (ho:(x,AO.inst C dx) ∈ σ.H) (hH:σ.H = pre ++ (dx,.idict kvs) :: post) (hlen:kvs.length < 900)
  (hs:findIn W₀.K (.ref C) "__setattr__" = some (some (.builtin "object.__setattr__"))) (hp:plainOver W₀.K C = true) (ht:takerIn W₀.K C name = some Option.none) (hh:hasDictIn W₀.K C = true)
  (h:P () { σ with H:=pre ++ (dx,.idict (putA name y kvs)) :: post }) (hz:c.fz = false:=by rfl):Sat c name (.ref x) y σ P:=fun b k s v u S r₁ r₂=>by
 have I:Inst σ x C dx kvs:=⟨ho,by rw [hH];exact List.mem_append_right _ (.head _)⟩
 refine byG fun Gq kq=>?_
 obtain ⟨es,n,IA,er,hd⟩:=I.at S
 obtain ⟨m,hn,hm⟩:=S.ns
 refine kq ?_
 have hdL:dx ≠ c.L:=(S.led _ I.d).2.2.2
 rw [show v = .ref x from r₁]
 have er':=er.put (name:=name) (hsh:=PyData.keyHash c.w.params name) (t:=s.toks + 1) r₂
 have hz':(putL name (PyData.keyHash c.w.params name) (.str name (s.toks + 1)) u es).length ≤ 1000:=by
  rw [er'.length]
  have:=putA_len name y kvs
  lia
 have N:News {} c.L s.heap (others s.heap [c.L,dx] ++ (dx,dictOf es n) :: []):=fun q hq=>by
  rcases List.mem_append.mp hq with h1 | h1
  ·obtain ⟨e,hno⟩:=mem_others.mp h1
   exact ⟨e,fun e'=>hno (by rw [e'];exact .head _),empty_get _⟩
  ·rcases List.mem_cons.mp h1 with rfl | h1
   ·exact ⟨hd,hdL,empty_get _⟩
   ·cases h1
 refine set_plain S.inK IA hs (osa_dict (s:={ s with toks:=s.toks + 1 }) (pre:=others s.heap [c.L,dx]) (post:=[]) (Sim.fr (b:=b) (k:=k) (s:={ s with toks:=s.toks + 1 }) hn) N S.inK IA rfl hp ht hh er.some
  (fun q hq e=>(mem_others.mp hq).2 (by rw [e];exact .tail _ (.head _))) (fun q hq=>by cases hq) (putName_dict _ _ _ _ _ _) rfl hz' fun h' F' N'=>?_)
 refine Post.at (R:=UR) (y:=()) (S.growBut2 (s':={ s with heap:=h',toks:=s.toks + 2 }) (y:=.idict (putA name y kvs)) hH (fun q ob h1 h2 e=>?_) F'.ns hm ⟨_,_,(N' (dx,_) (List.mem_append_right _ (.head _))).1,er'⟩ rfl S.gens hz) trivial h
 refine (N' (q,ob) (List.mem_append_left _ (mem_others.mpr ⟨e,fun hm'=>?_⟩))).1
 rcases List.mem_cons.mp hm' with e' | hm'
 ·exact h2 e'
 ·rcases List.mem_cons.mp hm' with e' | hm'
  ·exact h1 e'
  ·cases hm'
noncomputable abbrev kSa {W₀:Wld} (c:Cx W₀) (name:PySem.Str) (P:AF → St → Prop) (v x:AV) (σ:St):Prop:=Sat c name x v σ (kN P)
noncomputable abbrev kSb {W₀:Wld} (c:Cx W₀) (name:PySem.Str) (P:AF → St → Prop) (x y:AV) (σ:St):Prop:=Sat c name x y σ (kN P)
noncomputable abbrev kGb {W₀:Wld} (c:Cx W₀) (name:PySem.Str) (op:Operator) (P:AF → St → Prop) (x old v:AV) (σ:St):Prop:=Op2 c c.VR (inplaceOp op) old v σ (kSb c name P x)
noncomputable abbrev kGa {W₀:Wld} (c:Cx W₀) (name:PySem.Str) (op:Operator) (e:Expr) (P:AF → St → Prop) (x old:AV) (σ:St):Prop:=Ev c e σ (kGb c name op P x old)
noncomputable abbrev kG {W₀:Wld} (c:Cx W₀) (name:PySem.Str) (op:Operator) (e:Expr) (P:AF → St → Prop) (x:AV) (σ:St):Prop:=Atr c name x σ (kGa c name op e P x)
theorem Ex.asgAtr {o e:Expr} {name:PySem.Str} {pos' pos:Pos} {P:AF → St → Prop} (h:Ev c e σ (kE c o (kSa c name P)))
  (hs:swapsWith e (some (.Attribute o name pos')) pos.line c.env = pure false:=by rfl):Ex c (.Assign [.Attribute o name pos'] e pos) σ P:=fun b k s S=>by
 refine plainObj_wpAny_Assign_Attribute (gst (h b k s S) (fun b₁ a σ₁ v s₁ t₁ S₁ r₁ h₁=>?_)) hs
 refine gst (h₁ b₁ k s₁ S₁) (fun b₂ x σ₂ ov s₂ t₂ S₂ r₂ h₂=>?_)
 refine gst (h₂ b₂ k s₂ ov v S₂ r₂ (VR.mono t₂ _ r₁)) (fun b₃ _ σ₃ _ s₃ t₃ S₃ _ q=>?_)
 exact ⟨b₃,.next,σ₃,stays_trans t₁ (stays_trans t₂ t₃),S₃,rfl,q⟩
theorem Ex.augAtr {o e:Expr} {name:PySem.Str} {op:Operator} {pos' pos:Pos} {P:AF → St → Prop} (h:Ev c o σ (kG c name op e P)) :
  Ex c (.AugAssign (.Attribute o name pos') op e pos) σ P:=fun b k s S=>by
 refine wpAny_AugAssign_AttributeAny (gst (h b k s S) (fun b₁ a σ₁ v s₁ t₁ S₁ r₁ h₁=>?_))
 refine gst (h₁ b₁ k s₁ v S₁ r₁) (fun b₂ x σ₂ old s₂ t₂ S₂ r₂ h₂=>?_)
 refine gst (h₂ b₂ k s₂ S₂) (fun b₃ y σ₃ u s₃ t₃ S₃ r₃ h₃=>?_)
 refine gst (h₃ b₃ k s₃ old u S₃ (VR.mono t₃ _ r₂) r₃) (fun b₄ z σ₄ nw s₄ t₄ S₄ r₄ h₄=>?_)
 refine gst (h₄ b₄ k s₄ v nw S₄ (VR.mono (stays_trans t₂ (stays_trans t₃ t₄)) _ r₁) r₄) (fun b₅ _ σ₅ _ s₅ t₅ S₅ _ q=>?_)
 exact ⟨b₅,.next,σ₅,stays_trans t₁ (stays_trans t₂ (stays_trans t₃ (stays_trans t₄ t₅))),S₅,rfl,q⟩
end
end Lw
end
section
open PySem PySem.Calls PySem.W PyProof.Rows
set_option maxHeartbeats 1000000
namespace Lw
noncomputable def Cx.wA {W₀:Wld} (c:Cx W₀) (A':Around) (hA:A'.handled = Option.none):Cx W₀:={ c with A:=A',hh:=hA,frs:=Option.none,hfr:=fun _ h=>nomatch h }
section
variable {W₀:Wld} {c:Cx W₀} {σ:St} {Q:AV → St → Prop}
theorem OA.wA {A':Around} {hA:A'.handled = Option.none} {b h:Heap} {a:Addr} {o:AO}:OA (c.wA A' hA) b h a o ↔ OA c b h a o:=by
 cases o <;> exact Iff.rfl
theorem Sim.wA {A':Around} {hA:A'.handled = Option.none} {b k:Heap} {s:Shared} (S:Sim c b k σ s):Sim (c.wA A' hA) b k σ s where
 g0:=S.g0
 kb:=S.kb
 kk:=S.kk
 flk:=S.flk
 ns:=S.ns
 bk:=S.bk
 offL:=S.offL
 cells:=S.cells
 cinj:=S.cinj
 led:=fun q hq=>⟨OA.wA.mpr (S.led q hq).1,(S.led q hq).2⟩
 nd:=S.nd
 os:=S.os
 gens:=S.gens
theorem Sim.ofA {A':Around} {hA:A'.handled = Option.none} {b k:Heap} {s:Shared} (S:Sim (c.wA A' hA) b k σ s):Sim c b k σ s where
 g0:=S.g0
 kb:=S.kb
 kk:=S.kk
 flk:=S.flk
 ns:=S.ns
 bk:=S.bk
 offL:=S.offL
 cells:=S.cells
 cinj:=S.cinj
 led:=fun q hq=>⟨OA.wA.mp (S.led q hq).1,(S.led q hq).2⟩
 nd:=S.nd
 os:=S.os
 gens:=S.gens
theorem Cx.Room.wA {A':Around} {hA:A'.handled = Option.none} {n:Nat} (h:c.Room (n + 1)) (hd:A'.depth ≤ c.A.depth + 1) (hu:A'.units ≤ c.A.units + 1):(c.wA A' hA).Room n:=by
 obtain ⟨a,b⟩:=h
 exact ⟨by show A'.depth + 2 * n < 600;lia,by show A'.units + 20 * n < 9000;lia⟩
theorem Cal.make {C fI:Addr} {as:List AV} {kw:List (PySem.Str × AV)} (hm:makesIn W₀.K C = true) (hi:findIn W₀.K (.ref C) "__init__" = some (some (.ref fI))) (hf:typeIn W₀.K (.ref fI) = some (.type "function"))
  (h:∀ x dx A' (hA:A'.handled = Option.none),A'.depth ≤ c.A.depth + 1 → A'.units ≤ c.A.units + 1 → CalC (c.wA A' hA) (.ref fI) (.ref x :: as) kw { σ with H:=(x,.inst C dx) :: (dx,.idict []) :: σ.H } fun r σ'=>r = .none ∧ Q (.ref x) σ') :
  Cal c (.ref C) as kw σ Q:=fun b k s vs kvs S r rk=>by
 obtain ⟨hh,g,d,t,os⟩:=s
 refine wpAny_call (make_core (makes_of S.inK hm) (looks_findIn S.inK hi) (fun self=>bind_fn S.inK self hf) (.inl rfl) ?_)
 have S₂:=S.newLed (o:=emptyDict) (y:=.idict []) ⟨[],0,Heap.get?_push_size _ rfl,rfl⟩
 have S₃:=S₂.newLed (o:=instObj C hh.objs.size) (y:=.inst C hh.objs.size) (Heap.get?_push_size _ rfl)
 have e:(hh.push emptyDict).objs.size = hh.objs.size + 1:=by rw [Heap.size_push]
 refine codeAny_mono (h (hh.objs.size + 1) hh.objs.size (c.A.under (.builtin "type.__call__" ⟨.ref C :: vs,kvs⟩)) c.hh (Nat.le_of_eq rfl) (Nat.le_of_eq rfl) b k ⟨(hh.push emptyDict).push (instObj C hh.objs.size),g,d,t,os⟩ (.ref (hh.objs.size + 1) :: vs) kvs ?_ ⟨_,_,rfl,rfl,r⟩ rk) fun r s' z=>?_
 ·rw [e] at S₃
  exact S₃.wA
 ·rcases r with er | (v | v | v | v) <;> first
   | exact (show False from z).elim
   | (obtain ⟨b',y,σ',st,S',r',rfl,q⟩:=z;exact ⟨r',b',.ref (hh.objs.size + 1),σ',st,S'.ofA,rfl,q⟩)
end
end Lw
end
section
open PySem PySem.Calls PySem.W PyProof.Rows
set_option maxHeartbeats 1000000
namespace Lw
section
variable {W₀:Wld} {c:Cx W₀} {σ:St} {Q:AV → St → Prop}
structure HasF (W₀:Wld) (C:Addr) (name:PySem.Str) (f:Addr):Prop where
 pg:plainGet W₀.K C name = true
 fi:findIn W₀.K (.ref C) name = some (some (.ref f))
 fn:isFn W₀.K (.ref f) = true
inductive MI {W₀:Wld} (c:Cx W₀) (name:PySem.Str) (y:AV) (σ:St) (K:Addr → Addr → Prop):Prop
 | mk (x C dx:Addr) (kvs:List (PySem.Str × AV)) (f:Addr) (hy:y = .ref x) (I:Inst σ x C dx kvs) (hf:HasF W₀ C name f) (hl:kvs.lookup name = Option.none) (hc:Cee c (.ref f)) (h:K x f)
noncomputable abbrev kMa {W₀:Wld} (c:Cx W₀) (args:List Expr) (kws:List Keyword) (pos:Pos) (Q:AV → St → Prop) (σ:St) (x f:Addr):Prop:=Arg c (.ref f) args kws pos σ (kCw c (.ref f) [.ref x] Q)
noncomputable abbrev kMi {W₀:Wld} (c:Cx W₀) (name:PySem.Str) (args:List Expr) (kws:List Keyword) (pos:Pos) (Q:AV → St → Prop) (y:AV) (σ:St):Prop:=MI c name y σ (kMa c args kws pos Q σ)
theorem Ev.mI {o:Expr} {name:PySem.Str} {apos pos:Pos} {args:List Expr} {kws:List Keyword} (h:Ev c o σ (kMi c name args kws pos Q))
  (he:∃ pl,eval (.Call (.Attribute o name apos) args kws pos) c.env = (do
   let ov ← eval o c.env
   standAt apos.atName
   let (f,first) ← holding [ov] (getMethod ov name pl)
   callWith pos f first (backTo pos (starEach args c.env)) (backToKw pos (keywordEach kws c.env))):=by exact ⟨_,rfl⟩)
  (hplain:((backTo pos (starEach args c.env)).any (·.1) || (backToKw pos (keywordEach kws c.env)).any (·.1.isNone)) = false:=by rfl):Ev c (.Call (.Attribute o name apos) args kws pos) σ Q:=fun b k s S=>by
 obtain ⟨pl,he⟩:=he
 refine methodCall_KW (pl:=pl) (gst (h b k s S) (fun b₁ y σ₁ v s₁ t₁ S₁ r₁ ⟨x,C,dx,kvs,f,hy,I,hf,hl,hc,h₁⟩=>?_)) he
 subst hy
 rw [show v = .ref x from r₁]
 refine meth_inst I S₁ hf.pg hf.fi hf.fn hl ?_
 exact glst t₁ (callWith_go (fs:=[.ref x]) hc S₁ (VRs.one rfl) h₁ hplain)
theorem Cee.cls {C:Addr} (h:keepIn W₀.K (.ref C) = true):Cee c (.ref C):=fun hh k=>keeps_K h hh (W₀.inK.keeps k)
end
end Lw
end
section
open PySem PySem.Calls PySem.W PyProof.Rows
set_option maxHeartbeats 1000000
namespace Lw
section
variable {W₀:Wld} {c:Cx W₀} {σ:St} {Q:AV → St → Prop}
theorem seqKey {M:Model} {A:Around} {E:Value → Shared → Prop} {s:Shared} {K:Frag} {x C:Addr} {ox:Obj} {od:Option Obj} {i:Value} {nm:PySem.Str} {QQ:Value → Shared → Prop} (X:K.In s.heap) (I:PySem.W.InstAt s.heap x ox C od) (hq:noSeq K C = true) (h:QQ i s) :
  wpAny M A (sequenceKey (.ref x) i nm) QQ E s:=by
 unfold sequenceKey
 refine wpAny_bind (I.type.here ?_)
 refine wpAny_bind ((anyM_none X hq).here ?_)
 rw [if_pos (show (!false) = true from rfl)]
 exact wpAny_pure h
theorem Put.own {x C dx f:Addr} {kvs:List (PySem.Str × AV)} {i v:AV} {P:Unit → St → Prop} (I:Inst σ x C dx kvs) (hq:noSeq W₀.K C = true) (hs:findIn W₀.K (.ref C) "__setitem__" = some (some (.ref f))) (hf:isFn W₀.K (.ref f) = true)
  (h:Cal c (.ref f) [.ref x,i,v] [] σ fun _ σ'=>P () σ'):Op3 c UR setItem (.ref x) i v σ P:=fun b k s u1 u2 u3 S r1 r2 r3=>by
 obtain ⟨es,n,IA,er,hd⟩:=I.at S
 rw [show u1 = .ref x from r1]
 unfold setItem
 refine wpAny_holding (wpAny_bind (seqKey S.inK IA hq ?_))
 refine wpAny_bind (special_fn S.inK IA hs (beq_iff_eq.mp hf) (gst (h b k s [.ref x,u2,u3] [] S ⟨_,_,rfl,rfl,_,_,rfl,r2,_,_,rfl,r3,rfl⟩ ⟨rfl,rfl⟩) (fun b' y σ' _ s' st S' r' q=>wpAny_pure ⟨b',(),σ',st,S',trivial,q⟩)))
theorem Rem.own {x C dx f:Addr} {kvs:List (PySem.Str × AV)} {i:AV} {P:Unit → St → Prop} (I:Inst σ x C dx kvs) (hq:noSeq W₀.K C = true) (hs:findIn W₀.K (.ref C) "__delitem__" = some (some (.ref f))) (hf:isFn W₀.K (.ref f) = true)
  (h:Cal c (.ref f) [.ref x,i] [] σ fun _ σ'=>P () σ'):Op2 c UR delItem (.ref x) i σ P:=fun b k s u1 u2 S r1 r2=>by
 obtain ⟨es,n,IA,er,hd⟩:=I.at S
 rw [show u1 = .ref x from r1]
 unfold delItem
 refine wpAny_holding (wpAny_bind (seqKey S.inK IA hq ?_))
 refine wpAny_bind (special_fn S.inK IA hs (beq_iff_eq.mp hf) (gst (h b k s [.ref x,u2] [] S ⟨_,_,rfl,rfl,_,_,rfl,r2,rfl⟩ ⟨rfl,rfl⟩) (fun b' y σ' _ s' st S' r' q=>wpAny_pure ⟨b',(),σ',st,S',trivial,q⟩)))
end
end Lw
end
section
open PySem PySem.Calls PySem.W PyProof.Rows
set_option maxHeartbeats 1000000
namespace Lw
section
variable {W₀:Wld} {c:Cx W₀} {σ:St} {Q:AV → St → Prop}
noncomputable abbrev kDl {W₀:Wld} (c:Cx W₀) (P:AF → St → Prop) (x y:AV) (σ:St):Prop:=Op2 c UR delItem x y σ (kN P)
theorem Ex.del1 {o i:Expr} {pos' pos:Pos} {P:AF → St → Prop} (h:Ev c o σ (kE c i (kDl c P))):Ex c (.Delete [.Subscript o i pos'] pos) σ P:=fun b k s S=>by
 refine wpAny_Delete ?_
 refine wpAny_bind (wpAny_delete_Subscript (gst (h b k s S) (fun b₁ x σ₁ v s₁ t₁ S₁ r₁ h₁=>?_)))
 refine gst (h₁ b₁ k s₁ S₁) (fun b₂ y σ₂ u s₂ t₂ S₂ r₂ h₂=>?_)
 refine gst (h₂ b₂ k s₂ v u S₂ (VR.mono t₂ _ r₁) r₂) (fun b₃ _ σ₃ _ s₃ t₃ S₃ _ q=>?_)
 exact wpAny_pure ⟨b₃,.next,σ₃,stays_trans t₁ (stays_trans t₂ t₃),S₃,rfl,q⟩
end
end Lw
end
section
open PySem PySem.Calls PySem.W PyProof.Rows
set_option maxHeartbeats 1000000
namespace Lw
section
variable {W₀:Wld} {c:Cx W₀} {σ:St} {Q:AV → St → Prop}
theorem Cal.typeS {l:List Nat} (h:Q (.ty "str") σ):Cal c (.type "type") [.str l] [] σ Q:=fun b k s vs kvs S ⟨v,r',e1,⟨t,e2,o⟩,e3⟩ rk=>by
 rw [e1,show r' = [] from e3,e2,show kvs = [] from List.map_eq_nil_iff.mp rk.1]
 exact call_type_of (typeIs_str _ _ _) (by decide +kernel) (Post.at (R:=c.VR) (y:=.ty "str") S rfl h)
theorem Cal.typeL {x:AV} {xs:List AV} (hx:LA σ x xs) (h:Q (.ty "list") σ):Cal c (.type "type") [x] [] σ Q:=fun b k s vs kvs S r rk=>by
 obtain ⟨v,r',rfl,rv,e⟩:=r
 rw [show r' = [] from e,show kvs = [] from List.map_eq_nil_iff.mp rk.1]
 obtain ⟨a,us,rfl,⟨n,sq⟩,ru⟩:=hx.get S rv
 exact call_type_of ⟨_,sq,rfl⟩ (by decide +kernel) (Post.at (R:=c.VR) (y:=.ty "list") S rfl h)
theorem O.isT {a d:String} (hp:plainIs (.type a) (.type d) = true) (h:Q (.bool (Value.type a == Value.type d)) σ):Op2 c c.VR (compareOp .Is) (.ty a) (.ty d) σ Q:=fun b k s v u S r r'=>by
 rw [show v = .type a from r,show u = .type d from r']
 exact wpAny_is_plain hp (Post.at (R:=c.VR) (y:=.bool _) S rfl h)
theorem O.isNotT {a d:String} (hp:plainIs (.type a) (.type d) = true) (h:Q (.bool (!(Value.type a == Value.type d))) σ):Op2 c c.VR (compareOp .IsNot) (.ty a) (.ty d) σ Q:=fun b k s v u S r r'=>by
 rw [show v = .type a from r,show u = .type d from r']
 exact wpAny_isNot_plain hp (Post.at (R:=c.VR) (y:=.bool _) S rfl h)
end
end Lw
end
section
open PySem PySem.Calls PySem.W PyProof.Rows
set_option maxHeartbeats 1000000
namespace Lw
structure Cls (W₀:Wld) (C:Addr):Prop where
 pg:∀ n,plainGet W₀.K C n = true
 hd:hasDictIn W₀.K C = true
 sa:findIn W₀.K (.ref C) "__setattr__" = some (some (.builtin "object.__setattr__"))
 po:plainOver W₀.K C = true
section
variable {W₀:Wld} {c:Cx W₀} {σ:St} {Q:AV → St → Prop}
theorem Atr.o {x C dx:Addr} {kvs:List (PySem.Str × AV)} {name:PySem.Str} {y:AV} (K:Cls W₀ C) (I:Inst σ x C dx kvs) (ha:findIn W₀.K (.ref C) name = some Option.none) (hl:kvs.lookup name = some y) (hb:y.isBi = false) (h:Q y σ):Atr c name (.ref x) σ Q:=
 Atr.own I (K.pg _) K.hd ha rfl hl hb h
theorem Sat.o {x C dx:Addr} {kvs:List (PySem.Str × AV)} {name:PySem.Str} {y:AV} {pre post:List (Addr × AO)} {P:Unit → St → Prop} (K:Cls W₀ C) (ho:(x,AO.inst C dx) ∈ σ.H) (hH:σ.H = pre ++ (dx,.idict kvs) :: post) (hlen:kvs.length < 900)
  (ha:findIn W₀.K (.ref C) name = some Option.none) (h:P () { σ with H:=pre ++ (dx,.idict (putA name y kvs)) :: post }) (hz:c.fz = false:=by rfl):Sat c name (.ref x) y σ P:=
 Sat.own ho hH hlen K.sa K.po (by unfold takerIn;rw [ha];rfl) K.hd h hz
end
end Lw
end
section
open PySem PySem.Calls PySem.W PyProof.Rows
set_option maxHeartbeats 1000000
namespace Lw
theorem Bind.kw {W₀:Wld} {c:Cx W₀} {fd:FuncData} {as:List AV} {kw:List (PySem.Str × AV)} {ns:List PySem.Str} (hl:ns.length = as.length)
  (h:∀ vs us:List Value,vs.length = ns.length → us.length = kw.length → bindArgs fd ⟨vs,(kw.map (·.1)).zip us⟩ = pure (ns.zip vs ++ (kw.map (·.1)).zip us)):Bind c fd as kw (ns.zip as ++ kw):=fun b k σ s vs kvs S r rk=>by
 have hv:=VRs.length r
 have hu:(kvs.map (·.2)).length = kw.length:=by have:=VRs.length rk.2;rw [this,List.length_map]
 have ek:(kw.map (·.1)).zip (kvs.map (·.2)) = kvs:=by
  rw [← rk.1]
  clear rk hu
  induction kvs with
  | nil=>rfl
  | cons q l ih=>rw [List.map_cons,List.map_cons,List.zip_cons_cons,ih]
 have hb:=h vs (kvs.map (·.2)) (hv.trans hl.symm) hu
 rw [ek] at hb
 refine ⟨_,BindsTo.of_eq hb,?_,?_⟩
 ·rw [List.map_append,List.map_append,(zip_names ns vs (hl.trans hv.symm)).1,(zip_names ns as hl).1,rk.1]
 ·rw [List.map_append,List.map_append,(zip_names ns vs (hl.trans hv.symm)).2,(zip_names ns as hl).2];exact VRs.append r rk.2
noncomputable def DflAt (g:Heap) (T:Addr) (items:List Value):Prop:=∃ o n,g.get? T = some o ∧ o.data = .seq items.toArray n
theorem Bind.dfl {W₀:Wld} {c:Cx W₀} {fd:FuncData} {as:List AV} {kw bas:List (PySem.Str × AV)} {T:Addr} {items:List Value} (hT:fd.defaults = .ref T) (ho:DflAt W₀.g0 T items)
  (h:∀ b vs kvs,c.VRs b as vs → KR c.prog c.w b kw kvs → ∃ (k:Option (Array Value) → Sem (List (PySem.Str × Value))) (binds:List (PySem.Str × Value)),bindArgs fd ⟨vs,kvs⟩ = seqItems? fd.defaults >>= k ∧ k (some items.toArray) = pure binds ∧
   binds.map (·.1) = bas.map (·.1) ∧ c.VRs b (bas.map (·.2)) (binds.map (·.2))):Bind c fd as kw bas:=fun b k σ s vs kvs S r rk=>by
 refine byG fun Gq kq=>?_
 obtain ⟨o,n,e1,e2⟩:=ho
 obtain ⟨kk,binds,h1,h2,h3,h4⟩:=h b vs kvs r rk
 refine kq ?_
 exact ⟨binds,BindsTo.of_defaults hT (S.kb _ _ (S.g0 _ _ e1)) e2 h1 h2,h3,h4⟩
end Lw
end
section
open PySem PySem.Calls PySem.W PyProof.Rows
set_option maxHeartbeats 1000000
namespace Lw
section
variable {W₀:Wld} {c:Cx W₀} {σ:St} {Q:AF → St → Prop} {X:St → Prop}
theorem ExsX.of {ts:List Stmt} (h:Exs c ts σ Q):ExsX c ts σ Q X:=fun b k s S=>wpAny_mono (h b k s S) (fun _ _ z=>z) fun _ _ z=>z.elim
theorem RsdX.back {b b₁ k:Heap} {e:Value} {s:Shared} (t:b.StaysIn b₁) (h:RsdX c b₁ k X e s):RsdX c b k X e s:=
 Exists.imp (fun _=>Exists.imp fun _=>Exists.imp fun _=>Exists.imp fun _=>Exists.imp fun _=>And.imp_left (stays_trans t)) h
noncomputable abbrev kXs {W₀:Wld} (c:Cx W₀) (ts:List Stmt) (Q:AF → St → Prop) (X:St → Prop) (f:AF) (σ:St):Prop:=match f with | .next=>ExsX c ts σ Q X | f=>Q f σ
noncomputable abbrev kXi {W₀:Wld} (c:Cx W₀) (ts:List Stmt) (Q:AF → St → Prop) (X:St → Prop) (d:Bool) (σ:St):Prop:=if d then X σ else ExsX c ts σ Q X
theorem ExsX.cons {t:Stmt} {ts:List Stmt} (h:Ex c t σ (kXs c ts Q X)):ExsX c (t :: ts) σ Q X:=fun b k s S=>by
 refine wpAny_execs_cons (gst (h b k s S) (fun b₁ f σ₁ fl s₁ t₁ S₁ r₁ h₁=>?_))
 cases f with
 | next=>rw [show fl = .next from r₁];exact wpAny_mono (h₁ b₁ k s₁ S₁) (fun _ _ z=>Post.back t₁ z) fun _ _ z=>RsdX.back t₁ z
 | brk=>rw [show fl = .brk from r₁];exact ⟨b₁,.brk,σ₁,t₁,S₁,rfl,h₁⟩
 | cont=>rw [show fl = .cont from r₁];exact ⟨b₁,.cont,σ₁,t₁,S₁,rfl,h₁⟩
 | ret a=>obtain ⟨v,rfl,z⟩:=r₁;exact ⟨b₁,.ret a,σ₁,t₁,S₁,⟨v,rfl,z⟩,h₁⟩
theorem ExsX.ifRaise {test:Expr} {np pos pos':Pos} {ts:List Stmt} {l:List Env} (hb:Blt c "StopIteration" (.type "StopIteration")) (hx:c.env.kindOf "StopIteration" = some .globalImplicit) (hfr:c.frs = some l) (hz:c.fz = false)
  (h:Tr c test σ (kXi c ts Q X)):ExsX c (.If test [.Raise (some (.Name "StopIteration" np)) none pos] [] pos' :: ts) σ Q X:=fun b k s S=>by
 refine wpAny_execs_cons (wpAny_If (gst (h b k s S) (fun b₁ d σ₁ v s₁ t₁ S₁ r₁ h₁=>?_)))
 subst r₁
 cases v with
 | false=>exact wpAny_execs_nil (wpAny_mono (h₁ b₁ k s₁ S₁) (fun _ _ z=>Post.back t₁ z) fun _ _ z=>RsdX.back t₁ z)
 | true=>
  refine wpAny_execs_cons (owsi_raiseC c.hh ?_ fun h' e hm=>?_)
  ·refine byG fun Gq kq=>?_
   obtain ⟨mg,mb,hn,e1,hb,e2⟩:=hb
   refine kq ?_
   refine Name_function_global c.hk hx (loadGlobal_builtin (mg:=mg) (mb:=mb) ?_ e1 ?_ e2 ⟨rfl,rfl⟩) (by decide)
   ·rw [c.hg];exact hn.keeps (stays_trans S₁.g0 S₁.kb)
   ·rw [c.hb];exact hb.keeps (stays_trans S₁.g0 S₁.kb)
  ·exact ⟨b₁,σ₁,s₁.heap,e,l,t₁,rfl,hm.of,S₁,hfr,hz,h₁⟩
end
theorem call_defCX {W₀:Wld} {c:Cx W₀} {f:Addr} {F:Fn} {d kd:Value} {as:List AV} {kw bas:List (PySem.Str × AV)} {σ:St} {Q:AV → St → Prop} {X:St → Prop} {n:Nat} (hf:Def W₀ f F d kd) (hr:c.Room n)
  (hb:∀ q doc pm code,BindG c (mkFd F q d kd doc pm code) as kw bas) (hnd:nodupB (bas.map (·.1)) = true)
  (hkind:(bas.all fun q=>F.scope.names.lookup q.1 == some .local || (F.scope.names.lookup q.1 == some .cell && ownCell F.scope q.1)) = true)
  (hcn:nodupB ((cellsFrom 0 F.scope.names []).map (·.1)) = true)
  (m cl:List (PySem.Str × AV)) (hm:(bas.filter fun q=>F.scope.names.lookup q.1 == some .local) = m) (hcl:(bas.filter fun q=>!(F.scope.names.lookup q.1 == some .local)) = cl)
  (h:∀ q doc pm code (hfn:IsFn W₀ f (mkFd F q d kd doc pm code) F.body) L,ExsX (funCx c hfn L) F.body ⟨m,cl,σ.H⟩ ((kFn σ Q)) (kXn σ X)) :
  CalCX c (.ref f) as kw σ Q X:=by
 subst hm hcl
 refine byG fun Gq kq=>?_
 obtain ⟨q,doc,pm,code,o,ho,hd,hcd⟩:=hf.ex
 refine kq ?_
 have hfn:IsFn W₀ f (mkFd F q d kd doc pm code) F.body:=⟨⟨o,ho,hd⟩,hcd,rfl,rfl,rfl,rfl,hf.kind,hf.co,hf.gen⟩
 exact call_fnCX (bas:=bas) hfn hr.d (hb _ _ _ _) (nodupB_of hnd) hkind (nodupB_of hcn) fun L=>h _ _ _ _ hfn L
noncomputable def Cx.wF {W₀:Wld} (c:Cx W₀) (A':Around) (hA:A'.handled = Option.none) (hF:A'.frames = c.A.frames):Cx W₀:={ c with A:=A',hh:=hA,hfr:=fun l h=>hF ▸ c.hfr l h }
section
variable {W₀:Wld} {c:Cx W₀} {σ:St}
theorem OA.wF {A':Around} {hA:A'.handled = Option.none} {hF:A'.frames = c.A.frames} {b h:Heap} {a:Addr} {o:AO}:OA (c.wF A' hA hF) b h a o ↔ OA c b h a o:=by
 cases o <;> exact Iff.rfl
theorem Sim.wF {A':Around} {hA:A'.handled = Option.none} {hF:A'.frames = c.A.frames} {b k:Heap} {s:Shared} (S:Sim c b k σ s):Sim (c.wF A' hA hF) b k σ s where
 g0:=S.g0
 kb:=S.kb
 kk:=S.kk
 flk:=S.flk
 ns:=S.ns
 bk:=S.bk
 offL:=S.offL
 cells:=S.cells
 cinj:=S.cinj
 led:=fun q hq=>⟨OA.wF.mpr (S.led q hq).1,(S.led q hq).2⟩
 nd:=S.nd
 os:=S.os
 gens:=S.gens
theorem Sim.ofF {A':Around} {hA:A'.handled = Option.none} {hF:A'.frames = c.A.frames} {b k:Heap} {s:Shared} (S:Sim (c.wF A' hA hF) b k σ s):Sim c b k σ s where
 g0:=S.g0
 kb:=S.kb
 kk:=S.kk
 flk:=S.flk
 ns:=S.ns
 bk:=S.bk
 offL:=S.offL
 cells:=S.cells
 cinj:=S.cinj
 led:=fun q hq=>⟨OA.wF.mp (S.led q hq).1,(S.led q hq).2⟩
 nd:=S.nd
 os:=S.os
 gens:=S.gens
theorem Cx.Room.wF {A':Around} {hA:A'.handled = Option.none} {hF:A'.frames = c.A.frames} {n:Nat} (h:c.Room (n + 1)) (hd:A'.depth ≤ c.A.depth + 1) (hu:A'.units ≤ c.A.units + 8):(c.wF A' hA hF).Room n:=by
 obtain ⟨a,b⟩:=h
 exact ⟨by show A'.depth + 2 * n < 600;lia,by show A'.units + 20 * n < 9000;lia⟩
structure Own (W₀:Wld) (C fi fn:Addr):Prop where
 it:findIn W₀.K (.ref C) "__iter__" = some (some (.ref fi))
 itF:isFn W₀.K (.ref fi) = true
 nx:findIn W₀.K (.ref C) "__next__" = some (some (.ref fn))
 nxF:isFn W₀.K (.ref fn) = true
 len:findIn W₀.K (.ref C) "__len__" = some Option.none
 hint:findIn W₀.K (.ref C) "__length_hint__" = some Option.none
theorem own_iter {M:Model} {A:Around} {E:Value → Shared → Prop} {s:Shared} {K:Frag} {x C f:Addr} {ox:Obj} {od:Option Obj} {g:Value} {QQ:Value → Shared → Prop} (XK:K.In s.heap) (I:PySem.W.InstAt s.heap x ox C od)
  (hs:findIn K (.ref C) "__iter__" = some (some (.ref f))) (hf:isFn K (.ref f) = true) (hn:findIn K (.ref C) "__next__" = some (some g))
  (h:wpAny M A (call (.ref f) [.ref x]) (fun v s'=>v = .ref x ∧ K.In s'.heap ∧ (∃ ox od,PySem.W.InstAt s'.heap x ox C od) ∧ QQ (.ref x) s') E s):wpAny M A (pyIter (.ref x)) QQ E s:=by
 have fin:wpAny M A (call (.ref f) [.ref x] >>= fun v=>pure (some v)) (fun r s'=>r = some (.ref x) ∧ K.In s'.heap ∧ (∃ ox od,PySem.W.InstAt s'.heap x ox C od) ∧ QQ (.ref x) s') E s:=
  wpAny_bind (wpAny_mono h (fun v s' h'=>wpAny_pure ⟨congrArg some h'.1,h'.2⟩) fun _ _ z=>z)
 have one:∀ refuse:Sem Value,wpAny M A (callSpecialIfBoundUnlessNone? (.ref x) "__iter__" refuse) (fun r s'=>r = some (.ref x) ∧ K.In s'.heap ∧ (∃ ox od,PySem.W.InstAt s'.heap x ox C od) ∧ QQ (.ref x) s') E s:=by
  intro refuse
  have fin2:wpAny M A (if (Value.ref f == Value.none) = true then (refuse >>= fun v=>pure (some v)) else (call (.ref f) [.ref x] >>= fun v=>pure (some v))) (fun r s'=>r = some (.ref x) ∧ K.In s'.heap ∧ (∃ ox od,PySem.W.InstAt s'.heap x ox C od) ∧ QQ (.ref x) s') E s:=by
   rw [if_neg (show ¬ ((Value.ref f == Value.none) = true) from Bool.false_ne_true)]
   exact fin
  unfold callSpecialIfBoundUnlessNone? bindSpecialIfBound?
  refine wpAny_holding (wpAny_bind (wpAny_bind (wpAny_bind (I.type.here ((looks_findIn XK hs).here ?_)))))
  refine wpAny_bind (wpAny_askSetting ?_)
  have bd:=bind_fn (M:=M) XK (.ref x) (beq_iff_eq.mp hf)
  split
  ·exact wpAny_bind (bd.here (wpAny_pure (by exact fin2)))
  ·exact wpAny_tryCatch (wpAny_bind (bd.here (wpAny_pure (by exact fin2))))
 unfold pyIter
 refine wpAny_bind (wpAny_bind (I.type.here ((looks_findIn XK hs).here ?_)))
 show wpAny M A (callSpecialIfBoundUnlessNone? (.ref x) "__iter__" _ >>= _) QQ E s
 refine wpAny_bind (wpAny_mono (one _) (fun r s' hr=>?_) fun _ _ z=>z)
 obtain ⟨rfl,XK',⟨ox',od',I'⟩,hq⟩:=hr
 refine wpAny_bind (wpAny_bind (I'.type.here ((looks_findIn XK' hn).here ?_)))
 exact wpAny_pure hq
end
end Lw
end
section
open PySem PySem.Calls PySem.W PyProof.Rows
set_option maxHeartbeats 1000000
namespace Lw
section
variable {W₀:Wld} {c:Cx W₀} {σ:St}
theorem own_next {C fi fn x dx:Addr} {kvs:List (PySem.Str × AV)} {Qv:AV → St → Prop} {X:St → Prop} {b k:Heap} {s:Shared} (O:Own W₀ C fi fn) (I:Inst σ x C dx kvs) (S:Sim c b k σ s) (h:CalCX c (.ref fn) [.ref x] [] σ Qv X) :
  wpAny (model c.prog c.w) c.A (pyNext (.ref x)) (fun r s'=>match r with | some v=>Post c k c.VR Qv b v s' | none=>∃ b' σ',b.StaysIn b' ∧ Sim c b' k σ' s' ∧ X σ') (fun _ _=>False) s:=by
 refine byG fun Gq kq=>?_
 obtain ⟨es,n,IA,er,hd⟩:=I.at S
 refine kq ?_
 unfold pyNext
 refine wpAny_bind (wpAny_attempt (special_fn (name:="__next__") (args:=[]) S.inK IA O.nx (beq_iff_eq.mp O.nxF) (wpAny_call (codeAny_mono (h b k s [.ref x] [] S ⟨_,_,rfl,rfl,rfl⟩ ⟨rfl,rfl⟩) fun r s' z=>?_))))
 match r,z with
 | .error e,z=>
  refine byG fun Gq kq=>?_
  obtain ⟨b',σ',a,ob,st,S',rfl,ho,hc,hX⟩:=z
  refine kq ?_
  refine wpAny_bind (wpAny_isInstance ⟨ob,ho,hc⟩ isSubtype_stop ?_)
  exact wpAny_pure ⟨b',σ',st,S',hX⟩
 | .ok (.ret v),z=>exact wpAny_pure z
noncomputable def Drain (c:Cx W₀) (C fn x S:Addr):List AV → List AV → St → (List AV → St → Prop) → Prop
 | [],acc,σ,W=>CalCX c (.ref fn) [.ref x] [] σ (fun _ _=>False) fun σ'=>W acc σ'
 | y :: ys,acc,σ,W=>CalCX c (.ref fn) [.ref x] [] σ (fun v σ'=>v = y ∧ (∃ H,σ' = { σ with H:=(S,.list acc) :: H }) ∧ ∀ H,σ' = { σ with H:=(S,.list acc) :: H } → (∃ dx kvs,Inst { σ with H:=(S,.list (acc ++ [y])) :: H } x C dx kvs) ∧ Drain c C fn x S ys (acc ++ [y]) { σ with H:=(S,.list (acc ++ [y])) :: H } W) fun _=>False
theorem own_loop {C fi fn x S:Addr} {A₁:Around} {hA:A₁.in1.handled = Option.none} {hF:A₁.in1.frames = c.A.frames} {res:Value} {R:Result → Shared → Prop} {k:Heap} (O:Own W₀ C fi fn) {W:List AV → St → Prop} :
  ∀ (ys acc:List AV) (σ:St) (dx:Addr) (kvs:List (PySem.Str × AV)) (b:Heap) (s:Shared) (H₀:List (Addr × AO)),σ.H = (S,.list acc) :: H₀ → acc.length + ys.length ≤ 1000 → Inst σ x C dx kvs → Sim c b k σ s → Drain (c.wF A₁.in1 hA hF) C fn x S ys acc σ W →
  (∀ b' σ' s',b.StaysIn b' → Sim c b' k σ' s' → W (acc ++ ys) σ' → R (.ok (.ret res)) s') →
  codeAny (model c.prog c.w) A₁ (.builtin "list.extend.loop" ⟨[.ref S,.ref x,res],[]⟩) R s
 | [],acc,σ,dx,kvs,b,s,H₀,hS,hl,I,Sm,h,hR=>by
  refine codeAny_builtin F.entry_extend_loop ?_
  rw [Around.under_plainId F.plain_extend_loop _]
  show wpAny _ A₁.in1 (pyNext (.ref x) >>= _) _ _ s
  refine wpAny_bind (wpAny_mono (own_next (c:=c.wF A₁.in1 hA hF) O I Sm.wF h) (fun r s' z=>?_) fun _ _ z=>z.elim)
  cases r with
  | none=>
   refine byG fun Gq kq=>?_
   obtain ⟨b',σ',st,S',w⟩:=z
   refine kq ?_
   exact wpAny_pure (hR b' σ' s' st S'.ofF (by rw [List.append_nil];exact w))
  | some v=>obtain ⟨_,_,_,_,_,_,z⟩:=z;exact z.elim
 | y :: ys,acc,σ,dx,kvs,b,s,H₀,hS,hl,I,Sm,h,hR=>by
  refine codeAny_builtin F.entry_extend_loop ?_
  rw [Around.under_plainId F.plain_extend_loop _]
  show wpAny _ A₁.in1 (pyNext (.ref x) >>= _) _ _ s
  refine wpAny_bind (wpAny_mono (own_next (c:=c.wF A₁.in1 hA hF) O I Sm.wF h) (fun r s' z=>?_) fun _ _ z=>z.elim)
  cases r with
  | none=>obtain ⟨_,_,_,_,z⟩:=z;exact z.elim
  | some v=>
   refine byG fun Gq kq=>?_
   obtain ⟨b',y',σ',st,S',r',rfl,⟨H,e⟩,hD⟩:=z
   obtain ⟨⟨dx',kvs',I'⟩,D⟩:=hD H e
   refine kq ?_
   subst e
   have S₁:=S'.ofF
   refine byG fun Gq kq=>?_
   obtain ⟨⟨us,⟨n,g⟩,rus⟩,_⟩:=S₁.led (S,.list acc) (.head _)
   refine kq ?_
   have hlen:us.length ≤ 1000:=by rw [VRs.length rus];simp only [List.length_cons] at hl;lia
   show wpAny _ A₁.in1 (updateSeq S (·.push v) >>= _) _ _ _
   refine wpAny_bind (wpAny_updateSeq g rfl (wpAny_pure ⟨plainId_quiet F.plain_extend_loop _,?_⟩) (by rw [List.size_toArray,sizeLine_eq];lia) (by show (us.toArray.push v).size ≤ sizeLine + 1;rw [Array.size_push,List.size_toArray,sizeLine_eq];lia))
   have S₂:=S₁.setL (pre:=[]) (post:=H) rfl g (·.push v) (us:=us ++ [v]) (ys:=acc ++ [y']) (by simp) (rus.append (VRs.one r')) s'.toks
   refine own_loop O ys (acc ++ [y']) _ dx' kvs' b' _ H rfl (by rw [List.length_append];simp only [List.length_cons,List.length_nil] at hl ⊢;lia) I' S₂ D fun b'' σ'' s'' st' S'' w=>?_
   exact hR b'' σ'' s'' (stays_trans st st') S'' (by rw [List.append_assoc] at w;exact w)
theorem Cal.listOwn {C fi fn x dx:Addr} {kvs:List (PySem.Str × AV)} {Q:AV → St → Prop} {ys:List AV} {W:List AV → St → Prop} (O:Own W₀ C fi fn) (I:Inst σ x C dx kvs) (hl:ys.length ≤ 1000)
  (hi:∀ A' (hA:A'.handled = Option.none) (hF:A'.frames = c.A.frames),A'.depth ≤ c.A.depth + 1 → A'.units ≤ c.A.units + 8 → ∀ S,(∀ q ∈ σ.H,q.1 ≠ S) → Cal (c.wF A' hA hF) (.ref fi) [.ref x] [] { σ with H:=(S,.list []) :: σ.H } fun v σ'=>v = .ref x ∧ σ' = { σ with H:=(S,.list []) :: σ.H })
  (hn:∀ A' (hA:A'.handled = Option.none) (hF:A'.frames = c.A.frames),A'.depth ≤ c.A.depth + 1 → A'.units ≤ c.A.units + 8 → ∀ S,(∀ q ∈ σ.H,q.1 ≠ S) → Drain (c.wF A' hA hF) C fn x S ys [] { σ with H:=(S,.list []) :: σ.H } fun acc σ'=>∃ H,σ' = { σ with H:=(S,.list acc) :: H } ∧ Q (.lst acc) { σ with H:=H }) :
  Cal c (.type "list") [.ref x] [] σ Q:=fun b k s vs kws S r rk=>by
 refine byG fun Gq kq=>?_
 obtain ⟨v,r',rfl,rfl,e⟩:=r
 refine kq ?_
 rw [show r' = [] from e,show kws = [] from List.map_eq_nil_iff.mp rk.1]
 have f4:=S.fresh.2.2.2.1
 refine callType_codes (Q₁:=fun obj s₁=>obj = .ref s.heap.objs.size ∧ s₁ = { s with heap:=s.heap.push { cls:=.type "list",data:=.seq #[] } }) F.called_list (F.typeCall_list_1 _) F.entry_list_init
  (code_list_new _ ⟨rfl,rfl⟩) fun obj s₁ h₁=>?_
 refine byG fun Gq kq=>?_
 obtain ⟨rfl,rfl⟩:=h₁
 refine kq ?_
 have hS:(s.heap.push { cls:=.type "list",data:=.seq #[] }).get? s.heap.objs.size = some { cls:=.type "list",data:=.seq #[] }:=Heap.get?_push_size _ rfl
 have S₁:Sim c b k { σ with H:=(s.heap.objs.size,.list []) :: σ.H } { s with heap:=s.heap.push { cls:=.type "list",data:=.seq #[] } }:=S.newLed (o:={ cls:=.type "list",data:=.seq #[] }) (y:=.list []) ⟨[],⟨0,hS⟩,rfl⟩
 refine ⟨⟨_,hS,rfl⟩,F.args_list_init_2 _ _,?_⟩
 show wpAny _ _ (do let old ← Builtin.List.listItems (.ref s.heap.objs.size);Builtin.List.listUpdate (.ref s.heap.objs.size) (fun _=>#[]);letGo old.toList.reverse;Builtin.List.listExtendWith (.ref s.heap.objs.size) (.ref x) .none) _ _ _
 refine wpAny_bind ?_
 unfold Builtin.List.listItems
 refine wpAny_bind (wpAny_seqItems hS rfl (wpAny_pure ?_))
 show wpAny _ _ (updateSeq s.heap.objs.size (fun _=>#[]) >>= fun _=>letGo (#[]:Array Value).toList.reverse >>= fun _=>Builtin.List.listExtendWith (.ref s.heap.objs.size) (.ref x) .none) _ _ _
 refine wpAny_bind (wpAny_updateSeq hS rfl ?_)
 have S₂:=S₁.setL (pre:=[]) (post:=σ.H) rfl hS (fun _=>#[]) (us:=[]) (ys:=[]) rfl rfl s.toks
 refine wpAny_bind (wpAny_letGo ?_)
 have I₂:Inst { σ with H:=(s.heap.objs.size,.list []) :: σ.H } x C dx kvs:=⟨.tail _ I.o,.tail _ I.d⟩
 refine byG fun Gq kq=>?_
 obtain ⟨es,n,IA,er,hd⟩:=I₂.at S₂
 refine kq ?_
 unfold Builtin.List.listExtendWith
 refine wpAny_bind (IA.type.here ?_)
 have hSx:s.heap.objs.size ≠ x:=fun e=>f4 _ I.o e.symm
 have h1:Builtin.List.listSameRef (.ref s.heap.objs.size) (.ref x) = false:=by simp [Builtin.List.listSameRef,hSx]
 have h2:(Value.ref C == Value.type "list") = false:=rfl
 have h3:(Value.ref C == Value.type "tuple") = false:=rfl
 simp only [h1,h2,h3,Bool.or_false,Bool.false_eq_true,if_false]
 have XK:=S₂.inK
 refine wpAny_bind (own_iter XK IA O.it O.itF O.nx (gst (hi c.A.in1.in1 c.hh rfl (Nat.le_succ _) (by show c.A.units + 1 + 1 ≤ _;lia) s.heap.objs.size f4 b k _ [.ref x] [] S₂.wF ⟨_,_,rfl,rfl,rfl⟩ ⟨rfl,rfl⟩) (fun b' y σ' v s' st S' r' hZ=>?_)))
 obtain ⟨hv,hσ⟩:=hZ
 subst hv hσ
 have S₃:=S'.ofF
 refine byG fun Gq kq=>?_
 obtain ⟨es',n',IA',er',hd'⟩:=I₂.at S₃
 refine kq ?_
 refine ⟨r',S₃.inK,⟨_,_,IA'⟩,?_⟩
 refine wpAny_bind (wpAny_holding ?_)
 unfold Builtin.List.listLengthHint
 refine wpAny_bind (wpAny_bind (IA'.type.here ((looks_findIn S₃.inK O.len).here ?_)))
 show wpAny _ _ (specialOf (Value.ref x) (PySem.Str.ofString "__length_hint__") >>= _) _ _ _
 refine wpAny_bind (wpAny_bind (IA'.type.here ((looks_findIn S₃.inK O.hint).here ?_)))
 refine wpAny_pure ?_
 show wpAny _ _ (rule "list.extend.makes-room" >>= fun _=>Builtin.List.listTouch (.ref s.heap.objs.size) >>= fun _=>again (.builtin "list.extend.loop" ⟨[.ref s.heap.objs.size,.ref x,.none],[]⟩)) _ _ _
 refine wpAny_bind (wpAny_rule (wpAny_bind ?_))
 show wpAny _ _ (updateSeq s.heap.objs.size (·.push .none) >>= fun _=>updateSeq s.heap.objs.size (·.pop)) _ _ _
 refine byG fun Gq kq=>?_
 obtain ⟨⟨us,⟨n₃,g₃⟩,rus⟩,_⟩:=S₃.led (s.heap.objs.size,.list []) (.head _)
 refine kq ?_
 rw [show us = [] from rus] at g₃
 refine wpAny_bind (wpAny_updateSeq g₃ rfl ?_ (by simp) (by simp))
 have g₄:=Heap.get?_update_self (Obj.mapSeq (·.push Value.none)) g₃ rfl
 refine wpAny_updateSeq g₄ rfl ?_ (by simp [sizeLine_eq]) (by simp)
 have S₅:Sim c b' k { σ with H:=(s.heap.objs.size,.list []) :: σ.H } { s' with heap:=(s'.heap.update s.heap.objs.size (Obj.mapSeq (·.push .none))).update s.heap.objs.size (Obj.mapSeq (·.pop)) }:=by
  refine S₃.upd (pre:=[]) (post:=σ.H) rfl (y:=.list []) ⟨?_,fun q hq=>?_⟩ ?_ s'.toks
  ·rw [Heap.size_update,Heap.size_update]
  ·rw [Heap.get?_update_other _ _ (Ne.symm hq),Heap.get?_update_other _ _ (Ne.symm hq)]
  ·have g₅:=Heap.get?_update_self (Obj.mapSeq (·.pop)) g₄ rfl
   exact ⟨[],⟨_,g₅⟩,rfl⟩
 refine wpAny_pure ⟨plainId_quiet F.plain_extend_loop _,?_⟩
 refine own_loop (A₁:=c.A.in1) (hA:=c.hh) (hF:=rfl) (R:=wants (fun r s₂=>r = .none ∧ Post c k c.VR Q b (.ref s.heap.objs.size) s₂) (fun _ _=>False)) O ys [] _ dx kvs b' _ σ.H rfl (by simpa using hl) I₂ S₅
  (hn c.A.in1.in1 c.hh rfl (Nat.le_succ _) (by show c.A.units + 1 + 1 ≤ _;lia) s.heap.objs.size f4) fun b'' σ'' s'' st' S'' w=>?_
 refine byG fun Gq kq=>?_
 obtain ⟨H,rfl,hq⟩:=w
 obtain ⟨b₃,st₃,S₃',r₃⟩:=Sim.frzL (pre:=[]) (post:=H) rfl S''
 refine kq ?_
 exact ⟨rfl,b₃,.lst _,_,stays_trans st (stays_trans st' st₃),S₃',r₃,hq⟩
end
end Lw
end
section
open PySem PySem.Calls PySem.W PyProof.Rows
set_option maxHeartbeats 1000000
set_option maxRecDepth 20000
namespace Lw
section
variable {W₀:Wld} {c:Cx W₀} {σ:St} {Q:AV → St → Prop}
theorem Cal.deq (h:Q (.obj deqO) σ):Cal c (.type "collections.deque") [] [] σ Q:=fun b k s vs kws S r rk=>by
 rw [show vs = [] from r,show kws = [] from List.map_eq_nil_iff.mp rk.1]
 refine deq_make fun h' g e=>?_
 obtain ⟨t1,t2,t3⟩:=S.freezeNew (s':={ s with heap:=h' }) (fun b o e=>g b o e) rfl S.gens e (by
  cases q:s.heap.get? s.heap.objs.size with
  | none=>rfl
  | some o=>exact absurd (Heap.lt_size q) (Nat.lt_irrefl _))
 exact ⟨_,.obj deqO,σ,t1,t3,⟨_,rfl,t2⟩,h⟩
theorem T.deq {W:Bool → St → Prop} (h:W false σ):Op1 c BR truthy (.obj deqO) σ W:=fun b k s v S r=>by
 obtain ⟨a,rfl,e⟩:=r
 exact deq_truthy (S.kb _ _ e) (Post.at (R:=BR) (y:=false) ((S.toks _).toks _) rfl h)
end
end Lw
end
section
open PySem PySem.Calls PySem.W PyProof.Rows
set_option maxHeartbeats 1000000
set_option maxRecDepth 20000
namespace Lw
section
variable {W₀:Wld} {c:Cx W₀} {σ:St} {Q:AV → St → Prop}
theorem Atr.prop {x C dx pa fget:Addr} {rest:List Value} {kvs:List (PySem.Str × AV)} {name:PySem.Str} (I:Inst σ x C dx kvs) (hg:plainGet W₀.K C name = true) (hh:hasDictIn W₀.K C = true) (ha:findIn W₀.K (.ref C) name = some (some (.ref pa)))
  (hn:specialIn W₀.K (.ref pa) "__get__" = some (some (.builtin "property.__get__"))) (ht:takesIn W₀.K (.ref pa) = some true) (hp:recIn W₀.K pa "property" = some (.ref fget :: rest))
  (h:∀ A' (hA:A'.handled = Option.none) (hF:A'.frames = c.A.frames),A'.depth ≤ c.A.depth + 1 → A'.units ≤ c.A.units + 8 → CalC (c.wF A' hA hF) (.ref fget) [.ref x] [] σ fun y σ'=>y.isBi = false ∧ Q y σ'):Atr c name (.ref x) σ Q:=fun b k s v S r=>by
 obtain ⟨es,n,IA,er,hd⟩:=I.at S
 rw [show v = .ref x from r]
 have S':=S.toks (s.toks + 1)
 refine get_bind S.inK IA (plainGet_of hg).1 (findObj_data (by obtain ⟨cd,hc,_⟩:=any_some hh;rw [hc];rfl) ha hn ht) (plainGet_of hg).2 (wpAny_call (prop_get (s:={ s with toks:=s.toks + 1 }) S.inK hp ?_))
 refine codeAny_mono (h c.A.in1 c.hh rfl (Nat.le_succ _) (by show c.A.units + 1 ≤ _;lia) b k _ [.ref x] [] S'.wF ⟨_,_,rfl,rfl,rfl⟩ ⟨rfl,rfl⟩) fun r s' z=>?_
 cases r with
 | error _=>exact z.elim
 | ok f=>
  cases f with
  | next=>exact z.elim
  | brk=>exact z.elim
  | cont=>exact z.elim
  | ret v=>
  obtain ⟨b',y,σ',st,S₂,r',hb,q⟩:=z
  show wpAny _ _ (handedOut v) _ _ _
  rw [handedOut_of (handed hb r')]
  exact wpAny_pure ⟨b',y,σ',st,S₂.ofF,r',q⟩
end
end Lw
end
section
open PySem PySem.Calls PySem.W PyProof.Rows
set_option maxHeartbeats 1000000
set_option maxRecDepth 20000
namespace Lw
structure EscAt (W₀:Wld) (d:Addr):Prop where
 nm:(d == sysModules) = false
 ex:∃ f:Int → Option Value,W₀.g0.MapOf (intKind W₀.prog W₀.w) d f ∧ ∀ x:Nat,x < 1114112 → if x ∈ specials then ∃ t,f x = some (.str (mkS [92,x]) t) else f x = none
section
variable {W₀:Wld} {c:Cx W₀} {σ:St} {Q:AV → St → Prop}
theorem Cal.trans1 {d:Addr} {x:Nat} (hd:EscAt W₀ d) (hx:x < 1114112) (h:Q (.str (esc x)) σ):Cal c (.builtin "str.translate") [.str [x],.ref d] [] σ Q:=fun b k s vs kws S r rk=>by
 obtain ⟨v,r',rfl,⟨t,rfl,_⟩,⟨u,r2,rfl,rfl,e⟩⟩:=r
 rw [show r2 = [] from e,show kws = [] from List.map_eq_nil_iff.mp rk.1]
 obtain ⟨f,hm,hf⟩:=hd.ex
 refine wpAny_call_entry F.slot_str_translate rfl F.entry_str_translate ?_ (F.args_str_translate_2 _ _)
 refine trans_body hx hd.nm c.hh (let ⟨o,es,ep,ho,r⟩:=hm;⟨o,es,ep,S.kb _ _ (S.g0 _ _ ho),r⟩) (hf x hx) fun h' t1 t2 g=>?_
 exact ⟨_,rfl,b,.str (esc x),σ,stays_refl _,(S.grow (s':={ s with heap:=h',toks:=t2 }) (fun b o e=>g b o e) rfl S.gens),⟨t1,rfl,esc_ok hx⟩,h⟩
theorem Cal.isiStr {l:List Nat} (h:Q (.bool true) σ):Cal c (.builtin "isinstance") [.str l,.ty "str"] [] σ Q:=fun b k s vs kws S r rk=>by
 obtain ⟨v,r',rfl,⟨t,rfl,_⟩,⟨u,r2,rfl,rfl,e⟩⟩:=r
 rw [show r2 = [] from e,show kws = [] from List.map_eq_nil_iff.mp rk.1]
 exact PySem.IsiPair.str_str (Post.at (R:=c.VR) (y:=.bool true) S rfl h)
end
end Lw
end
section
open PySem PySem.Calls PySem.W PyProof.Rows
set_option maxHeartbeats 1000000
set_option maxRecDepth 20000
namespace Lw
section
variable {W₀:Wld} {c:Cx W₀} {σ:St} {Q:AV → St → Prop}
noncomputable def Jp (c:Cx W₀) (parts:List (Sem Value)) (acc:List Nat) (σ:St) (Q:AV → St → Prop):Prop:=okS acc = true → ∀ b k s,Sim c b k σ s → wpAny (model c.prog c.w) c.A (joinParts (mkS acc) parts) (Post c k c.VR Q b) (fun _ _=>False) s
theorem Jp.nil {acc:List Nat} (hl:acc.length ≤ sizeLine) (h:Q (.str acc) σ):Jp c [] acc σ Q:=fun ho b k s S=>joinParts_nil (Post.at (R:=c.VR) (y:=.str acc) (S.toks _) ⟨_,rfl,ho⟩ h) (by simpa using hl)
inductive kJ (c:Cx W₀) (rest:List (Sem Value)) (acc:List Nat) (Q:AV → St → Prop) (v:AV) (σ:St):Prop | mk (l:List Nat) (e:v = .str l) (h:acc.length + l.length ≤ sizeLine ∧ Jp c rest (acc ++ l) σ Q)
inductive kJf (Q:AV → St → Prop) (y:AV) (σ:St):Prop | mk (l:List Nat) (e:y = .str l) (h:l.length ≤ sizeLine ∧ Q (.str l) σ)
theorem Jp.cons {x:Sem Value} {rest:List (Sem Value)} {acc:List Nat} (h:Go c c.VR x σ (kJ c rest acc Q)):Jp c (x :: rest) acc σ Q:=fun ho b k s S=>by
 refine joinParts_cons (gst (h b k s S) (fun b₁ y σ₁ v s₁ t₁ S₁ r₁ hZ=>?_))
 obtain ⟨l,hy,hl,h₁⟩:=hZ
 subst hy
 obtain ⟨t,rfl,ol⟩:=r₁
 refine ⟨by rw [mkS_append,mkS_length,List.length_append];exact hl,?_⟩
 rw [mkS_append]
 exact glst t₁ (h₁ (okS_append ho ol) b₁ k s₁ S₁)
theorem Ev.jstr {v₁ v₂:Expr} {rest:List Expr} {pos:Pos} (h:Jp c (evalEach (v₁ :: v₂ :: rest) c.env) [] σ Q):Ev c (.JoinedStr (v₁ :: v₂ :: rest) pos) σ Q:=fun b k s S=>JoinedStr_many (h rfl b k s S)
theorem Ev.fmt {value:Expr} {pos:Pos} (h:Ev c value σ (kJf Q)):Ev c (.FormattedValue value (-1) Option.none pos) σ Q:=fun b k s S=>by
 refine FormattedValue_plain (gst (h b k s S) (fun b₁ y σ₁ v s₁ t₁ S₁ r₁ hZ=>?_))
 obtain ⟨l,hy,hl,h₁⟩:=hZ
 subst hy
 obtain ⟨t,rfl,ol⟩:=r₁
 exact formatField_str (fun t' tk=>⟨b₁,.str l,σ₁,t₁,S₁.toks _,⟨t',rfl,ol⟩,h₁⟩) (by simpa using hl)
end
end Lw
end
section
open PySem PySem.Calls PySem.W PyProof.Rows
set_option maxHeartbeats 1000000
set_option maxRecDepth 20000
namespace Lw
section
variable {W₀:Wld} {c:Cx W₀} {σ:St} {Q:AV → St → Prop}
theorem app_check {M:Model} {A:Around} {E:Value → Shared → Prop} {s:Shared} {QQ:Unit → Shared → Prop} {a:Addr} {xs:Array Value} {n:Nat} (hp:s.heap.get? a = some { cls:=.type "list",data:=.seq xs n }) (x:Value) (h:QQ () s) :
  wpAny M A (checkBoundCall "list.append" ⟨[.ref a,x],[]⟩) QQ E s:=by
 unfold checkBoundCall
 rw [app_sig,app_kind]
 dsimp only
 rw [if_neg (by decide)]
 refine wpAny_bind (wpAny_isInstance (T:="list") (U:="module") (b:=false) ⟨_,hp,rfl⟩ (by rw [isSubtype_type];kernel_rfl) ?_)
 rw [app_vam]
 rw [if_neg (by decide)]
 unfold isType
 dsimp only
 refine wpAny_bind (wpAny_bind (wpAny_loadPart hp ?_))
 refine wpAny_pure ?_
 dsimp only
 rw [if_neg (by simp)]
 refine wpAny_bind (wpAny_typeOf (T:="list") ⟨_,hp,rfl⟩ ?_)
 dsimp only
 exact wpAny_of_eq (a:=()) (by kernel_rfl) h
theorem Atr.append {D:Addr} {xs:List AV} (hm:(D,AO.list xs) ∈ σ.H) (h:Q (.obj (bndO "list.append" (.ref D))) σ):Atr c "append" (.ref D) σ Q:=fun b k s v S r=>by
 obtain ⟨⟨us,⟨n,g⟩,rus⟩,_⟩:=S.led _ hm
 rw [show v = .ref D from r]
 obtain ⟨hp,gg,d,tk,os⟩:=s
 refine app_by (xs:=us.toArray) (n:=n) g ?_
 obtain ⟨t1,t2,t3⟩:=(S.toks (tk + 1)).newFrozen (bndO "list.append" (.ref D))
 exact ⟨_,.obj (bndO "list.append" (.ref D)),σ,t1,t3,⟨_,rfl,t2⟩,h⟩
inductive kAq (D:Addr) (Q:AV → St → Prop) (as:List AV) (σ:St):Prop | mk (y:AV) (pre:List (Addr × AO)) (xs:List AV) (post:List (Addr × AO)) (e:as = [y]) (hH:σ.H = pre ++ (D,.list xs) :: post) (hl:xs.length ≤ sizeLine) (h:Q .none { σ with H:=pre ++ (D,.list (xs ++ [y])) :: post })
noncomputable abbrev kAp {W₀:Wld} (c:Cx W₀) (D:Addr) (args:List Expr) (pos:Pos) (Q:AV → St → Prop) (a:AV) (σ:St):Prop:=a = .obj (bndO "list.append" (.ref D)) ∧ Sps c (backTo pos (starEach args c.env)) σ (kAq D Q)
theorem Ev.addCall {fn:Expr} {args:List Expr} {pos:Pos} {D:Addr} (h:Ev c fn σ (kAp c D args pos Q))
  (hplain:(backTo pos (starEach args c.env)).any (·.1) = false)
  (he:eval (.Call fn args [] pos) c.env = (do callWith pos (← eval fn c.env) [] (backTo pos (starEach args c.env)) (backToKw pos (keywordEach [] c.env))):=by rfl):Ev c (.Call fn args [] pos) σ Q:=fun b k s S=>by
 rw [he]
 refine wpAny_bind (gst (h b k s S) (fun b₁ a σ₁ v s₁ t₁ S₁ r₁ hZ=>?_))
 obtain ⟨ha,h₁⟩:=hZ
 subst ha
 obtain ⟨u,rfl,eu⟩:=r₁
 have hc:∀ h,h.get? u = some (bndO "list.append" (.ref D)) → ∃ k,(k = Keeper.frame ∨ k = Keeper.machine ∨ k = Keeper.boundFrame) ∧ Looks (model c.prog c.w) h (keeperOf (.ref u)) k:=fun h e=>
  ⟨.machine,.inr (.inl rfl),(Looks.ld (part:=Option.none) e).andThen .now⟩
 refine callWith_of (P:=fun h=>h.get? u = some (bndO "list.append" (.ref D))) (by rw [hplain];rfl) hc ?_
 refine wpAny_mono (Arg.pos (f:=.ref u) (P:=fun y σ₂=>kAq D Q y.1 σ₂ ∧ y.2 = []) (Go.mono h₁ fun as σ₂ z=>⟨z,rfl⟩) hplain b₁ k s₁ S₁)
  (fun aa s₂ zP=>Post.elim zP fun b₂ y σ₂ t₂ S₂ r₂ ⟨⟨z,pre,xs,post,hy,hH,hl,hq⟩,hy2⟩=>?_) fun _ _ z=>z
 obtain ⟨y1,y2⟩:=y
 subst hy hy2
 have eu₂:=S₂.kb _ _ (t₂ _ _ eu)
 refine ⟨eu₂,?_⟩
 obtain ⟨⟨v,r',e1,rv,e2⟩,rk⟩:=r₂
 obtain ⟨ap,ak⟩:=aa
 dsimp only at e1 rk ⊢
 rw [show r' = [] from e2] at e1
 subst e1
 rw [show ak = [] from List.map_eq_nil_iff.mp rk.1]
 obtain ⟨⟨us,⟨n,g⟩,rus⟩,_⟩:=S₂.led (D,.list xs) (by rw [hH];exact List.mem_append_right _ (.head _))
 refine wpAny_call (codeAny_of_tree ?_)
 show wpAny _ c.A.in1 (callAny (.ref u) ⟨[v],[]⟩) _ _ s₂
 simp only [callAny]
 refine wpAny_bind (wpAny_load eu₂ ?_)
 show wpAny _ _ (if (Value.type "builtin_function_or_method" != Value.type "method") = true then do
     checkBoundCall "list.append" { pos:=[.ref D,v] }
     again (Code.builtin "list.append" { pos:=[.ref D,v] })
    else again (Code.call (.builtin "list.append") { pos:=[.ref D,v] })) _ _ _
 rw [if_pos (by decide)]
 refine wpAny_bind (app_check g _ ?_)
 refine wpAny_pure ⟨Code.quiet_builtin _ (by decide +kernel),codeAny_builtin F.entry_list_append ?_⟩
 rw [Around.under_plainId (show plainId "list.append" = true by decide +kernel) _]
 refine (list_append D us.toArray n v (by rw [List.size_toArray,VRs.length rus];exact hl)) c.prog c.w c.A (wants (Post c k c.VR Q b) (fun _ _=>False)) _ ⟨g,?_⟩
 exact ⟨b₂,.none,_,stays_trans t₁ t₂,S₂.setL hH g _ (us:=us ++ [v]) (by simp) (rus.append (VRs.one rv)) _,rfl,hq⟩
end
end Lw
end
section
open PySem PySem.Calls PySem.W PyProof.Rows
set_option maxHeartbeats 1000000
set_option maxRecDepth 20000
namespace Lw
section
variable {W₀:Wld} {c:Cx W₀} {σ:St} {Q:AV → St → Prop}
theorem Cal.obj (h:∀ a,(∀ q ∈ σ.H,q.1 ≠ a) → Q (.ref a) σ):Cal c (.type "object") [] [] σ Q:=fun b k s vs kws S r rk=>by
 rw [show vs = [] from r,show kws = [] from List.map_eq_nil_iff.mp rk.1]
 refine obj_make fun h' o g e=>?_
 exact ⟨b,.ref _,σ,stays_refl _,S.grow (s':={ s with heap:=h' }) (fun b o e=>g b o e) rfl S.gens,rfl,h _ S.fresh.2.2.2.1⟩
theorem O.isRR {a:Addr} (h:Q (.bool true) σ):Op2 c c.VR (compareOp .Is) (.ref a) (.ref a) σ Q:=fun b k s v u S r r'=>by
 rw [show v = .ref a from r,show u = .ref a from r']
 exact wpAny_is_ref_self (Post.at (R:=c.VR) (y:=.bool true) S rfl h)
theorem O.isNotRR {a:Addr} (h:Q (.bool false) σ):Op2 c c.VR (compareOp .IsNot) (.ref a) (.ref a) σ Q:=fun b k s v u S r r'=>by
 rw [show v = .ref a from r,show u = .ref a from r']
 exact wpAny_isNot_ref_self (Post.at (R:=c.VR) (y:=.bool false) S rfl h)
theorem O.isNotSR {l:List Nat} {a:Addr} (h:Q (.bool true) σ):Op2 c c.VR (compareOp .IsNot) (.str l) (.ref a) σ Q:=fun b k s v u S r r'=>by
 obtain ⟨t,rfl,_⟩:=r
 rw [show u = .ref a from r']
 exact wpAny_isNot_other rfl (fun e=>nomatch e) (Post.at (R:=c.VR) (y:=.bool true) S rfl h)
noncomputable def prtA (S:Addr):Option (List Nat) → AV
 | some l=>.str l
 | none=>.ref S
theorem O.isNotPrt {S:Addr} {p:Option (List Nat)} (h:Q (.bool p.isSome) σ):Op2 c c.VR (compareOp .IsNot) (prtA S p) (.ref S) σ Q:=by
 cases p with
 | none=>exact O.isNotRR h
 | some l=>exact O.isNotSR h
theorem I.listLast {value slice:Expr} {x:AV} {xs:List AV} {y:AV} (hs:∀ a u,subscripted slice false (.ref a) (.int (-1) u) = operate [.ref a,.int (-1) u] (getItem (.ref a) (.int (-1) u))) (hx:LA σ x xs) (hy:xs.getLast? = some y) (h:Q y σ):Itm c value slice x (.int (-1)) σ Q:=by
 have hne:xs ≠ []:=by rintro rfl;cases hy
 have hlen:0 < xs.length:=List.length_pos_iff.mpr hne
 refine I.listNeg hx (by decide) (by lia) (by decide) ?_ h hs
 rw [List.getLast?_eq_getElem?] at hy
 obtain ⟨m,hm⟩:∃ m,xs.length = m + 1:=⟨xs.length - 1,(Nat.sub_add_cancel hlen).symm⟩
 rw [hm] at hy ⊢
 rw [show (-1:Int) + ((m + 1:Nat):Int) = m by lia,Int.toNat_natCast]
 exact hy
theorem Ord.bnd {n:PySem.Str} {ts:List (Value → Sem Unit)} {a:AV} {xs:List AV} {P:Unit → St → Prop} (h:Sto c n a σ (kOd c ts xs P)):Ord c ((fun v=>bindName c.env n v) :: ts) (a :: xs) σ P:=
 Ord.cons fun b k s v S r=>bindName_ (h b k s v S r)
noncomputable abbrev kSu {W₀:Wld} (c:Cx W₀) (n1:PySem.Str) (x:AV) (P:AF → St → Prop) (_:Unit) (σ:St):Prop:=Sto c n1 x σ (kN P)
inductive kSw {W₀:Wld} (c:Cx W₀) (n1 n2:PySem.Str) (P:AF → St → Prop) (a:AV) (σ:St):Prop | mk (x y:AV) (e:a = .tup [x,y]) (h:Sto c n2 y σ (kSu c n1 x P))
theorem Ex.swap2 {targets:List Expr} {e:Expr} {pos:Pos} {n1 n2:PySem.Str} {P:AF → St → Prop} (hs:swapsWithSole targets e pos.line c.env = pure false) (hw:swappedStores targets e c.env = pure (some [n1,n2]))
  (h:Ev c e σ (kSw c n1 n2 P)):Ex c (.Assign targets e pos) σ P:=
 Ex.asgSwap (names:=[n1,n2]) (Go.mono h fun a σ₁ ⟨x,y,ha,z⟩=>⟨[x,y],ha,rfl,Ord.bnd (fun b k s v S r=>gst (z b k s v S r) (fun b' u σ' _ s' st S' r' z'=>⟨b',u,σ',st,S',r',Ord.bnd (fun b k s v S r=>gst (z' b k s v S r) (fun b' u σ' _ s' st S' r' z''=>⟨b',u,σ',st,S',r',Ord.nil z''⟩))⟩))⟩) hs hw
inductive kQw (Q:AV → St → Prop) (a:AV) (σ:St):Prop | mk (τ:St) (l:Le σ τ) (h:Q a τ)
theorem Cal.weak {f:Value} {as:List AV} {kw:List (PySem.Str × AV)} (h:Cal c f as kw σ (kQw Q)):Cal c f as kw σ Q:=fun b k s vs kvs S r rk=>
 gst (h b k s vs kvs S r rk) (fun b' y σ' v s' st S' r' ⟨σ₂,l,q⟩=>⟨b',y,σ₂,st,S'.weak l.m l.cl l.H,r',q⟩)
theorem Le.drop {m cl:List (PySem.Str × AV)} {q:Addr × AO} {H:List (Addr × AO)}:Le ⟨m,cl,q :: H⟩ ⟨m,cl,H⟩:=⟨fun _ _ e=>e,fun _ _ e=>e,List.sublist_cons_self _ _⟩
noncomputable def whileBody:Stmt → List Stmt
 | .While _ b _ _=>b
 | _=>[]
end
end Lw
end
section
open PySem PySem.Calls PySem.W PyProof.Rows
set_option maxHeartbeats 1000000
set_option maxRecDepth 20000
namespace Lw
section
variable {W₀:Wld} {c:Cx W₀} {σ:St}
theorem ItbG.led {L:Addr} {xs:List AV} (hL:(L,AO.list xs) ∈ σ.H):ItbG c (.ref L) σ xs fun σ'=>(L,AO.list xs) ∈ σ'.H:=fun b k s v S r Q h=>by
 rw [show v = .ref L from r]
 refine byG fun Gq kq=>?_
 obtain ⟨⟨vs,q,z⟩,_⟩:=S.led _ hL
 refine kq ?_
 refine wpAny_pyIter_list q.isList (h s.heap.objs.size _ (fun i b k h=>h.IsListIter s.heap.objs.size L i) ?_ (S.push _))
 exact {
  item:=fun c' hA hf i b' k' σ' s' x Q' E S' hOk hit hx hq=>by
   refine byG fun Gq kq=>?_
   obtain ⟨⟨us,q',z'⟩,y1,y2,y3⟩:=S'.led _ hOk
   obtain ⟨u,e1,e2⟩:=VRs.get z' hx
   refine kq ?_
   exact wpAny_pyNext_list_item hit q'.isList (by simpa using e1) fun h' hit' hs=>hq u h' s'.toks e2 hit' fun a o ha e=>(hs.2 a ha).trans e
  fin:=fun c' hA hf b' k' σ' s' Q' E S' hOk hit hq=>by
   refine byG fun Gq kq=>?_
   obtain ⟨⟨us,q',z'⟩,y1,y2,y3⟩:=S'.led _ hOk
   refine kq ?_
   exact wpAny_pyNext_list_end c.hh hit q'.isList (by simp [VRs.length z']) fun h' hs=>hq h' s'.toks fun a o ha e=>hs a o ha e
  self:=fun b' k' s' Q' E hit hq=>wpAny_pyIter_listiter hit hq
  it:=⟨_,Heap.get?_push_size _ rfl,rfl,rfl⟩
  there:=fun i b' k' h' hit=>let ⟨o,ho,hc,_⟩:=hit;⟨o,ho,_,hc,by decide⟩
  off:=S.offNew
  stay:=fun c' hf i b' k' h' b'' σ' s' oI hit hb hk h1 h2 hbb S'=>hit.at fun o e=>by rw [h1] at e;cases e;exact h2
  enter:=fun b' k' k'' h' h'' hit hs hk=>hit.at fun o e=>hs _ _ e }
inductive kFl {W₀:Wld} (c:Cx W₀) (target:Expr) (body:List Stmt) (W:AF → St → Prop) (y:AV) (σ:St):Prop
 | mk (L:Addr) (items:List AV) (hy:y = .ref L) (hm:(L,AO.list items) ∈ σ.H) (st:List AV → St) (h0:Lf σ (st [])) (hL:∀ pre,(L,AO.list items) ∈ (st pre).H)
  (turn:∀ pre x post,items = pre ++ x :: post → Asn c target x (st pre) (kBd c body (kLp W (kLf (st (pre ++ [x])))))) (done:W .next (st items))
theorem Ex.forL {target iter:Expr} {body:List Stmt} {pos:Pos} {W:AF → St → Prop} (hs:∀ x,foldedSetIterable iter c.env x = pure x) (h:Ev c iter σ (kFl c target body W)):Ex c (.For target iter body [] pos) σ W:=by
 refine Ex.weakW (Ex.forsG (Go.mono h fun y σ₁ z=>?_) hs)
 cases z with
 | mk L items hy hm st h0 hL turn done=>exact ⟨items,_,hy ▸ ItbG.led hm,fun pre σ'=>Lf σ' (st pre),h0,fun pre x post σ' e l=>Asn.weak l (turn pre x post e),fun σ' l=>⟨st items,l.le,done⟩,fun pre σ' l=>l.H ▸ hL pre⟩
theorem TurnsG.lst {elt:Expr} {g:Comprehension} {scope:Scope} {pos:Pos} {hk:scope.kind = .function} {L:Addr} {items:List AV} {W:Addr → AO → St → Prop} (hL:(L,AO.list items) ∈ σ.H) (F:AV → Option AV)
  (h:∀ C D acc x,x ∈ items → Asn (compCx c scope hk C) g.target x ⟨[],seen σ scope,(D,.list acc) :: σ.H⟩ (kT0 (compCx c scope hk C) g.ifs elt F x ⟨[],seen σ scope,(D,.list acc) :: σ.H⟩))
  (hl:items.length ≤ sizeLine) (hW:∀ D,(∀ q ∈ σ.H,q.1 ≠ D) → W D (.list (items.filterMap F)) { σ with H:=(D,.list (items.filterMap F)) :: σ.H }) :
  TurnsG c (.ListComp elt [g] scope pos) g [] scope hk (.list []) σ items (fun σ'=>(L,AO.list items) ∈ σ'.H) W:=fun D C hD=>by
 refine ⟨fun pre σ'=>Lf σ' { m:=[],cl:=seen σ scope,H:=(D,.list (pre.filterMap F)) :: σ.H },⟨fun _ _ e=>e,fun _ _ e=>e,rfl⟩,fun pre x post σ' e l=>?_,fun σ₂ l=>⟨[],.list (items.filterMap F),σ.H,l.H,hW D hD⟩,fun pre σ' l=>(show (L,AO.list items) ∈ σ'.H from (Lf.H l) ▸ .tail _ hL)⟩
 have hpre:(pre.filterMap F).length ≤ sizeLine:=by
  have h1:=List.length_filterMap_le F pre
  have h2:pre.length ≤ items.length:=by rw [e];simp
  lia
 refine Op1.weakP l ?_
 intro b k s v S r
 refine gst (h C D _ x (by rw [e];simp) b k s v S r) (fun b' y' σ₂ _ _ t S' r' h'=>⟨b',y',σ₂,t,S',r',?_⟩)
 refine Go.mono h' fun ok σ₃ z=>?_
 cases ok with
 | true=>
  refine Emi.lst rfl (Go.mono z fun y σ₄ ⟨e1,l4⟩=>⟨[],_,σ.H,l4.H,hpre,?_⟩)
  show Lf _ { m:=[],cl:=seen σ scope,H:=(D,.list ((pre ++ [x]).filterMap F)) :: σ.H }
  rw [List.filterMap_append,show [x].filterMap F = [y] by simp [e1]]
  exact ⟨l4.m,l4.cl,rfl⟩
 | false=>
  obtain ⟨e1,l3⟩:=z
  show Lf σ₃ { m:=[],cl:=seen σ scope,H:=(D,.list ((pre ++ [x]).filterMap F)) :: σ.H }
  rw [List.filterMap_append,show [x].filterMap F = [] by simp [e1],List.append_nil]
  exact l3
inductive kLl {W₀:Wld} (c:Cx W₀) (elt:Expr) (g:Comprehension) (scope:Scope) (pos:Pos) (hk:scope.kind = .function) (Q:AV → St → Prop) (v:AV) (σ:St):Prop
 | mk (L:Addr) (items:List AV) (hv:v = .ref L) (hm:(L,AO.list items) ∈ σ.H) (ht:TurnsG c (.ListComp elt [g] scope pos) g [] scope hk (.list []) σ items (fun σ'=>(L,AO.list items) ∈ σ'.H) (kFz Q))
theorem Ev.lcL {elt:Expr} {g:Comprehension} {scope:Scope} {pos:Pos} {Q:AV → St → Prop} (hk:scope.kind = .function)
  (h:Ev c g.iter σ (kLl c elt g scope pos hk Q))
  (hfree:(scope.names.all fun x=>!(x.2 == .free) || (c.env.cells.lookup x.1).isSome) = true) (hnames:(scope.names.all fun x=>!(x.2 == .local) || scope.names.lookup x.1 == some .local) = true) (ha:(g.is_async != 0) = false)
  (hs:∀ x,foldedSetIterable g.iter c.env x = pure x):Ev c (.ListComp elt [g] scope pos) σ Q:=by
 obtain ⟨gt,gi,gf,gas⟩:=g
 exact comp_plainG (pos:=pos) CK.lst hk ha hfree (fun x hx hl=>by have:=List.all_eq_true.mp hnames x hx;simpa [hl] using this) (Go.mono h fun v σ₁ ⟨L,items,hv,hm,T⟩=>⟨items,_,hv ▸ ItbG.led hm,T⟩) hs (by with_unfolding_all rfl)
end
end Lw
end
section
open PySem PySem.Calls PySem.W PyProof.Rows
set_option maxHeartbeats 1000000
set_option maxRecDepth 20000
namespace Lw
noncomputable def Pk (W₀:Wld) {α:Type} (t:Sem α) (r:α):Prop:=peek W₀.K ⟨W₀.prog,W₀.w.params⟩ t = some r
structure MakesN (W₀:Wld) (C sm fn fI:Addr):Prop where
 cls:∃ oc od cd sl,W₀.K.lookup C = some ⟨oc,od,.cls cd,sl⟩ ∧ cd.abstract = false ∧ cd.hasDel = false ∧ cd.mro.isEmpty = false
 call:Pk W₀ (specialOf (.ref C) "__call__") (some (.builtin "type.__call__"))
 typ:Pk W₀ (isInstance (.ref C) (.type "type")) true
 made:Pk W₀ (Bind.madeBy (.ref C)) Option.none
 here:Pk W₀ (Bind.madeHere "object.__new__" (.ref C)) ()
 base:Pk W₀ (Bind.staticBase (.ref C)) (.type "object")
 mo:Pk W₀ (Bind.madeBy (.type "object")) (some "object.__new__")
 self:Pk W₀ (isSubtype (.ref C) (.ref C)) true
 top:Pk W₀ (isSubtype (.ref C) (.type "object")) true
 rd:readsIn W₀.K C (.type "type") = true
 new:findCls W₀.K (.ref C) (.type "type") "__new__" = some (.get (.builtin "staticmethod.__get__") (.ref sm) .none (.ref C))
 sm:∃ r,recIn W₀.K sm "staticmethod" = some (.ref fn :: r)
 init:findIn W₀.K (.ref C) "__init__" = some (some (.ref fI))
 fn:typeIn W₀.K (.ref fI) = some (.type "function")
structure ObjNew (W₀:Wld):Prop where
 op:Pk W₀ (opaqueClassAbove (.type "object")) Option.none
 hk:∃ r,Pk W₀ (hookBefore (.type "type")) r
 fc:findCls W₀.K (.type "object") (.type "type") "__new__" = some (.val (.builtin "object.__new__"))
 ga:findIn W₀.K (.type "type") "__getattribute__" = some (some (.builtin "type.__getattribute__"))
 su:subIn W₀.K (.type "type") (.type "type") = some true
section
variable {W₀:Wld} {c:Cx W₀} {σ:St} {Q:AV → St → Prop}
theorem Pk.looks {α:Type} {t:Sem α} {r:α} (h:Pk W₀ t r) {hp:Heap} (X:W₀.K.In hp):Looks (model W₀.prog W₀.w) hp t r:=Looks.of_peek (M:=model W₀.prog W₀.w) X h
theorem new_at {A:Around} {E:Value → Shared → Prop} {s:Shared} {pl:Sem Bool} {QQ:Value × List Value → Shared → Prop} (X:W₀.K.In s.heap) (N:ObjNew W₀) (h:QQ (.builtin "object.__new__",[]) { s with toks:=s.toks + 1 }) :
  wpAny (model W₀.prog W₀.w) A (getMethod (.type "object") "__new__" pl) QQ E s:=by
 have ht:Looks (model W₀.prog W₀.w) s.heap (typeOf (.type "object")) (.type "type"):=Looks.of_pure (by rfl)
 unfold getMethod specialOf
 refine wpAny_bind (wpAny_bind (ht.here ((looks_findIn X N.ga).here ?_)))
 dsimp only
 first | refine wpI_T canon_tga ?_ | rw [if_pos canon_tga]
 obtain ⟨hook,hk⟩:=N.hk
 refine wpAny_bind (cls_open X (N.op.looks X) ht N.ga (hk.looks X) N.su N.fc ?_)
 refine wpAny_pure ?_
 show wpAny _ _ (handedOut _) _ _ _
 rw [handedOut_of (by rfl)]
 exact wpAny_pure (wpAny_pure h)
theorem new_make {A:Around} {C sm fn fI:Addr} {hp:Heap} {g d t os} {R:Result → Shared → Prop} (X:W₀.K.In hp) (Y:MakesN W₀ C sm fn fI)
  (hq:R (.ok (.ret (.ref (hp.objs.size + 1)))) ⟨(hp.push emptyDict).push (instObj C hp.objs.size),g,d,t,os⟩):codeAny (model W₀.prog W₀.w) A (.call (.builtin "object.__new__") ⟨[.ref C],[]⟩) R ⟨hp,g,d,t,os⟩:=by
 obtain ⟨oc,od,cd,sl,hC0,e1,e2,e4⟩:=Y.cls
 have hC:=X _ _ hC0
 have F:=PySem.F.objNew
 have typ:=Y.typ.looks X
 have here:=Y.here.looks X
 have top:=Y.top.looks X
 have base:=Y.base.looks X
 have mo:=Y.mo.looks X
 have self:=Y.self.looks X
 refine codeAny_call_builtin_code (Code.quiet_builtin _ F.quiet) ?_
 simp only [checkBuiltinCall,F.kind,F.split,F.row]
 have args:Bind.checkArgs "object.__new__" ⟨.hand, "object.__new__", "__new__",.cls,[]⟩ ⟨[.ref C],[]⟩ = pure ():=by kernel_rfl
 rw [args]
 repeat (first | with_reducible refine wpI_T (by decide) ?_ | with_reducible refine wpI_F (by decide) ?_ | lk)
 refine codeAny_builtin F.entry ?_
 unfold Builtin.«object.__new__»
 have fin:∀ A',wpAny (model W₀.prog W₀.w) A' (do
   let d ← if typeHasDict (.ref C) then some <$> alloc { cls:=.type "dict",data:=.dict #[] } else pure none
   ret (← newObj (.ref C) .plain d)) (fun fin s'=>match fin with | .done f=>R (.ok f) s' | .again c'=>c'.quiet = true ∧ codeAny (model W₀.prog W₀.w) A c' R s') (fun e s'=>R (.error e) s') ⟨hp,g,d,t,os⟩:=by
  intro A'
  show wpAny _ _ ((alloc emptyDict >>= fun x=>pure (some x)) >>= _) _ _ _
  refine wpAny_bind (wpAny_bind (wpAny_alloc (wpAny_pure (wpAny_bind ?_))))
  show wpAny _ _ (newObjAsIs _ _ _) _ _ _
  unfold newObjAsIs classHasDel
  refine wpAny_bind (wpAny_alloc (wpAny_bind (wpAny_bind (wpAny_load (Heap.get?_push_of_some _ (Heap.get?_push_of_some _ hC)) (wpAny_pure ?_)))))
  rw [e2]
  refine wpAny_pure (wpAny_pure ?_)
  show R _ _
  rw [Heap.size_push]
  exact hq
 repeat (first | with_reducible refine wpI_F (by rw [e1];decide) ?_ | with_reducible refine wpI_F (by decide) ?_ | with_reducible refine wpI_T (by decide) ?_ | exact fin _ | lk)
theorem Ev.objNew {np apos pos:Pos} {args:List Expr} {C sm fn fI:Addr} (N:ObjNew W₀) (Y:MakesN W₀ C sm fn fI) (hO:bN W₀ "object" (.type "object")) (hx:c.env.kindOf "object" = some .globalImplicit)
  (he:∃ pl,eval (.Call (.Attribute (.Name "object" np) "__new__" apos) args [] pos) c.env = (do
   let ov ← eval (.Name "object" np) c.env
   standAt apos.atName
   let (f,first) ← holding [ov] (getMethod ov "__new__" pl)
   callWith pos f first (backTo pos (starEach args c.env)) (backToKw pos (keywordEach [] c.env))))
  (hplain:(backTo pos (starEach args c.env)).any (·.1) = false)
  (h:Sps c (backTo pos (starEach args c.env)) σ fun as σ₁=>as = [.ref C] ∧ ∀ x dx,Q (.ref x) { σ₁ with H:=(x,.inst C dx) :: (dx,.idict []) :: σ₁.H }):Ev c (.Call (.Attribute (.Name "object" np) "__new__" apos) args [] pos) σ Q:=fun b k s S=>by
 obtain ⟨pl,he⟩:=he
 obtain ⟨mg,mb,g1,g2,g3,g4⟩:=hO
 refine methodCall_KW (pl:=pl) (gst ((Ev.blt (Q:=fun a σ₁=>a = .ty "object" ∧ σ₁ = σ) (a:=.ty "object") (v:=.type "object") hx ⟨mg,mb,g1,g2,g3,g4⟩ (fun _=>rfl) ⟨rfl,rfl⟩ (by kernel_rfl)) b k s S) (fun b₁ x σ₁ v s₁ t₁ S₁ r₁ ⟨e1,e2⟩=>?_)) he
 subst e1 e2
 rw [show v = .type "object" from r₁]
 refine new_at S₁.inK N ?_
 have S₂:=S₁.toks (s₁.toks + 1)
 refine glst t₁ (callWith_go (Q:=Q) (fs:=[]) (Cee.bi "object.__new__") S₂ rfl (Arg.pos (Go.mono h fun as σ₂ ⟨ha,hq⟩=>?_) hplain) (by rw [hplain];rfl))
 subst ha
 intro b k s vs kws S r rk
 obtain ⟨v',r',rfl,rfl,e⟩:=r
 rw [show r' = [] from e,show kws = [] from List.map_eq_nil_iff.mp rk.1]
 obtain ⟨hh,g,d,t,os⟩:=s
 refine wpAny_call (new_make S.inK Y ?_)
 have A₂:=S.newLed (o:=emptyDict) (y:=.idict []) ⟨[],0,Heap.get?_push_size _ rfl,rfl⟩
 have A₃:=A₂.newLed (o:=instObj C hh.objs.size) (y:=.inst C hh.objs.size) (Heap.get?_push_size _ rfl)
 have e':(hh.push emptyDict).objs.size = hh.objs.size + 1:=by rw [Heap.size_push]
 rw [e'] at A₃
 exact ⟨b,.ref (hh.objs.size + 1),_,stays_refl _,A₃,rfl,hq _ _⟩
end
end Lw
end
section
open PySem PySem.Calls PySem.W PyProof.Rows
set_option maxHeartbeats 1000000
set_option maxRecDepth 20000
namespace Lw
section
variable {W₀:Wld} {c:Cx W₀} {σ:St} {Q:AV → St → Prop}
theorem Cal.makeN {C sm fn fI:Addr} {as:List AV} (Y:MakesN W₀ C sm fn fI)
  (h:∀ A' (hA:A'.handled = Option.none),A'.depth ≤ c.A.depth + 1 → A'.units ≤ c.A.units + 4 → Cal (c.wA A' hA) (.ref fn) (.ref C :: as) [] σ fun v σ₁=>∃ x dx kvs,v = .ref x ∧ Inst σ₁ x C dx kvs ∧ Cal (c.wA A' hA) (.ref fI) (.ref x :: as) [] σ₁ fun r σ₂=>r = .none ∧ Q (.ref x) σ₂) :
  Cal c (.ref C) as [] σ Q:=fun b k s vs kws S r rk=>by
 rw [show kws = [] from List.map_eq_nil_iff.mp rk.1]
 refine byG fun Gq kq=>?_
 obtain ⟨oc,od,cd,sl,hC0,e1,e2,e4⟩:=Y.cls
 have X:=S.inK
 have hC:=X _ _ hC0
 have call:=Y.call.looks X
 have typ:=Y.typ.looks X
 have made:=Y.made.looks X
 have hm:Looks (model W₀.prog W₀.w) s.heap (mroOf (.ref C)) cd.mro:=((Looks.ld (part:=none) hC).andThen .now).andThen .now
 obtain ⟨rs,hsm⟩:=Y.sm
 obtain ⟨hp,g,d,t,os⟩:=s
 refine kq ?_
 refine wpAny_call (codeAny_of_tree ?_)
 show wpAny _ _ (callAny (.ref C) _) _ _ _
 refine nd_load hC ?_
 show wpAny _ _ (callAny.viaDunder (.ref C) _) _ _ _
 unfold callAny.viaDunder
 refine wpAny_bind (call.at ?_)
 dsimp only
 rw [tc_bind]
 refine wpAny_bind (wpAny_pure (wpAny_bind (wpAny_pure ?_)))
 refine wpAny_pure (a:=Fin.again (.call (.builtin "type.__call__") ⟨.ref C :: vs,[]⟩)) (And.intro rfl ?_)
 refine codeAny_call_builtin_at (Code.quiet_builtin _ (by decide +kernel)) entry_typeCall (check_slot tc_kind tc_split typ (tc_args _ _ _) ?_)
 unfold Builtin.«type.__call__»
 dsimp only
 refine wpAny_bind (hm.at ?_)
 rw [e4]
 first | refine wpI_F (by decide) ?_ | simp only [Bool.false_eq_true,if_false]
 refine wpAny_bind (made.at ?_)
 dsimp only
 refine wpAny_bind (cls_bind X Y.rd Y.new (wpAny_call (sm_get (s:=⟨hp,g,d,t + 1,os⟩) X hsm (handed_on rfl ?_))))
 have S₁:=S.toks (t + 1)
 refine wpAny_bind (wpAny_holding (gst (h (c.A.under (.builtin "type.__call__" ⟨.ref C :: vs,[]⟩)) c.hh (Nat.le_of_eq rfl) (by show c.A.units + 1 ≤ _;lia) b k _ (.ref C :: vs) [] S₁.wA ⟨_,_,rfl,rfl,r⟩ ⟨rfl,rfl⟩) (fun b₁ y σ₁ v s₁ t₁ S₂ r₁ hZ=>?_)))
 refine byG fun Gq kq=>?_
 obtain ⟨x,dx,kvs,hy,I,hinit⟩:=hZ
 refine kq ?_
 subst hy
 rw [show v = .ref x from r₁]
 refine byG fun Gq kq=>?_
 obtain ⟨es,n,IA,er,hd⟩:=I.at S₂
 refine kq ?_
 have X₂:=S₂.inK
 have inst:Looks (model W₀.prog W₀.w) s₁.heap (isInstance (.ref x) (.ref C)) true:=IA.type.andThen (Y.self.looks X₂)
 refine wpAny_bind (inst.here ?_)
 first | refine wpI_F (by decide) ?_ | simp only [Bool.not_true,Bool.false_eq_true,if_false]
 refine wpAny_bind (wpAny_holding (special_fn X₂ IA Y.init Y.fn (gst (hinit b₁ k s₁ (.ref x :: vs) [] S₂ ⟨_,_,rfl,rfl,r.mono t₁⟩ ⟨rfl,rfl⟩) (fun b₂ y₂ σ₂ v₂ s₂ t₂ S₃ r₂ hZ=>?_))))
 obtain ⟨hy₂,hq⟩:=hZ
 subst hy₂
 rw [show v₂ = .none from r₂]
 refine wpAny_pure ?_
 exact ⟨b₂,.ref x,σ₂,stays_trans t₁ t₂,S₃.ofA,rfl,hq⟩
theorem call_defG {f:Addr} {F:Fn} {d kd:Value} {as:List AV} {kw bas:List (PySem.Str × AV)} {n:Nat} (hf:Def W₀ f F d kd) (hr:c.Room n)
  (hb:∀ q doc pm code,BindG c (mkFd F q d kd doc pm code) as kw bas) (hnd:nodupB (bas.map (·.1)) = true)
  (hkind:(bas.all fun q=>F.scope.names.lookup q.1 == some .local || (F.scope.names.lookup q.1 == some .cell && ownCell F.scope q.1)) = true)
  (hcn:nodupB ((cellsFrom 0 F.scope.names []).map (·.1)) = true)
  (m cl:List (PySem.Str × AV)) (hm:(bas.filter fun q=>F.scope.names.lookup q.1 == some .local) = m) (hcl:(bas.filter fun q=>!(F.scope.names.lookup q.1 == some .local)) = cl)
  (h:∀ q doc pm code (hfn:IsFn W₀ f (mkFd F q d kd doc pm code) F.body) L,Exs (funCx c hfn L) F.body ⟨m,cl,σ.H⟩ (kFn σ Q)) :
  Cal c (.ref f) as kw σ Q:=fun b k s vs kvs S r rk=>
 wpAny_call (codeAny_mono (call_defCX (X:=fun _=>False) (Q:=Q) hf hr hb hnd hkind hcn m cl hm hcl (fun q doc pm code hfn L=>ExsX.of (h q doc pm code hfn L)) b k s vs kvs S r rk) fun r s z=>by
  match r,z with
  | .error e,z=>obtain ⟨_,_,_,_,_,_,_,_,_,z⟩:=z;exact z.elim
  | .ok (.ret v),z=>exact z)
theorem BindG.star {fd:FuncData} {as0 as:List AV} {ns:List PySem.Str} {va ka:PySem.Str} (hl:ns.length = as0.length) (hz:as.length ≤ 1000)
  (h:∀ (vs us:List Value),vs.length = ns.length → us.length = as.length → bindArgs fd ⟨vs ++ us,[]⟩ = (do let t ← newTuple us;let d ← alloc { cls:=.type "dict",data:=.dict #[] };pure (ns.zip vs ++ [(va,t),(ka,.ref d)]))) :
  BindG c fd (as0 ++ as) [] (ns.zip as0 ++ [(va,.tup as),(ka,.dct [] [])]):=fun b k σ s vs kvs S r rk A QQ E hq=>by
 rw [show kvs = [] from List.map_eq_nil_iff.mp rk.1]
 obtain ⟨v1,v2,rfl,r1,r2⟩:=r.split
 have l1:v1.length = ns.length:=(VRs.length r1).trans hl.symm
 rw [h v1 v2 l1 (VRs.length r2)]
 refine wpAny_bind ?_
 unfold newTuple
 refine wpAny_newObj_type ?_ (by have:=VRs.length r2;unfold sizeOk;dsimp only;rw [sizeLine_eq,List.size_toArray];lia)
 obtain ⟨st,g1,S₁⟩:=S.newFrozen { cls:=.type "tuple",data:=.seq v2.toArray }
 refine wpAny_bind (wpAny_alloc (wpAny_pure ?_))
 obtain ⟨st2,g2,S₂⟩:=S₁.newFrozen { cls:=.type "dict",data:=.dict #[] }
 refine hq _ _ _ (stays_trans st st2) S₂ (fun a o e=>Heap.get?_push_of_some _ (Heap.get?_push_of_some _ e)) ?_ ?_
 ·rw [List.map_append,List.map_append,(zip_names ns v1 l1.symm).1,(zip_names ns as0 hl).1];rfl
 ·rw [List.map_append,List.map_append,(zip_names ns v1 l1.symm).2,(zip_names ns as0 hl).2]
  refine VRs.append ((r1.mono st).mono st2) ⟨_,_,rfl,⟨_,v2,rfl,⟨0,st2 _ _ g1⟩,(r2.mono st).mono st2⟩,_,_,rfl,⟨_,[],rfl,⟨_,#[],0,g2,⟨rfl,rfl,rfl⟩,rfl,fun _ he=>by simp at he,Pairs.nil,List.nodup_nil⟩,rfl,rfl,S₁.notMods⟩,rfl⟩
end
end Lw
end
section
open PySem PySem.Calls PySem.W PyProof.Rows
set_option maxHeartbeats 1000000
set_option maxRecDepth 20000
namespace Lw
section
variable {W₀:Wld} {c:Cx W₀} {σ:St} {Q:AV → St → Prop}
theorem Cal.typeI {n:Int} (h:Q (.ty "int") σ):Cal c (.type "type") [.int n] [] σ Q:=fun b k s vs kvs S r rk=>by
 obtain ⟨v,r1,rfl,⟨t,rfl⟩,e⟩:=r
 rw [show r1 = [] from e,show kvs = [] from List.map_eq_nil_iff.mp rk.1]
 exact call_type_of (Tx:="int") rfl (by decide) (Post.at (R:=c.VR) (y:=.ty "int") S rfl h)
theorem Cal.intI {n:Int} (h:Q (.int n) σ):Cal c (.type "int") [.int n] [] σ Q:=fun b k s vs kvs S r rk=>by
 obtain ⟨v,r1,rfl,⟨t,rfl⟩,e⟩:=r
 rw [show r1 = [] from e,show kvs = [] from List.map_eq_nil_iff.mp rk.1]
 exact call_int_int (Post.at (R:=c.VR) (y:=.int n) S ⟨_,rfl⟩ h)
theorem Ex.asgA {o e:Expr} {name:PySem.Str} {pos' pos:Pos} {P:AF → St → Prop} (hs:swapsWith e (some (.Attribute o name pos')) pos.line c.env = pure false) (h:Ev c e σ (kE c o (kSa c name P))):Ex c (.Assign [.Attribute o name pos'] e pos) σ P:=Ex.asgAtr h hs
theorem Sat.p {x C dx:Addr} {kvs:List (PySem.Str × AV)} {name:PySem.Str} {y:AV} {pre post:List (Addr × AO)} {P:Unit → St → Prop} (K:Cls W₀ C) (hH:σ.H = pre ++ (dx,.idict kvs) :: post) (ho:(x,AO.inst C dx) ∈ σ.H) (hz:c.fz = false) (hlen:kvs.length < 900)
  (ha:findIn W₀.K (.ref C) name = some Option.none) (h:P () { σ with H:=pre ++ (dx,.idict (putA name y kvs)) :: post }):Sat c name (.ref x) y σ P:=Sat.o K ho hH hlen ha h hz
noncomputable abbrev kIa {W₀:Wld} (c:Cx W₀) (args:List Expr) (pos:Pos) (Q:AV → St → Prop) (σ:St) (x f:Addr):Prop:=Sps c (backTo pos (starEach args c.env)) σ (kCp c (.ref f) [.ref x] Q)
noncomputable abbrev kIi {W₀:Wld} (c:Cx W₀) (name:PySem.Str) (args:List Expr) (pos:Pos) (Q:AV → St → Prop) (y:AV) (σ:St):Prop:=MI c name y σ (kIa c args pos Q σ)
theorem Ev.cI {o:Expr} {name:PySem.Str} {apos pos:Pos} {args:List Expr} (he:∃ pl,eval (.Call (.Attribute o name apos) args [] pos) c.env = (do
   let ov ← eval o c.env
   standAt apos.atName
   let (f,first) ← holding [ov] (getMethod ov name pl)
   callWith pos f first (backTo pos (starEach args c.env)) (backToKw pos (keywordEach [] c.env)))) (hplain:(backTo pos (starEach args c.env)).any (·.1) = false)
  (h:Ev c o σ (kIi c name args pos Q)):Ev c (.Call (.Attribute o name apos) args [] pos) σ Q:=
 Ev.mI (Go.mono h fun y σ₁ ⟨x,C,dx,kvs,f,h1,h2,h3,h4,h5,h6⟩=>⟨x,C,dx,kvs,f,h1,h2,h3,h4,h5,Arg.pos h6 hplain⟩) he (by rw [hplain];rfl)
theorem O.isNotK {a d:Addr} {oa od:Obj} (ha:W₀.K.lookup a = some oa) (hd:W₀.K.lookup d = some od) (hne:a ≠ d) (hc:oa.cls ≠ .type "tuple") (h:Q (.bool true) σ):Op2 c c.VR (compareOp .IsNot) (.ref a) (.ref d) σ Q:=fun b k s v u S r r'=>by
 rw [show v = .ref a from r,show u = .ref d from r']
 exact wpAny_isNot_ref_other hne (S.inK _ _ ha) (S.inK _ _ hd) hc (Post.at (R:=c.VR) (y:=.bool true) S rfl h)
noncomputable def noneIn (W₀:Wld) (C:Addr) (names:List PySem.Str):Prop:=(names.all fun n=>findIn W₀.K (.ref C) n == some Option.none) = true
theorem noneIn.at {C:Addr} {names:List PySem.Str} (h:noneIn W₀ C names) {n:PySem.Str} (hm:names.contains n = true):findIn W₀.K (.ref C) n = some Option.none:=
 beq_iff_eq.mp (List.all_eq_true.mp h n (by simpa using hm))
end
end Lw
end
section
open PySem PySem.Calls PySem.W PyProof.Rows
set_option maxHeartbeats 1000000
set_option maxRecDepth 20000
namespace Lw
section
variable {W₀:Wld} {c:Cx W₀} {σ:St} {Q:AV → St → Prop}
theorem Ev.cGT {x:PySem.Str} {np:Pos} {id:String} {args:List Expr} {pos:Pos} (hg:gN W₀ x (.type id)) (hx:c.env.kindOf x = some .globalImplicit) (hplain:(backTo pos (starEach args c.env)).any (·.1) = false)
  (hd:(x == ("__debug__" : PySem.Str)) = false) (h:Sps c (backTo pos (starEach args c.env)) σ fun as σ₂=>Cal c (.type id) as [] σ₂ Q):Ev c (.Call (.Name x np) args [] pos) σ Q:=
 Ev.call (Ev.glb (a:=.ty id) hx hg (fun _=>rfl) ⟨.type id,fun _ _ e=>e,Cee.ty id,Arg.pos h hplain⟩ hd) (by rw [hplain];rfl) rfl
theorem Ev.cFk {x:PySem.Str} {np:Pos} {f:Addr} {args:List Expr} {kws:List Keyword} {pos:Pos} (ns:List PySem.Str) (hg:gN W₀ x (.ref f)) (hf:Cee c (.ref f)) (hx:c.env.kindOf x = some .globalImplicit) (hplain:(backTo pos (starEach args c.env)).any (·.1) = false)
  (hd:(x == ("__debug__" : PySem.Str)) = false) (hn:(backToKw pos (keywordEach kws c.env)).filterMap (·.1) = ns) (hall:(backToKw pos (keywordEach kws c.env)).all (·.1.isSome) = true)
  (h:Sps c (backTo pos (starEach args c.env)) σ fun as σ₁=>Kws c ((backToKw pos (keywordEach kws c.env)).map (·.2)) σ₁ fun ks σ₂=>ns.length = ks.length ∧ Cal c (.ref f) as (ns.zip ks) σ₂ Q):Ev c (.Call (.Name x np) args kws pos) σ Q:=
 Ev.call (Ev.glb (a:=.ref f) hx hg (fun _=>rfl) ⟨.ref f,fun _ _ e=>e,hf,Arg.kw ns h hplain hn hall⟩ hd) (by
  rw [hplain,Bool.false_or,List.any_eq_false]
  intro y hy e
  have:=List.all_eq_true.mp hall y hy
  cases h:y.1 <;> simp_all) (by rfl)
inductive Snoc {α:Type} (x:α):List α → List α → Prop
 | nil:Snoc x [] [x]
 | cons {a:α} {l l':List α}:Snoc x l l' → Snoc x (a :: l) (a :: l')
theorem Snoc.eq {α:Type} {x:α} {l l':List α} (h:Snoc x l l'):l' = l ++ [x]:=by
 induction h with
 | nil=>rfl
 | cons _ ih=>rw [ih];rfl
theorem putA_new {x:PySem.Str} {y:AV}:∀ {kvs:List (PySem.Str × AV)},(kvs.all fun q=>!(q.1 == x)) = true → putA x y kvs = kvs ++ [(x,y)]
 | [],_=>rfl
 | (z,u) :: r,h=>by
  obtain ⟨h1,h2⟩:=Bool.and_eq_true_iff.mp (List.all_cons (l:=r) (f:=fun q:PySem.Str × AV=>!(q.1 == x)) ▸ h)
  show (if z == x then (z,y) :: r else (z,u) :: putA x y r) = _
  rw [if_neg (by intro e;rw [e] at h1;cases h1),putA_new h2];rfl
theorem Sat.new3 {x C dx:Addr} {kvs kvs':List (PySem.Str × AV)} {name:PySem.Str} {y:AV} {a1 a2:Addr × AO} {post:List (Addr × AO)} {P:Unit → St → Prop} (K:Cls W₀ C) (hH:σ.H = a1 :: a2 :: (x,.inst C dx) :: (dx,.idict kvs) :: post) (hz:c.fz = false) (hlen:kvs.length < 900)
  (ha:findIn W₀.K (.ref C) name = some Option.none) (hn:(kvs.all fun q=>!(q.1 == name)) = true) (hs:Snoc (name,y) kvs kvs') (h:P () { σ with H:=a1 :: a2 :: (x,.inst C dx) :: (dx,.idict kvs') :: post }):Sat c name (.ref x) y σ P:=
 Sat.p (pre:=[a1,a2,(x,.inst C dx)]) K hH (by rw [hH];exact .tail _ (.tail _ (.head _))) hz hlen ha (by rw [putA_new hn,← hs.eq];exact h)
theorem Sat.rep3 {x C dx:Addr} {kvs kvs':List (PySem.Str × AV)} {name:PySem.Str} {y:AV} {a1 a2:Addr × AO} {post:List (Addr × AO)} {P:Unit → St → Prop} (K:Cls W₀ C) (hH:σ.H = a1 :: a2 :: (x,.inst C dx) :: (dx,.idict kvs) :: post) (hz:c.fz = false) (hlen:kvs.length < 900)
  (ha:findIn W₀.K (.ref C) name = some Option.none) (hs:putA name y kvs = kvs') (h:P () { σ with H:=a1 :: a2 :: (x,.inst C dx) :: (dx,.idict kvs') :: post }):Sat c name (.ref x) y σ P:=
 Sat.p (pre:=[a1,a2,(x,.inst C dx)]) K hH (by rw [hH];exact .tail _ (.tail _ (.head _))) hz hlen ha (by rw [hs];exact h)
theorem strsAre {b:Heap}:∀ {ls:List (List Nat)} {vs:List Value},c.VRs b (ls.map .str) vs → StrsAre vs (ls.map mkS)
 | [],vs,r=>by rw [show vs = [] from r];exact .nil
 | l :: ls,vs,r=>by
  obtain ⟨v,r',rfl,⟨t,rfl,_⟩,r2⟩:=r
  exact .cons _ _ (strsAre r2)
theorem any_mkS (l:List Nat) (ls:List (List Nat)):((ls.map mkS).any (· == mkS l)) = ls.any (· == l):=by
 rw [List.any_map]
 congr 1
 funext z
 show (mkS z == mkS l) = (z == l)
 by_cases h:z = l
 ·rw [h];simp
 ·have h2:mkS z ≠ mkS l:=fun e=>h (by injection e with e;simpa using congrArg Array.toList e)
  rw [beq_eq_false_iff_ne.mpr h,beq_eq_false_iff_ne.mpr h2]
theorem O.inTS {l:List Nat} {ls:List (List Nat)} (h:Q (.bool (ls.any (· == l))) σ):Op2 c c.VR (compareOp .In) (.str l) (.tup (ls.map .str)) σ Q:=fun b k s v u S r r'=>by
 obtain ⟨t,rfl,_⟩:=r
 obtain ⟨a,vs,rfl,⟨n,g⟩,z⟩:=r'
 refine in_tuple_strs (items:=vs.toArray) (ys:=ls.map mkS) ⟨_,S.kb _ _ g,rfl,_,rfl⟩ (by simpa using strsAre z) ?_
 rw [any_mkS]
 exact Post.at (R:=c.VR) (y:=.bool _) S rfl h
end
end Lw
end
section
open PySem PySem.Calls PySem.W PyProof.Rows
set_option maxRecDepth 20000
namespace Lw
section
variable {W₀:Wld} {c:Cx W₀} {σ:St}
end
end Lw
end
section
open PySem PySem.Calls PySem.W PyProof.Rows
set_option maxRecDepth 20000
namespace Lw
theorem ite_T {p:Prop} [Decidable p] {a b:Prop} (h:p) (x:a):if p then a else b:=by rw [if_pos h];exact x
theorem ite_N {b:Bool} {P Q:Prop} (h:b = false) (x:Q):if b = true then P else Q:=by rw [if_neg (by rw [h];decide)];exact x
theorem ite_F {p:Prop} [Decidable p] {a b:Prop} (h:¬ p) (x:b):if p then a else b:=by rw [if_neg h];exact x
section
variable {W₀:Wld} {c:Cx W₀} {σ:St} {Q:AV → St → Prop}
noncomputable abbrev kK2 {W₀:Wld} (c:Cx W₀) (f:Value) (ns:List PySem.Str) (as:List AV) (Q:AV → St → Prop) (ks:List AV) (σ:St):Prop:=ns.length = ks.length ∧ Cal c f as (ns.zip ks) σ Q
noncomputable abbrev kK1 {W₀:Wld} (c:Cx W₀) (f:Value) (ns:List PySem.Str) (kws:List Keyword) (pos:Pos) (fs:List AV) (Q:AV → St → Prop) (as:List AV) (σ:St):Prop:=Kws c ((backToKw pos (keywordEach kws c.env)).map (·.2)) σ (kK2 c f ns (fs ++ as) Q)
noncomputable abbrev kK0 {W₀:Wld} (c:Cx W₀) (ns:List PySem.Str) (args:List Expr) (kws:List Keyword) (pos:Pos) (Q:AV → St → Prop) (σ:St) (x f:Addr):Prop:=Sps c (backTo pos (starEach args c.env)) σ (kK1 c (.ref f) ns kws pos [.ref x] Q)
noncomputable abbrev kKi {W₀:Wld} (c:Cx W₀) (name:PySem.Str) (ns:List PySem.Str) (args:List Expr) (kws:List Keyword) (pos:Pos) (Q:AV → St → Prop) (y:AV) (σ:St):Prop:=MI c name y σ (kK0 c ns args kws pos Q σ)
theorem Ev.cIk {o:Expr} {name:PySem.Str} {apos pos:Pos} {args:List Expr} {kws:List Keyword} (ns:List PySem.Str) (he:∃ pl,eval (.Call (.Attribute o name apos) args kws pos) c.env = (do
   let ov ← eval o c.env
   standAt apos.atName
   let (f,first) ← holding [ov] (getMethod ov name pl)
   callWith pos f first (backTo pos (starEach args c.env)) (backToKw pos (keywordEach kws c.env)))) (hplain:(backTo pos (starEach args c.env)).any (·.1) = false)
  (hn:(backToKw pos (keywordEach kws c.env)).filterMap (·.1) = ns) (hall:(backToKw pos (keywordEach kws c.env)).all (·.1.isSome) = true)
  (h:Ev c o σ (kKi c name ns args kws pos Q)):Ev c (.Call (.Attribute o name apos) args kws pos) σ Q:=
 Ev.mI (Go.mono h fun y σ₁ ⟨x,C,dx,kvs,f,h1,h2,h3,h4,h5,h6⟩=>⟨x,C,dx,kvs,f,h1,h2,h3,h4,h5,Arg.kw ns h6 hplain hn hall⟩) he (by
  rw [hplain,Bool.false_or,List.any_eq_false]
  intro y hy e
  have:=List.all_eq_true.mp hall y hy
  cases h:y.1 <;> simp_all)
end
end Lw
end
section
open PySem PySem.Calls PySem.W PyProof.Rows
set_option maxRecDepth 20000
namespace Lw
section
variable {W₀:Wld} {c:Cx W₀} {σ:St}
noncomputable abbrev kHp (W:AF → St → Prop) (I:St → Prop) (f:AF) (σ:St):Prop:=match f with
 | .next | .cont=>I σ
 | .brk=>False
 | .ret a=>W (.ret a) σ
end
end Lw
end
section
open PySem PySem.Calls PySem.W PyProof.Rows
set_option maxHeartbeats 1000000
set_option maxRecDepth 20000
namespace Lw
section
variable {W₀:Wld} {c:Cx W₀} {σ:St}
theorem Go.frzLc {α β:Type} {R:Heap → β → α → Prop} {t:Sem α} {P:β → St → Prop} (x:PySem.Str) {D:Addr} {xs:List AV} {pre post:List (Addr × AO)} (hx:σ.cl.lookup x = some (.ref D)) (hH:σ.H = pre ++ (D,.list xs) :: post)
  (h:Go c R t { σ with cl:=(x,.lst xs) :: σ.cl,H:=pre ++ post } P):Go c R t σ P:=fun b k s S=>by
 obtain ⟨b',st,S',r'⟩:=S.frzL hH
 have S₂:Sim c b' k { σ with cl:=(x,.lst xs) :: σ.cl,H:=pre ++ post } s:={ S' with
  cells:=fun z a hz=>by
   obtain ⟨⟨v,i,t1,t2⟩,q⟩:=S'.cells z a hz
   refine ⟨⟨v,i,fun y e=>?_,t2⟩,q⟩
   rw [List.lookup_cons] at e
   cases hy:z == x with
   | true=>
    rw [hy] at e;cases e
    obtain rfl:=beq_iff_eq.mp hy
    obtain ⟨u,e1,e2⟩:=t1 _ hx
    exact ⟨u,e1,by rw [show u = .ref D from e2];exact r'⟩
   | false=>rw [hy] at e;exact t1 y e }
 exact glst st (h b' k s S₂)
end
end Lw
end
section
open PySem PySem.Calls PySem.W PyProof.Rows
namespace Lw
section
variable {W₀:Wld} {c:Cx W₀} {σ:St} {Q:AV → St → Prop}
end
end Lw
end
section
open PySem PySem.Calls PySem.W PyProof.Rows
set_option maxRecDepth 20000
namespace Lw
section
variable {prog:Program} {w:World} {A:Around} {E:Value → Shared → Prop} {s:Shared}
theorem setAll {l v sl:Addr} {xs ys:Array Value} {n m:Nat} {Q:Unit → Shared → Prop} (hl:s.heap.get? l = some { cls:=.type "list",data:=.seq xs n }) (hv:s.heap.get? v = some { cls:=.type "list",data:=.seq ys m }) (hs:s.heap.IsSliceOf sl .none .none .none) (hne:l ≠ v)
  (hsz:xs.size + ys.size ≤ sizeLine) (h:∀ f:Array Value → Array Value,f xs = ys → Q () { s with heap:=s.heap.update l (Obj.mapSeq f) }):wpAny (model prog w) A (setItem (.ref l) (.ref sl) (.ref v)) Q E s:=by
 have il:s.heap.IsList l xs:=⟨_,hl,rfl,n,rfl⟩
 obtain ⟨os,hos,hcs,hds⟩:=id hs
 have hTs:s.TypeIs (.ref sl) "slice":=⟨os,hos,hcs⟩
 unfold setItem
 try with_reducible refine wpAny_holding ?_
 refine wpAny_bind (wpAny_sequenceKey il.typeIs (by decide) ?_)
 refine wpAny_bind (wpAny_callSpecial?_slot (name:=PySem.Str.ofString "__setitem__") il.typeIs slot_list_setitem
  (wpAny_call_entry slot_list_setitem il.typeIs entry_list_setitem ?_ (args_list_setitem _ _ _)))
 show wpAny _ _ (Builtin.List.listSubscript? (.ref sl) >>= _) _ _ s
 refine wpAny_bind ?_
 unfold Builtin.List.listSubscript?
 refine wpAny_bind (wpAny_specialOf hTs slice_no_index ?_)
 first | refine wpI_T (by rfl) ?_ | simp only [Option.isNone_none,if_true]
 refine wpAny_pure ?_
 show wpAny _ _ (typeOf (.ref sl) >>= _) _ _ s
 refine wpAny_bind (wpAny_typeOf hTs ?_)
 first | refine wpI_F (by decide) ?_ | rw [if_neg (by decide)]
 rw [listSliceParts_eq]
 refine wpAny_bind (wpAny_bind (wpAny_field hos hds (x:=.none) rfl (wpAny_bind (wpAny_listPart (k:=Option.none) .none ?_))))
 first | refine wpI_F (show ¬ ((rawPart Option.none == rawInt 0) = true) from Bool.false_ne_true) ?_ | rw [if_neg (show ¬ ((rawPart Option.none == rawInt 0) = true) from Bool.false_ne_true)]
 refine wpAny_bind (wpAny_field hos hds (x:=.none) rfl (wpAny_bind (wpAny_listPart (k:=Option.none) .none ?_)))
 refine wpAny_bind (wpAny_field hos hds (x:=.none) rfl (wpAny_bind (wpAny_listPart (k:=Option.none) .none (wpAny_pure ?_))))
 first | refine wpI_F (show ¬ (Builtin.List.listSameRef (.ref l) (.ref v) = true) from fun e=>hne (beq_iff_eq.mp e)) ?_ | rw [if_neg (show ¬ (Builtin.List.listSameRef (.ref l) (.ref v) = true) from fun e=>hne (beq_iff_eq.mp e))]
 refine wpAny_bind (m:=Builtin.List.listAllItems (.ref v) _) ?_
 unfold Builtin.List.listAllItems
 refine wpAny_bind (wpAny_typeOf (T:="list") ⟨_,hv,rfl⟩ ?_)
 first | refine wpI_T (by decide) ?_ | rw [if_pos (by decide)]
 have li:∀ {a:Addr} {zs:Array Value} {k:Nat} {QQ:Array Value → Shared → Prop} {EE:Value → Shared → Prop},s.heap.get? a = some { cls:=.type "list",data:=.seq zs k } → QQ zs s → wpAny (model prog w) A.in1 (Builtin.List.listItems (.ref a)) QQ EE s:=fun g q=>by
  unfold Builtin.List.listItems
  exact wpAny_bind (wpAny_seqItems g rfl (wpAny_pure q))
 refine li hv ?_
 refine wpAny_bind (m:=Builtin.List.listItems (.ref l)) (li hl ?_)
 refine wpAny_bind (wpAny_of_eq (sliceIndices_raw Option.none Option.none Option.none xs.size (fun e=>nomatch e)) ?_)
 first | refine wpI_T (show ((sliceBounds Option.none Option.none Option.none xs.size).2.2 == 1) = true from rfl) ?_ | rw [if_pos (show ((sliceBounds Option.none Option.none Option.none xs.size).2.2 == 1) = true from rfl)]
 refine wpAny_bind (wpAny_rule ?_)
 first | refine wpI_F (show ¬ (Builtin.List.listTooLong (xs.size + ys.size) = true) by unfold Builtin.List.listTooLong;simpa using hsz) ?_ | rw [if_neg (show ¬ (Builtin.List.listTooLong (xs.size + ys.size) = true) by unfold Builtin.List.listTooLong;simpa using hsz)]
 have ef:(fun zs:Array Value=>zs.extract 0 (sliceBounds Option.none Option.none Option.none xs.size).1.toNat ++ ys ++ zs.extract (max (sliceBounds Option.none Option.none Option.none xs.size).1 (sliceBounds Option.none Option.none Option.none xs.size).2.1).toNat) xs = ys:=by
  show xs.extract 0 0 ++ ys ++ xs.extract xs.size = ys
  simp
 refine wpAny_bind (m:=updateSeq l _) (wpAny_updateSeq hl rfl ?_ (by lia) (by rw [show ∀ z:Array Value,z = ys → z.size = ys.size from fun z e=>by rw [e]] <;> first | lia | exact ef))
 exact wpAny_bind (wpAny_letGo (wpAny_pure ⟨.none,rfl,wpAny_pure (h _ ef)⟩))
end
section
variable {W₀:Wld} {c:Cx W₀} {σ:St}
inductive kAl2 (P:AF → St → Prop) (v x:AV) (σ:St):Prop
 | mk (D:Addr) (xs ys:List AV) (pre post:List (Addr × AO)) (hx:x = .ref D) (hv:v = .lst ys) (hH:σ.H = pre ++ (D,.list xs) :: post) (hl:xs.length + ys.length ≤ sizeLine) (h:P .next { σ with H:=pre ++ (D,.list ys) :: post })
theorem Ex.asgAll {o e:Expr} {p pos' pos:Pos} {P:AF → St → Prop} (hs:swapsWith e (some (.Subscript o (.Slice Option.none Option.none Option.none p) pos')) pos.line c.env = pure false) (h:Ev c e σ (kE c o (kAl2 P))) :
  Ex c (.Assign [.Subscript o (.Slice Option.none Option.none Option.none p) pos'] e pos) σ P:=fun b k s S=>by
 refine wpAny_Assign_Subscript (gst (h b k s S) fun b₁ v σ₁ u s₁ t₁ S₁ r₁ h₁=>?_) hs
 refine gst (h₁ b₁ k s₁ S₁) fun b₂ x σ₂ u₂ s₂ t₂ S₂ r₂ h₂=>?_
 refine byG fun Gq kq=>?_
 obtain ⟨D,xs,ys,pre,post,hx,hv,hH,hl,hP⟩:=h₂
 refine kq ?_
 subst hx hv
 rw [show u₂ = .ref D from r₂]
 refine wpAny_Slice ?_
 rw [evalPart_none]
 refine wpAny_pure (wpAny_pure (wpAny_pure ?_))
 have S₃:=S₂.push { cls:=.type "slice",data:=.fields #[.none,.none,.none] }
 refine byG fun Gq kq=>?_
 obtain ⟨a,us,rfl,⟨m,gy⟩,ru⟩:=VR.mono t₂ _ r₁
 obtain ⟨⟨vs,⟨n,g⟩,rv⟩,bD,_⟩:=S₃.led (D,.list xs) (by rw [hH];exact List.mem_append_right _ (.head _))
 refine kq ?_
 have hne:D ≠ a:=fun e=>by rw [e,gy] at bD;cases bD
 refine setAll g (S₃.kb _ _ gy) (Heap.IsSliceOf.new _ .none .none .none) hne (by rw [List.size_toArray,List.size_toArray,VRs.length rv,VRs.length ru];exact hl) fun f ef=>?_
 exact ⟨b₂,.next,_,stays_trans t₁ t₂,S₃.setL hH g f ef ru _,rfl,hP⟩
inductive kFhl {W₀:Wld} (c:Cx W₀) (target:Expr) (body:List Stmt) (W:AF → St → Prop) (y:AV) (σ:St):Prop
 | mk (L:Addr) (items:List AV) (hy:y = .ref L) (hm:(L,AO.list items) ∈ σ.H) (st:St) (hit:AV → Bool) (h0:Lf σ st) (turn:∀ pre x post,items = pre ++ x :: post → pre.any hit = false → Asn c target x st (kBd c body (kHp W fun σ₂=>hit x = false ∧ Lf σ₂ st))) (done:items.any hit = false → W .next st)
theorem Ex.forHL {target iter:Expr} {body:List Stmt} {pos:Pos} {W:AF → St → Prop} (hs:∀ x,foldedSetIterable iter c.env x = pure x) (h:Ev c iter σ (kFhl c target body W)):Ex c (.For target iter body [] pos) σ W:=by
 refine Ex.weakW (Ex.forsG (Go.mono h fun y σ₁ z=>?_) hs)
 cases z with
 | mk L items hy hm st hit h0 turn done=>
  refine ⟨items,_,hy ▸ ItbG.led hm,fun pre σ'=>Lf σ' st ∧ pre.any hit = false,⟨h0,rfl⟩,fun pre x post σ' e l=>Asn.weak l.1 (Op1.mono (turn pre x post e l.2) fun _ σ₁ h'=>Go.mono h' fun f σ₃ z=>?_),fun σ' l=>⟨st,l.1.le,done l.2⟩,fun pre σ' l=>l.1.H ▸ h0.H ▸ hm⟩
  cases f with
  | next=>exact ⟨z.2,by rw [List.any_append,l.2];simp [z.1]⟩
  | cont=>exact ⟨z.2,by rw [List.any_append,l.2];simp [z.1]⟩
  | brk=>exact z.elim
  | ret a=>exact z
end
end Lw
end
section
open PySem PySem.Calls PySem.W PyProof.Rows
namespace Lw
section
variable {W₀:Wld} {c:Cx W₀} {σ:St} {Q:AV → St → Prop}
theorem Sim.perm {b k:Heap} {s:Shared} {H:List (Addr × AO)} (S:Sim c b k σ s) (p:σ.H.Perm H):Sim c b k { σ with H:=H } s:={ S with
 led:=fun q hq=>S.led q (p.mem_iff.mpr hq)
 nd:=(p.map (·.1)).nodup_iff.mp S.nd
 cells:=fun x a hx=>by obtain ⟨h1,h2,h3,h4,h5⟩:=S.cells x a hx;exact ⟨h1,h2,h3,h4,fun q hq=>h5 q (p.mem_iff.mpr hq)⟩ }
inductive kQp (Q:AV → St → Prop) (a:AV) (σ:St):Prop | mk (H:List (Addr × AO)) (p:σ.H.Perm H) (h:Q a { σ with H:=H })
theorem Cal.perm {f:Value} {as:List AV} {kw:List (PySem.Str × AV)} (h:Cal c f as kw σ (kQp Q)):Cal c f as kw σ Q:=fun b k s vs kvs S r rk=>
 gst (h b k s vs kvs S r rk) fun b' y σ' v s' st S' r' z=>by
  obtain ⟨H,p,q⟩:=z
  exact ⟨b',y,_,st,S'.perm p,r',q⟩
end
end Lw
end
section
open PySem PySem.Calls PySem.W PyProof.Rows
set_option maxRecDepth 20000
namespace Lw
open PySem.Builtin PySem.Builtin.Str PySem.Txt
theorem occ1 (l y:List Nat) (a:Nat) (ha:a + y.length ≤ l.length) (h:∀ i,i + y.length ≤ l.length → ((l.drop i).take y.length = y ↔ i = a)) (lim:Nat) (hlim:1 ≤ lim):occurrences (mkS l) (mkS y) 0 (mkS l).length lim = [a]:=by
 rw [StrLaws.occ_eq]
 have hlen:(mkS l).length = l.length:=by simp [mkS,PySem.Str.length]
 have hylen:(mkS y).length = y.length:=by simp [mkS,PySem.Str.length]
 have at_:∀ i,i + (mkS y).length ≤ (mkS l).length → (subAt (mkS l) (mkS y) i = true ↔ i = a):=fun i hi=>by
  rw [StrLaws.subAt_eq,beq_iff_eq,hylen]
  have:=h i (by rw [← hlen,← hylen];exact hi)
  simpa [mkS] using this
 rw [hlen,hylen] at at_
 have step:∀ (i:Nat) (st:Array Nat × Nat),i ≠ a → (StrLaws.occBody (mkS l) (mkS y) l.length lim i st) = pure (ForInStep.yield st):=fun i st hi=>by
  unfold StrLaws.occBody
  rw [if_neg fun hh=>hi ((at_ i (by have:=hh.1.2;rw [hylen] at this;exact this)).mp hh.2)]
 have key1:∀ (r:List Nat) (st:Array Nat × Nat),a ∉ r → (forIn r st (StrLaws.occBody (mkS l) (mkS y) l.length lim)).run = st:=by
  intro r
  induction r with
  | nil=>intro st _;rfl
  | cons i r ih=>
   intro st hr
   rw [List.forIn_cons,step i st (fun e=>hr (e ▸ .head _))]
   exact ih st fun hm=>hr (.tail _ hm)
 have key2:∀ (r:List Nat),a ∈ r → r.Nodup → (forIn r ((#[]:Array Nat),0) (StrLaws.occBody (mkS l) (mkS y) l.length lim)).run.fst = #[a]:=by
  intro r
  induction r with
  | nil=>intro hm;cases hm
  | cons i r ih=>
   intro hm hn
   obtain ⟨hn1,hn2⟩:=List.nodup_cons.mp hn
   by_cases e:i = a
   ·subst e
    rw [List.forIn_cons]
    have hs:StrLaws.occBody (mkS l) (mkS y) l.length lim i ((#[]:Array Nat),0) = pure (ForInStep.yield (#[i],i + (mkS y).length)):=by
     unfold StrLaws.occBody
     rw [if_pos ⟨⟨⟨hlim,Nat.zero_le _⟩,by rw [hylen];exact ha⟩,(at_ i ha).mpr rfl⟩]
     rfl
    rw [hs]
    exact congrArg Prod.fst (key1 r _ hn1)
   ·rw [List.forIn_cons,step i _ e]
    rcases List.mem_cons.mp hm with h' | h'
    ·exact absurd h'.symm e
    ·exact ih h' hn2
 rw [hlen,key2 _ (by simp [List.mem_range'];lia) (List.nodup_range' ..)]
theorem parts1 (A y B:List Nat):partsBetween (mkS (A ++ y ++ B)) [A.length] y.length = [mkS A,mkS B]:=by
 unfold partsBetween
 simp [strSub,mkS,PySem.Str.length]
 rw [List.take_of_length_le (by lia)]
section
variable {W₀:Wld} {c:Cx W₀} {σ:St} {Q:AV → St → Prop}
theorem VRs.numbered {b:Heap}:∀ {ls:List (List Nat)} (tk:Nat),ls.all okS = true → c.VRs b (ls.map .str) (strsFrom tk (ls.map mkS))
 | [],_,_=>rfl
 | l :: ls,tk,h=>by
  rw [List.all_cons,Bool.and_eq_true] at h
  exact ⟨_,_,rfl,⟨_,rfl,h.1⟩,VRs.numbered (tk + 1) h.2⟩
theorem Cal.split1 {A y B:List Nat} (hy:y ≠ []) (hk:decide (strKind (mkS (A ++ y ++ B)) < strKind (mkS y)) = false) (h1:∀ i,i + y.length ≤ (A ++ y ++ B).length → (((A ++ y ++ B).drop i).take y.length = y ↔ i = A.length))
  (hl:(A ++ y ++ B).length ≤ 100000) (h:Q (.lst [.str A,.str B]) σ):Cal c (.builtin "str.split") [.str (A ++ y ++ B),.str y] [] σ Q:=fun b k s vs kvs S r rk=>by
 obtain ⟨v,r1,rfl,⟨t,rfl,o⟩,⟨v2,r2,rfl,⟨t2,rfl,o2⟩,e⟩⟩:=r
 rw [show r2 = [] from e,show kvs = [] from List.map_eq_nil_iff.mp rk.1]
 have hlen:(mkS (A ++ y ++ B)).length = (A ++ y ++ B).length:=by simp [mkS,PySem.Str.length]
 have hylen:(mkS y).length = y.length:=by simp [mkS,PySem.Str.length]
 have ho:occurrences (mkS (A ++ y ++ B)) (mkS y) 0 (mkS (A ++ y ++ B)).length ((mkS (A ++ y ++ B)).length + 1) = [A.length]:=occ1 _ _ _ (by simp <;> lia) h1 _ (by lia)
 have okA:okS A = true:=by
  unfold okS at o ⊢
  rw [List.all_append,List.all_append,Bool.and_eq_true,Bool.and_eq_true] at o
  exact o.1.1
 have okB:okS B = true:=by
  unfold okS at o ⊢
  rw [List.all_append,Bool.and_eq_true] at o
  exact o.2
 have hp:partsBetween (mkS (A ++ y ++ B)) (occurrences (mkS (A ++ y ++ B)) (mkS y) 0 (mkS (A ++ y ++ B)).length ((mkS (A ++ y ++ B)).length + 1)) (mkS y).length = [A,B].map mkS:=by rw [ho,hylen,parts1];rfl
 refine call_meets F.slot_str_split (typeIs_str _ _ _) F.entry_str_split (F.args_str_split_2 _ _) (meets_str_split_sep (mkS (A ++ y ++ B)) (mkS y) t t2 ?_ ?_ ?_ ?_ ?_) ?_
 ·rw [hk,Bool.or_false,hlen,hylen]
  exact decide_eq_false (by simp;lia)
 ·rw [hylen];exact beq_eq_false_iff_ne.mpr fun e=>hy (List.length_eq_zero_iff.mp e)
 ·rw [ho];rfl
 ·rw [hlen,sizeLine_eq];lia
 ·rw [hp,sizeLine_eq];simp
 ·rw [hp]
  have S':=S.toks (s.toks + ([A,B].map mkS).length)
  obtain ⟨st,g,S₂⟩:=S'.newFrozen { cls:=.type "list",data:=.seq (strsFrom s.toks ([A,B].map mkS)).toArray }
  exact ⟨_,.lst [.str A,.str B],_,st,S₂,⟨_,_,rfl,⟨0,g⟩,VRs.numbered (ls:=[A,B]) s.toks (by simp [okA,okB])⟩,h⟩
end
end Lw
end
section
open PySem PySem.Calls PySem.W PyProof.Rows
set_option maxRecDepth 20000
namespace Lw
section
variable {prog:Program} {w:World} {A:Around} {E:Value → Shared → Prop}
theorem drawL {it l:Addr} {xs:Array Value} (hne:l ≠ it):∀ (n i:Nat) (s:Shared) (Q:List Value → Shared → Prop),s.heap.IsListIter it l i → s.heap.IsList l xs → n + i = xs.size →
  (∀ h',h'.IsListIter it l xs.size → h'.IsList l xs → Heap.ExtBut it s.heap h' → Q (xs.toList.drop i) { s with heap:=h' }) → wpAny (model prog w) A (draw (.ref it) n) Q E s:=by
 intro n
 induction n with
 | zero=>
  intro i s Q hit hl e hQ
  obtain rfl:i = xs.size:=by lia
  have:=hQ s.heap hit hl (fun _ _ _ e=>e)
  rw [List.drop_of_length_le (by simp)] at this
  exact wpAny_pure this
 | succ n ih=>
  intro i s Q hit hl e hQ
  have hi:i < xs.size:=by lia
  refine wpAny_bind (m:=pyNext (.ref it)) (wpAny_pyNext_list_item hit hl (x:=xs[i]) (by simp [hi]) fun h₁ hit₁ hs₁=>?_)
  have hl₁:h₁.IsList l xs:=by
   obtain ⟨o,g,x⟩:=hl
   exact ⟨o,hs₁.extBut l o hne g,x⟩
  refine wpAny_bind (wpAny_holding (ih (i + 1) _ _ hit₁ hl₁ (by lia) fun h₂ hit₂ hl₂ hs₂=>wpAny_pure ?_))
  have:=hQ h₂ hit₂ hl₂ fun q o hq g=>hs₂ q o hq (hs₁.extBut q o hq g)
  rwa [List.drop_eq_getElem_cons (by simpa using hi),Array.getElem_toList] at this
theorem unpackL {s:Shared} {l:Addr} {xs:Array Value} {Q:List Value → Shared → Prop} (hh:A.handled = none) (hl:s.heap.IsList l xs)
  (hQ:∀ h',s.heap.StaysIn h' → Q xs.toList { s with heap:=h' }):wpAny (model prog w) A (unpackItems (.ref l) xs.size none) Q E s:=by
 have hlt:l ≠ s.heap.objs.size:=by obtain ⟨o,ho,_⟩:=hl;exact Nat.ne_of_lt (Heap.lt_size ho)
 unfold unpackItems
 refine wpAny_bind ?_
 unfold notIterableAtAll
 refine wpAny_bind (wpAny_specialOf hl.typeIs slot_list_iter.lookup ?_)
 refine wpAny_pure ?_
 first | refine wpI_F (by decide) ?_ | simp only [Bool.false_eq_true,if_false]
 refine wpAny_bind (wpAny_holding (wpAny_pyIter_list hl ?_))
 have hl₁:(s.heap.push { cls:=.type "list_iterator",data:=.fields #[.ref l,.int 0 0] }).IsList l xs:=by
  obtain ⟨o,g,x⟩:=hl
  exact ⟨o,Heap.get?_push_of_some _ g,x⟩
 refine wpAny_bind (wpAny_holding (drawL hlt xs.size 0 _ _ ⟨_,Heap.get?_push_size _ rfl,rfl,rfl⟩ hl₁ rfl fun h₁ hit₁ hl₂ hs₁=>?_))
 rw [List.drop_zero,if_neg (by simp)]
 refine wpAny_bind (wpAny_holding (wpAny_pyNext_list_end hh hit₁ hl₂ (by simp) fun h₂ he₂=>?_))
 first | refine wpI_F (by decide) ?_ | simp only [Option.isSome_none,Bool.false_eq_true,if_false]
 exact wpAny_pure (hQ h₂ fun q o g=>he₂ q o (Nat.ne_of_lt (Heap.lt_size g)) (hs₁ q o (Nat.ne_of_lt (Heap.lt_size g)) (Heap.get?_push_of_some _ g)))
end
section
variable {W₀:Wld} {c:Cx W₀} {σ:St}
theorem Asn.tupL {elts:List Expr} {x1:Nat} {pos:Pos} {x:AV} {xs:List AV} {P:Unit → St → Prop} (hx:LA σ x xs) (hn:(assignEach elts c.env).length = xs.length) (h:Ord c ((assignEach elts c.env).map (·.2)) xs σ P) (hstar:(assignEach elts c.env).findIdx? (·.1) = Option.none:=by rfl) :
  Asn c (.Tuple elts x1 pos) x σ P:=fun b k s v S r=>by
 obtain ⟨a,vs,rfl,⟨n,g⟩,rv⟩:=hx.get S r
 have hs:s.heap.IsList a vs.toArray:=⟨_,g,rfl,n,rfl⟩
 rw [arm_assign_Tuple]
 refine wpAny_bind (wpAny_standAt ?_)
 unfold unpack
 rw [hn,hstar]
 rw [show xs.length = vs.toArray.size by rw [List.size_toArray,VRs.length rv]]
 refine wpAny_bind (wpAny_holding (unpackL c.hh hs fun h' st=>?_))
 exact h b k { s with heap:=h' } vs (S.grow (s':={ s with heap:=h' }) st rfl S.gens) rv
end
end Lw
end
section
open PySem PySem.Calls PySem.W PyProof.Rows
set_option maxHeartbeats 1000000
set_option maxRecDepth 20000
namespace Lw
section
variable {W₀:Wld} {c:Cx W₀} {σ:St} {Q:AV → St → Prop}
structure Lp (σ τ:St):Prop where
 m:∀ x a,τ.m.lookup x = some a → σ.m.lookup x = some a
 cl:∀ x a,τ.cl.lookup x = some a → σ.cl.lookup x = some a
 H:∃ G,σ.H.Perm (τ.H ++ G)
theorem Lp.of {σ τ:St} (h:AllIn τ.m σ.m) (h2:AllIn τ.cl σ.cl) {G:List (Addr × AO)} (h3:σ.H.Perm (τ.H ++ G)):Lp σ τ:=⟨h.sub,h2.sub,_,h3⟩
theorem Lp.sim {b k:Heap} {s:Shared} {σ τ:St} (l:Lp σ τ) (S:Sim c b k σ s):Sim c b k τ s:=by
 obtain ⟨G,p⟩:=l.H
 exact (S.perm p).weak l.m l.cl (List.sublist_append_left _ _)
theorem Go.lp {α β:Type} {R:Heap → β → α → Prop} {t:Sem α} {τ:St} {P:β → St → Prop} (l:Lp σ τ) (h:Go c R t τ P):Go c R t σ P:=fun b k s S=>h b k s (l.sim S)
theorem Op1.lp {α β:Type} {R:Heap → β → α → Prop} {f:Value → Sem α} {x:AV} {τ:St} {P:β → St → Prop} (l:Lp σ τ) (h:Op1 c R f x τ P):Op1 c R f x σ P:=fun b k s v S r=>h b k s v (l.sim S) r
theorem join_tree_str (sep:PySem.Str) (t:Tok) (x:PySem.Str) (u:Tok):Builtin.«str.join» ⟨[.str sep t,.str x u],[]⟩ = (do
  let it ← (pyIter (.str x u)).tryCatch fun e=>do
   if ← isInstance e (.type "TypeError") then rule "str.join.not-iterable";raiseError "TypeError" "can only join an iterable" else throw e
  let items ← collect it
  joinTail sep items):=rfl
noncomputable abbrev kAd (D:Addr) (m cl:List (PySem.Str × AV)) (H:List (Addr × AO)) (acc:List AV) (σ:St):Prop:=Lf σ ⟨m,cl,(D,.list acc) :: H⟩
noncomputable abbrev kLf1 (D:Addr) (m cl:List (PySem.Str × AV)) (H:List (Addr × AO)) (acc ys:List AV) (y:AV) (σ:St):Prop:=ys = [y] ∧ Lf σ ⟨m,cl,(D,.list acc) :: H⟩
theorem Emi.leaf {elt:Expr} {gens:List Comprehension} {scope:Scope} {pos:Pos} {d:Nat} {D:Addr} {m cl m' cl':List (PySem.Str × AV)} {H:List (Addr × AO)} {acc ys:List AV} (hg:gens[d + 1]? = none) (hl:acc.length ≤ sizeLine)
  (h:Ev c elt ⟨m',cl',(D,.list acc) :: H⟩ (kLf1 D m cl H acc ys)):Emi c (.ListComp elt gens scope pos) gens d D ⟨m',cl',(D,.list acc) :: H⟩ (kAd D m cl H (acc ++ ys)):=by
 refine Emi.lst hg (Go.mono h fun y σ₁ ⟨e,l⟩=>⟨[],acc,H,l.H,hl,?_⟩)
 subst e
 exact ⟨l.m,l.cl,rfl⟩
inductive kNs {W₀:Wld} (c:Cx W₀) (e:Expr) (gens:List Comprehension) (g:Comprehension) (d:Nat) (D:Addr) (m cl m' cl':List (PySem.Str × AV)) (H:List (Addr × AO)) (acc ys:List AV) (y:AV) (σ:St):Prop
 | mk (items:List AV) (F:AV → List AV) (B:Nat) (hi:Itb c y σ items) (l:Lf σ ⟨m',cl',(D,.list acc) :: H⟩) (lm:∀ x a,m.lookup x = some a → m'.lookup x = some a) (lc:∀ x a,cl.lookup x = some a → cl'.lookup x = some a) (hB:∀ x ∈ items,(F x).length ≤ B) (he:items.flatMap F = ys)
  (turn:∀ acc' x,x ∈ items → acc'.length ≤ acc.length + items.length * B → Asn c g.target x ⟨m',cl',(D,.list acc') :: H⟩ (kEm c g.ifs e gens (d + 1) D (kAd D m' cl' H (acc' ++ F x))))
theorem flat_len {F:AV → List AV} {B:Nat}:∀ {l:List AV},(∀ x ∈ l,(F x).length ≤ B) → (l.flatMap F).length ≤ l.length * B
 | [],_=>Nat.zero_le _
 | x :: r,h=>by
  have h1:=h x (.head _)
  have h2:=flat_len (F:=F) (B:=B) (l:=r) fun y hy=>h y (.tail _ hy)
  rw [List.flatMap_cons,List.length_append,List.length_cons,Nat.succ_mul];lia
theorem Emi.nestS {e:Expr} {gens:List Comprehension} {d:Nat} {g':Comprehension} {D:Addr} {m cl m' cl':List (PySem.Str × AV)} {H:List (Addr × AO)} {acc ys:List AV} (hc:IsC e gens) (hg:gens[d + 1]? = some g') (ha:(g'.is_async != 0) = false)
  (hs:∀ x,foldedSetIterable g'.iter c.env x = pure x) (h:Ev c g'.iter ⟨m',cl',(D,.list acc) :: H⟩ (kNs c e gens g' d D m cl m' cl' H acc ys)):Emi c e gens d D ⟨m',cl',(D,.list acc) :: H⟩ (kAd D m cl H (acc ++ ys)):=by
 refine Emi.nest hc hg ha (Go.mono h fun y σ₁ z=>?_) hs
 obtain ⟨items,F,B,hi,l,lm,lc,hB,he,turn⟩:=z
 refine ⟨items,hi,fun pre σ'=>Lf σ' ⟨m',cl',(D,.list (acc ++ pre.flatMap F)) :: H⟩,?_,fun pre x post σ' e' l'=>?_,fun σ₂ l₂=>?_⟩
 ·show Lf σ₁ ⟨m',cl',(D,.list (acc ++ [])) :: H⟩
  rw [List.append_nil];exact l
 ·have hsub:∀ y ∈ pre,y ∈ items:=fun y hy=>by rw [e'];exact List.mem_append_left _ hy
  have hlen:(acc ++ pre.flatMap F).length ≤ acc.length + items.length * B:=by
   have h1:=flat_len (F:=F) (B:=B) (l:=pre) fun y hy=>hB y (hsub y hy)
   have h2:pre.length ≤ items.length:=by rw [e'];simp
   have h3:=Nat.mul_le_mul_right B h2
   rw [List.length_append];lia
  have t:=turn (acc ++ pre.flatMap F) x (by rw [e'];simp) hlen
  refine Op1.weakP l' ?_
  show Asn c g'.target x _ (kEm c g'.ifs e gens (d + 1) D (kAd D m' cl' H (acc ++ (pre ++ [x]).flatMap F)))
  rw [show acc ++ (pre ++ [x]).flatMap F = acc ++ pre.flatMap F ++ F x by rw [List.flatMap_append,List.append_assoc];simp]
  exact t
 ·dsimp only at l₂
  rw [he] at l₂
  exact ⟨fun x a e=>l₂.m x a (lm x a e),fun x a e=>l₂.cl x a (lc x a e),l₂.H⟩
inductive kNo {W₀:Wld} (c:Cx W₀) (e:Expr) (g:Comprehension) (gs:List Comprehension) (scope:Scope) (hk:scope.kind = .function) (Q:AV → St → Prop) (y:AV) (σ:St):Prop
 | mk (items:List AV) (Ok:St → Prop) (F:AV → List AV) (B:Nat) (hi:ItbG c y σ items Ok) (hB:∀ x ∈ items,(F x).length ≤ B)
  (hOk:∀ D acc σ',(∀ q ∈ σ.H,q.1 ≠ D) → Lf σ' ⟨[],seen σ scope,(D,.list acc) :: σ.H⟩ → Ok σ')
  (turn:∀ D C acc x,(∀ q ∈ σ.H,q.1 ≠ D) → x ∈ items → acc.length ≤ items.length * B → Asn (compCx c scope hk C) g.target x ⟨[],seen σ scope,(D,.list acc) :: σ.H⟩ (kEm (compCx c scope hk C) g.ifs e (g :: gs) 0 D (kAd D [] (seen σ scope) σ.H (acc ++ F x))))
  (h:∀ D,(∀ q ∈ σ.H,q.1 ≠ D) → Frz Q (.ref D) { σ with H:=(D,.list (items.flatMap F)) :: σ.H })
theorem Ev.lcN {elt:Expr} {g:Comprehension} {gs:List Comprehension} {scope:Scope} {pos:Pos} (hk:scope.kind = .function) (h:Ev c g.iter σ (kNo c (.ListComp elt (g :: gs) scope pos) g gs scope hk Q))
  (hfree:(scope.names.all fun x=>!(x.2 == .free) || (c.env.cells.lookup x.1).isSome) = true) (hnames:(scope.names.all fun x=>!(x.2 == .local) || scope.names.lookup x.1 == some .local) = true) (ha:(g.is_async != 0) = false)
  (hs:∀ x,foldedSetIterable g.iter c.env x = pure x):Ev c (.ListComp elt (g :: gs) scope pos) σ Q:=by
 obtain ⟨gt,gi,gf,gas⟩:=g
 refine comp_plainG (pos:=pos) CK.lst hk ha hfree (fun x hx hl=>by have:=List.all_eq_true.mp hnames x hx;simpa [hl] using this) (Go.mono h fun v σ₁ z=>?_) hs (by with_unfolding_all rfl)
 obtain ⟨items,Ok,F,B,hi,hB,hOk,turn,hq⟩:=z
 refine ⟨items,Ok,hi,fun D C hD=>⟨fun pre σ'=>Lf σ' ⟨[],seen σ₁ scope,(D,.list (pre.flatMap F)) :: σ₁.H⟩,⟨fun _ _ e=>e,fun _ _ e=>e,rfl⟩,fun pre x post σ' e' l'=>?_,fun σ₂ l₂=>⟨[],.list (items.flatMap F),σ₁.H,l₂.H,hq D hD⟩,fun pre σ' l'=>hOk D _ σ' hD l'⟩⟩
 have hsub:∀ y ∈ pre,y ∈ items:=fun y hy=>by rw [e'];exact List.mem_append_left _ hy
 have hlen:(pre.flatMap F).length ≤ items.length * B:=by
  have h1:=flat_len (F:=F) (B:=B) (l:=pre) fun y hy=>hB y (hsub y hy)
  have h2:pre.length ≤ items.length:=by rw [e'];simp
  exact Nat.le_trans h1 (Nat.mul_le_mul_right B h2)
 have t:=turn D C (pre.flatMap F) x hD (by rw [e'];simp) hlen
 refine Op1.weakP l' ?_
 show Asn _ gt x _ (kEm (compCx c scope hk C) gf _ _ 0 D (kAd D [] (seen σ₁ scope) σ₁.H ((pre ++ [x]).flatMap F)))
 rw [show (pre ++ [x]).flatMap F = pre.flatMap F ++ F x by rw [List.flatMap_append];simp]
 exact t
end
end Lw
end
section
open PySem PySem.Calls PySem.W PyProof.Rows
namespace Lw
section
variable {prog:Program} {w:World} {A:Around} {E:Value → Shared → Prop} {s:Shared}
noncomputable def NoRefs (es:List (Int × Value)):Prop:=∀ e ∈ es,e.2.scannable = true
theorem NoRefs.of {knd:KeyKind prog w Int} {es:List (Int × Value)} (h:ElemsOf knd es):NoRefs es:=fun e he=>(h e he).2
theorem quiet_sets {l:List Addr} {Q:Bool → Shared → Prop} (h:∀ a ∈ l,∃ o es ep t,s.heap.get? a = some o ∧ o.data = .set es ep t ∧ t.fits es.size = true ∧ NoRefs es.toList) (q:Q true s):wpAny (model prog w) A (setsQuiet l) Q E s:=by
 unfold setsQuiet
 refine wpAny_bind ?_
 refine wpAny_forIn_list _ (fun rest r s'=>r.1 = none ∧ s' = s ∧ ∀ a ∈ rest,a ∈ l) _ ?_ ?_ _ _ ⟨rfl,rfl,fun a h=>h⟩
 ·rintro a rest r s' ⟨hr,rfl,hall⟩
  obtain ⟨o,es,ep,t,ho,hd,hf,hn⟩:=h a (hall a (.head _))
  refine wpAny_bind (wpAny_setEntries_of ho hd hf ?_)
  refine wpAny_bind ?_
  rw [← Array.forIn_toList]
  refine wpAny_forIn_list _ (fun rest r s''=>r.1 = none ∧ s'' = s' ∧ NoRefs rest) _ ?_ ?_ _ _ ⟨rfl,rfl,hn⟩
  ·rintro ⟨hh,x⟩ rest' r' s'' ⟨hr',rfl,hn'⟩
   have hx:x.scannable = true:=hn' _ (.head _)
   cases x <;> first | exact wpAny_pure ⟨rfl,rfl,fun e he=>hn' e (.tail _ he)⟩ | cases hx
  ·rintro ⟨r1,r2⟩ s'' ⟨hr',rfl,_⟩
   dsimp only at hr'
   subst hr'
   exact wpAny_pure ⟨rfl,rfl,fun a ha=>hall a (.tail _ ha)⟩
 ·rintro ⟨r1,r2⟩ s' ⟨hr,rfl,_⟩
  dsimp only at hr
  subst hr
  exact wpAny_pure q
theorem pick_perm {α:Type} (next:Nat → Nat) (xs:Array α):(pickOrder next xs).toList.Perm xs.toList:=by
 have key:∀ (fuel k:Nat) (left:List α) (out:Array α),left.length ≤ fuel → (pickOrder.go next fuel k left out).toList.Perm (out.toList ++ left):=by
  intro fuel
  induction fuel with
  | zero=>
   intro k left out h
   rw [List.length_eq_zero_iff.mp (Nat.le_zero.mp h),List.append_nil]
   exact List.Perm.refl _
  | succ fuel ih=>
   intro k left out h
   unfold pickOrder.go
   cases left with
   | nil=>
    rw [List.append_nil]
    exact List.Perm.refl _
   | cons x left=>
    have hlt:next k % (x :: left).length < (x :: left).length:=Nat.mod_lt _ (Nat.succ_pos _)
    rw [List.getElem?_eq_getElem hlt]
    dsimp only
    refine (ih _ _ _ (by rw [List.length_eraseIdx_of_lt hlt];exact Nat.pred_le_pred h)).trans ?_
    rw [Array.toList_push,List.append_assoc]
    refine List.Perm.append_left _ ?_
    generalize next k % (x :: left).length = j at hlt ⊢
    generalize x :: left = l at hlt ⊢
    rw [List.eraseIdx_eq_take_drop_succ]
    conv=>rhs;rw [← List.take_append_drop j l,List.drop_eq_getElem_cons hlt]
    show (l[j] :: (List.take j l ++ List.drop (j + 1) l)).Perm _
    exact (List.perm_middle (a:=l[j])).symm
 exact (key xs.size 0 xs.toList #[] (by simp)).trans (by simp)
theorem walk_plain {a:Addr} {o:Obj} {es:Array (Int × Value)} {ep:Nat} {t:SetTable} {Q:Array (Int × Value) → Shared → Prop} (ho:s.heap.get? a = some o) (hd:o.data = .set es ep t) (hf:t.fits es.size = true)
  (hfl:w.params.followText "set-order" = true ∨ (t.led = true ∧ t.plain = true) ∨ es.size ≤ 1) (h:∀ es',es'.toList.Perm es.toList → Q es' s):wpAny (model prog w) A (setWalk a) Q E s:=by
 unfold setWalk setsByText
 refine wpAny_bind (wpAny_setState_of ho hd hf ?_)
 dsimp only
 refine wpAny_bind (wpAny_bind (wpAny_askSetting (wpAny_pure ?_)))
 cases hb:w.params.followText "set-order" with
 | true=>
  refine wpI_T hb ?_
  refine wpAny_bind (wpAny_askSetting (wpAny_pure (h _ (pick_perm _ _))))
 | false=>
  refine wpI_F (fun e=>by have:=hb.symm.trans e;cases this) ?_
  have fl:(t.led = true ∧ t.plain = true) ∨ es.size ≤ 1:=hfl.resolve_left fun e=>by rw [hb] at e;cases e
  show wpAny _ _ (if (!t.plain && decide (es.size > 1)) = true then _ else ((if (!t.led && decide (es.size > 1)) = true then unsupported "set:maker-not-led" else pure ()) >>= fun _=>pure es)) Q E s
  have n1:¬ (!t.plain && decide (es.size > 1)) = true:=fun e=>by
   rw [Bool.and_eq_true,Bool.not_eq_true',decide_eq_true_eq] at e
   rcases fl with fl | fl
   ·rw [fl.2] at e;cases e.1
   ·lia
  have n2:¬ (!t.led && decide (es.size > 1)) = true:=fun e=>by
   rw [Bool.and_eq_true,Bool.not_eq_true',decide_eq_true_eq] at e
   rcases fl with fl | fl
   ·rw [fl.1] at e;cases e.1
   ·lia
  refine wpI_F n1 ?_
  exact wpAny_bind (wpI_F n2 (wpAny_pure (wpAny_pure (h _ (List.Perm.refl _)))))
theorem walk_unseen {knd:KeyKind prog w Int} {a f:Addr} {o:Obj} {es:Array (Int × Value)} {ep:Nat} {t:SetTable} {S:Int → Bool} {n:Nat} {Q:Array (Int × Value) → Shared → Prop} (ho:s.heap.get? a = some o) (hd:o.data = .set es ep t) (hf:t.fits es.size = true) (he:NoRefs es.toList) (hne:a ≠ f) (hS:s.heap.SetOf knd f S n)
  (h:∀ es' h',es'.toList.Perm es.toList → Heap.SameBut f s.heap h' → h'.SetOf knd f S n → Q es' { s with heap:=h' }):wpAny (model prog w) A (setWalkUnseen a [f] (some f)) Q E s:=by
 have h0:∀ es',es'.toList.Perm es.toList → Q es' s:=fun es' p=>h es' s.heap p (Heap.SameBut.refl f s.heap) hS
 unfold setWalkUnseen setsByText
 refine wpAny_bind (wpAny_setState_of ho hd hf ?_)
 dsimp only
 refine wpAny_bind (wpAny_bind (wpAny_askSetting (wpAny_pure ?_)))
 by_cases c:(w.params.followText "set-order" || (t.led && t.plain) || decide (es.size ≤ 1)) = true
 ·refine wpI_T c ?_
  refine walk_plain ho hd hf ?_ h0
  rw [Bool.or_eq_true,Bool.or_eq_true,Bool.and_eq_true,decide_eq_true_eq] at c
  rcases c with (c | c) | c
  ·exact .inl c
  ·exact .inr (.inl c)
  ·exact .inr (.inr c)
 ·refine wpI_F c ?_
  obtain ⟨o2,es2,ep2,t2,ho2,hex2,hd2,hel2,hmem2,hb2,hf2,hn2⟩:=hS
  refine wpAny_bind (quiet_sets (fun b hb=>?_) ?_)
  ·rcases List.mem_cons.mp hb with rfl | hb
   ·exact ⟨o,es,ep,t,ho,hd,hf,he⟩
   ·rw [List.mem_singleton.mp hb]
    exact ⟨o2,es2,ep2,t2,ho2,hd2,hf2,NoRefs.of hel2⟩
  refine wpI_F (by decide) (wpAny_bind (wpAny_rule (wpAny_bind (wpAny_setState_of ho2 hd2 hf2 ?_))))
  dsimp only
  by_cases c2:(t2.led && !t.led || t2.plain && !t.plain) = true
  ·refine wpI_T c2 (wpAny_bind (wpAny_storeSet_of ho2 hd2 ?_ (fits_of_scanBound hb2)))
   obtain ⟨hg,hS2⟩:=SetOf_store (knd:=knd) (t':={ t2 with led:=t2.led && t.led,plain:=t2.plain && t.plain }) ho2 hex2 hd2 hel2 hmem2 hb2 (by cases t2;exact hf2)
   rw [hn2] at hS2
   exact wpAny_pure (h _ _ (List.Perm.refl _) (Heap.SameBut.update s.heap f _) hS2)
  ·exact wpI_F c2 (wpAny_pure (h0 _ (List.Perm.refl _)))
noncomputable def SI (S:Nat → Bool) (k:Int):Bool:=decide (0 ≤ k) && (decide (k < 5) && S k.toNat)
noncomputable def cd5 (S:Nat → Bool):Nat:=((List.range 5).filter S).length
theorem nodup_len:∀ {f l:List Nat},f.Nodup → (∀ x ∈ f,x ∈ l) → l.length ≤ f.length → l.Nodup
 | [],l,_,_,h=>by rw [List.length_eq_zero_iff.mp (Nat.le_zero.mp h)];exact List.nodup_nil
 | a :: f,l,hn,hs,h=>by
  obtain ⟨ha,hf⟩:=List.nodup_cons.mp hn
  have hal:=hs a (.head _)
  have hl:(l.erase a).length = l.length - 1:=List.length_erase_of_mem hal
  have hsub:∀ x ∈ f,x ∈ l.erase a:=fun x hx=>(List.mem_erase_of_ne (a:=x) (b:=a) (fun e=>ha (by rw [← e];exact hx))).mpr (hs x (.tail _ hx))
  have hle:(l.erase a).length ≤ f.length:=by rw [hl];exact Nat.sub_le_of_le_add h
  have ih:=nodup_len hf hsub hle
  have hna:a ∉ l.erase a:=fun hm=>by
   have:=List.Nodup.length_le_of_subset hn (l₂:=l.erase a) fun x hx=>by
    rcases List.mem_cons.mp hx with rfl | hx
    ·exact hm
    ·exact hsub x hx
   exact Nat.not_succ_le_self _ (Nat.le_trans this hle)
  exact (List.perm_cons_erase hal).nodup_iff.mpr (List.nodup_cons.mpr ⟨hna,ih⟩)
noncomputable def rows5:Nat → List (List Nat)
 | 0=>[[]]
 | n + 1=>[] :: (List.range 5).flatMap fun x=>((rows5 n).filter fun l=>!l.contains x).map fun l=>x :: l
theorem rows5_mem:∀ {n:Nat} {l:List Nat},l.Nodup → (∀ x ∈ l,x < 5) → l.length ≤ n → l ∈ rows5 n
 | 0,l,_,_,h=>by rw [List.length_eq_zero_iff.mp (Nat.le_zero.mp h)];exact .head _
 | n + 1,[],_,_,_=>.head _
 | n + 1,x :: l,hn,hx,h=>by
  obtain ⟨h1,h2⟩:=List.nodup_cons.mp hn
  refine .tail _ (List.mem_flatMap.mpr ⟨x,List.mem_range.mpr (hx x (.head _)),List.mem_map.mpr ⟨l,List.mem_filter.mpr ⟨rows5_mem h2 (fun y hy=>hx y (.tail _ hy)) (Nat.le_of_succ_le_succ h),?_⟩,rfl⟩⟩)
  rw [Bool.not_eq_true',← Bool.not_eq_true,List.contains_iff_mem]
  exact h1
theorem free_hit {m:Nat} {owner:Array (Option Nat)} {i p n:Nat} (h:owner.getD i (some 0) = none):SetTable.layClean.free m owner (n + 1) i p = some i:=by
 unfold SetTable.layClean.free
 have h1:i ≤ SetTable.runEnd m i:=by unfold SetTable.runEnd;split <;> lia
 rw [show SetTable.runEnd m i + 1 - i = (SetTable.runEnd m i - i) + 1 from Nat.succ_sub h1,List.range_succ_eq_map,List.find?_cons,Nat.add_zero,h]
 rfl
theorem bits_small {i:Nat} (h:i < 5):SetTable.bits (i:Int) = i:=by
 unfold SetTable.bits
 rw [Int.emod_eq_of_lt (Int.natCast_nonneg i) (by lia)];rfl
noncomputable def layStep (m:Nat) (acc:Option (Array (Option Nat) × Nat)) (h:Int):Option (Array (Option Nat) × Nat):=do
 let (owner,k) ← acc
 let j ← SetTable.layClean.free m owner (SetTable.turns m) (SetTable.bits h % (m + 1)) (SetTable.bits h)
 pure (owner.setIfInBounds j (some k),k + 1)
theorem idx_snoc (pre:List Nat) (x j:Nat):(pre ++ [x]).idxOf? j = (pre.idxOf? j).or (if x == j then some pre.length else none):=by
 show List.findIdx? (· == j) (pre ++ [x]) = _
 rw [List.findIdx?_append]
 show (pre.idxOf? j).or _ = _
 congr 1
 rw [List.findIdx?_cons,List.findIdx?_nil]
 split <;> simp
theorem lay_fold {m:Nat} (hm:7 ≤ m):∀ (l pre:List Nat) (owner:Array (Option Nat)),(pre ++ l).Nodup → (∀ x ∈ l,x < 5) → owner.size = m + 1 → (∀ j,owner.getD j none = pre.idxOf? j) →
  ∃ o2,(l.map fun (i:Nat)=>(i:Int)).foldl (layStep m) (some (owner,pre.length)) = some (o2,(pre ++ l).length) ∧ ∀ j,o2.getD j none = (pre ++ l).idxOf? j
 | [],pre,owner,_,_,_,ho=>by rw [List.append_nil];exact ⟨owner,rfl,ho⟩
 | x :: l,pre,owner,hn,hx,hs,ho=>by
  have x5:=hx x (.head _)
  have hxp:x ∉ pre:=fun hm=>by
   have:=(List.nodup_append.mp hn).2.2 x hm x (.head _)
   exact this rfl
  have hnone:pre.idxOf? x = none:=List.idxOf?_eq_none_iff.mpr hxp
  have hx1:owner.getD x (some 0) = none:=by
   have:=ho x
   rw [hnone] at this
   rw [Array.getD_eq_getD_getElem?] at this ⊢
   rw [Array.getElem?_eq_getElem (show x < owner.size by lia)] at this ⊢
   exact this
  have step:layStep m (some (owner,pre.length)) (x:Int) = some (owner.setIfInBounds x (some pre.length),pre.length + 1):=by
   show (SetTable.layClean.free m owner (SetTable.turns m) (SetTable.bits (x:Int) % (m + 1)) (SetTable.bits (x:Int)) >>= fun j=>pure (owner.setIfInBounds j (some pre.length),pre.length + 1)) = _
   rw [bits_small x5,Nat.mod_eq_of_lt (by lia),show SetTable.turns m = (m + 14) + 1 from rfl,free_hit hx1];rfl
  have h2:=lay_fold hm l (pre ++ [x]) (owner.setIfInBounds x (some pre.length)) (by rw [List.append_assoc];exact hn) (fun y hy=>hx y (.tail _ hy)) (by rw [Array.size_setIfInBounds];exact hs) fun j=>by
   rw [Array.getD_eq_getD_getElem?,Array.getElem?_setIfInBounds]
   have hoj:=ho j
   rw [Array.getD_eq_getD_getElem?] at hoj
   by_cases e:x = j
   ·subst e
    rw [if_pos rfl,if_pos (show x < owner.size by lia),idx_snoc,hnone,if_pos (beq_self_eq_true x)];rfl
   ·rw [if_neg e,hoj,idx_snoc,if_neg (fun h=>e (beq_iff_eq.mp h)),Option.or_none]
  rw [List.append_assoc,List.length_append,List.length_singleton] at h2
  rw [List.map_cons,List.foldl_cons,step]
  exact h2
noncomputable def liveP (l:List Nat):List (Nat × Nat):=(List.range 5).filterMap fun j=>(l.idxOf? j).map (j,·)
theorem live_ok:∀ l ∈ rows5 5,((liveP l).length == l.length && ((liveP l).map (·.2)).isPerm (List.range l.length)) = true:=by decide +kernel
theorem laid_ok {l:List Nat} (hl:l.Nodup) (hx:∀ x ∈ l,x < 5) (h5:l.length ≤ 5) {m:Nat} (hm:7 ≤ m) (f mv:Nat) (led pn:Bool):∃ p o,SetTable.laid m f mv led pn (l.map fun (i:Nat)=>(i:Int)).toArray = some (⟨m,p,#[],f,led,mv,pn⟩,o) ∧ p.size = l.length ∧ o.toList.Perm (List.range l.length):=by
 obtain ⟨o2,h1,h2⟩:=lay_fold hm l [] (Array.replicate (m + 1) none) hl hx Array.size_replicate fun j=>by
  rw [Array.getD_eq_getD_getElem?,Array.getElem?_replicate]
  split <;> rfl
 have h3:SetTable.layClean m (l.map fun (i:Nat)=>(i:Int)).toArray = some o2:=by
  show (((l.map fun (i:Nat)=>(i:Int)).toArray.foldl (layStep m) (some (Array.replicate (m + 1) none,0))).map (·.1)) = _
  rw [List.foldl_toArray,show (0:Nat) = ([]:List Nat).length from rfl,h1];rfl
 have h4:((List.range (m + 1)).filterMap fun j=>(o2.getD j none).map fun k=>(j,k)) = liveP l:=by
  unfold liveP
  rw [show m + 1 = 5 + (m - 4) by lia,List.range_add,List.filterMap_append]
  rw [show (fun j=>(o2.getD j none).map fun k=>(j,k)) = fun j=>(l.idxOf? j).map (j,·) from funext fun j=>by rw [h2 j];rfl]
  refine (congrArg (List.filterMap (fun j=>(l.idxOf? j).map (j,·)) (List.range 5) ++ ·) (List.filterMap_eq_nil_iff.mpr fun j hj=>?_)).trans (List.append_nil _)
  obtain ⟨k,_,rfl⟩:=List.mem_map.mp hj
  rw [List.idxOf?_eq_none_iff.mpr fun hm=>by have:=hx _ hm;lia];rfl
 have k:=live_ok l (rows5_mem hl hx h5)
 rw [Bool.and_eq_true,beq_iff_eq,List.isPerm_iff] at k
 refine ⟨((liveP l).map (·.1)).toArray,((liveP l).map (·.2)).toArray,?_,by rw [List.size_toArray,List.length_map];exact k.1,k.2⟩
 unfold SetTable.laid
 rw [h3]
 show some _ = some _
 rw [← h4]
theorem hash_small {k:Int} (h0:0 ≤ k) (h5:k < 5):hashInt k = k:=by
 obtain ⟨n,rfl⟩:=Int.eq_ofNat_of_zero_le h0
 have key:∀ n < 5,hashInt ((n:Nat):Int) = n:=by decide
 exact key n (by lia)
theorem SI_of {S:Nat → Bool} {k:Int} (h:SI S k = true):0 ≤ k ∧ k < 5 ∧ S k.toNat = true:=by
 unfold SI at h
 rw [Bool.and_eq_true,Bool.and_eq_true,decide_eq_true_eq,decide_eq_true_eq] at h
 exact ⟨h.1,h.2.1,h.2.2⟩
theorem SI_nat {S:Nat → Bool} {i:Nat} (h:i < 5):SI S (i:Int) = S i:=by
 unfold SI
 rw [decide_eq_true (Int.natCast_nonneg i),decide_eq_true (show (i:Int) < 5 by lia)];rfl
theorem cd5_le (S:Nat → Bool):cd5 S ≤ 5:=Nat.le_trans (List.length_filter_le _ _) (Nat.le_of_eq List.length_range)
theorem keys_of {S:Nat → Bool} {es:List (Int × Value)} (hel:ElemsOf (intKind prog w) es) (hmem:∀ k,SI S k = true ↔ ∃ e ∈ es,(intKind prog w).is k e.2 = true) (hn:es.length = cd5 S) :
  ∃ ks:List Nat,es.map (·.1) = ks.map (fun (i:Nat)=>(i:Int)) ∧ ks.Nodup ∧ (∀ x ∈ ks,x < 5) ∧ ks.length = cd5 S ∧ (∀ i < 5,S i = true ↔ i ∈ ks) ∧ ∀ e ∈ es,(intKind prog w).is e.1 e.2 = true:=by
 have one:∀ e ∈ es,(0 ≤ e.1 ∧ e.1 < 5) ∧ S e.1.toNat = true ∧ (intKind prog w).is e.1 e.2 = true:=fun e he=>by
  obtain ⟨⟨k,hk,hh⟩,_⟩:=hel e he
  obtain ⟨h0,h5,hs⟩:=SI_of ((hmem k).mpr ⟨e,he,hk⟩)
  have:e.1 = k:=hh.trans (hash_small h0 h5)
  rw [this]
  exact ⟨⟨h0,h5⟩,hs,hk⟩
 have hlen:(es.map fun e=>e.1.toNat).length = cd5 S:=by rw [List.length_map];exact hn
 have hin:∀ i < 5,S i = true ↔ i ∈ es.map fun e=>e.1.toNat:=fun i hi=>by
  constructor
  ·intro hs
   obtain ⟨e,he,hk⟩:=(hmem (i:Int)).mp (by rw [SI_nat hi];exact hs)
   obtain ⟨⟨k,hk',hh⟩,_⟩:=hel e he
   have hki:(i:Int) = k:=(intKind prog w).inj _ _ _ hk hk'
   obtain ⟨h0,h5,_⟩:=SI_of ((hmem k).mpr ⟨e,he,hk'⟩)
   have:e.1 = k:=hh.trans (hash_small h0 h5)
   exact List.mem_map.mpr ⟨e,he,by rw [this,← hki];rfl⟩
  ·intro hm
   obtain ⟨e,he,rfl⟩:=List.mem_map.mp hm
   exact (one e he).2.1
 refine ⟨es.map fun e=>e.1.toNat,?_,?_,?_,hlen,hin,fun e he=>(one e he).2.2⟩
 ·rw [List.map_map]
  exact List.map_congr_left fun e he=>(Int.toNat_of_nonneg (one e he).1.1).symm
 ·refine nodup_len (f:=(List.range 5).filter S) (List.nodup_range.filter _) (fun i hi=>?_) (Nat.le_of_eq hlen)
  obtain ⟨h1,h2⟩:=List.mem_filter.mp hi
  exact (hin i (List.mem_range.mp h1)).mp h2
 ·intro x hx
  obtain ⟨e,he,rfl⟩:=List.mem_map.mp hx
  have:=(one e he).1
  lia
theorem pick_es {es:Array (Int × Value)} {o:Array Nat} (h:o.toList.Perm (List.range es.size)):(o.filterMap (es[·]?)).toList.Perm es.toList:=by
 rw [Array.toList_filterMap]
 refine (h.filterMap _).trans ?_
 have h1:=pick_range es.toList 0 es.size (by simp)
 rw [show ((List.range es.size).map fun i=>0 + i) = List.range es.size by simp] at h1
 rw [List.drop_zero,List.take_of_length_le (by simp)] at h1
 rw [show (fun x=>es[x]?) = fun x=>es.toList[x]? from funext fun x=>by simp,h1]
theorem above_small {n:Nat} (h:n ≤ 20):7 ≤ SetTable.sizeAbove n - 1 ∧ SetTable.sizeAbove n ≤ 32:=by
 have key:∀ n ≤ 20,7 ≤ SetTable.sizeAbove n - 1 ∧ SetTable.sizeAbove n ≤ 32:=by decide +kernel
 exact key n h
noncomputable def MaskOk (h:Heap) (a:Addr):Prop:=∀ o es ep t,h.get? a = some o → o.data = .set es ep t → 7 ≤ t.mask
theorem relay_few {a:Addr} {S:Nat → Bool} {n:Nat} {Q:Unit → Shared → Prop} (hS:s.heap.SetOf (intKind prog w) a (SI S) (cd5 S)) (hn:n ≤ 20) (h:∀ h',Heap.SameBut a s.heap h' → h'.SetOf (intKind prog w) a (SI S) (cd5 S) → MaskOk h' a → Q () { s with heap:=h' }) :
  wpAny (model prog w) A (setRelay a n) Q E s:=by
 obtain ⟨o,es,ep,t,ho,hex,hd,hel,hmem,hb,hf,hn5⟩:=hS
 obtain ⟨ks,h1,h2,h3,h4,h6,_⟩:=keys_of hel hmem (by rw [Array.length_toList];exact hn5)
 obtain ⟨b1,b2⟩:=above_small hn
 unfold setRelay
 refine wpAny_bind (wpAny_setState_of ho hd hf ?_)
 dsimp only
 refine wpI_F (by rw [sizeLine_eq];lia) ?_
 obtain ⟨p,od,e1,e2,e3⟩:=laid_ok h2 h3 (by rw [h4];exact cd5_le S) b1 t.finger (t.movedTo (SetTable.sizeAbove n - 1)) t.led t.plain
 have e1':t.relaid (es.map (·.1)) n = some (⟨SetTable.sizeAbove n - 1,p,#[],t.finger,t.led,t.movedTo (SetTable.sizeAbove n - 1),t.plain⟩,od):=by
  unfold SetTable.relaid
  rw [show es.map (·.1) = (ks.map fun (i:Nat)=>(i:Int)).toArray by rw [← h1,← Array.toList_map]]
  exact e1
 rw [e1']
 have hp:=pick_es (es:=es) (o:=od) (by rw [← Array.length_toList,← List.length_map (f:=(·.1)),h1,List.length_map];exact e3)
 have hsz:(od.filterMap (es[·]?)).size = es.size:=by rw [← Array.length_toList,hp.length_eq,Array.length_toList]
 refine wpAny_bind ?_
 show wpAny _ _ (if ((od.filterMap (es[·]?)).size != es.size) = true then _ else _) _ _ _
 refine wpI_F (by rw [hsz,bne_self_eq_false];decide) ?_
 refine wpAny_pure ?_
 have hf2:(⟨SetTable.sizeAbove n - 1,p,#[],t.finger,t.led,t.movedTo (SetTable.sizeAbove n - 1),t.plain⟩:SetTable).fits (od.filterMap (es[·]?)).size = true:=by
  show (p.size == _ && decide (p.size + 0 ≤ SetTable.sizeAbove n - 1)) = true
  have:=cd5_le S
  rw [Bool.and_eq_true,beq_iff_eq,decide_eq_true_eq,e2,hsz,h4,hn5]
  exact ⟨rfl,by lia⟩
 have hb2:(od.filterMap (es[·]?)).size < scanBound:=by rw [hsz];exact hb
 refine wpAny_storeSet_of ho hd ?_ (fits_of_scanBound hb2)
 obtain ⟨hg2,hS2⟩:=SetOf_store (knd:=intKind prog w) ho hex hd (hel.perm hp) (S':=SI S) (fun k=>(hmem k).trans ⟨fun ⟨e,he,q⟩=>⟨e,hp.mem_iff.mpr he,q⟩,fun ⟨e,he,q⟩=>⟨e,hp.mem_iff.mp he,q⟩⟩) hb2 hf2
 rw [hsz,hn5] at hS2
 refine h _ (Heap.SameBut.update s.heap a _) hS2 fun o' es' ep' t' e1 e2=>?_
 rw [hg2] at e1
 cases e1
 cases e2
 exact b1
theorem filt_add {S:Nat → Bool} {k:Nat}:∀ {l:List Nat},l.Nodup → k ∈ l → (l.filter fun i=>S i || decide (i = k)).length = if S k then (l.filter S).length else (l.filter S).length + 1
 | x :: l,hn,hk=>by
  obtain ⟨h1,h2⟩:=List.nodup_cons.mp hn
  rw [List.filter_cons,List.filter_cons]
  by_cases e:x = k
  ·subst e
   rw [List.filter_congr (q:=S) (l:=l) fun i hi=>by rw [decide_eq_false (fun e:i = x=>h1 (by rw [← e];exact hi)),Bool.or_false]]
   rw [decide_eq_true rfl,Bool.or_true,if_pos rfl]
   cases S x <;> rfl
  ·have ih:=filt_add (S:=S) h2 ((List.mem_cons.mp hk).resolve_left fun h=>e h.symm)
   rw [decide_eq_false e,Bool.or_false]
   cases S x <;> cases hs:S k <;> rw [hs] at ih <;> simp_all
theorem cd5_add {S:Nat → Bool} {k:Nat} (hk:k < 5):cd5 (fun i=>S i || decide (i = k)) = if S k then cd5 S else cd5 S + 1:=filt_add List.nodup_range (List.mem_range.mpr hk)
theorem SI_add {S:Nat → Bool} {k:Nat} (hk:k < 5):(fun k'=>SI S k' || decide (k' = (k:Int))) = SI fun i=>S i || decide (i = k):=by
 funext z
 unfold SI
 by_cases h:0 ≤ z ∧ z < 5
 ·obtain ⟨n,rfl⟩:=Int.eq_ofNat_of_zero_le h.1
  rw [decide_eq_true h.1,decide_eq_true h.2,Bool.true_and,Bool.true_and,Bool.true_and,Bool.true_and]
  show (S n || decide ((n:Int) = (k:Int))) = (S n || decide (n = k))
  congr 1
  rw [Bool.eq_iff_iff,decide_eq_true_eq,decide_eq_true_eq]
  exact Int.ofNat_inj
 ·rw [decide_eq_false (show ¬ z = (k:Int) by lia),Bool.or_false]
  by_cases h0:0 ≤ z
  ·rw [decide_eq_false (show ¬ z < 5 by lia),Bool.false_and,Bool.false_and]
  ·rw [decide_eq_false h0,Bool.false_and,Bool.false_and]
theorem add_few {a:Addr} {S:Nat → Bool} {k:Nat} {x:Value} {Q:Bool → Shared → Prop} (hk:k < 5) (hx:(intKind prog w).is (k:Int) x = true) (hsc:x.scannable = true) (hS:s.heap.SetOf (intKind prog w) a (SI S) (cd5 S))
  (h:∀ h' b,Heap.SameBut a s.heap h' → h'.SetOf (intKind prog w) a (SI fun i=>S i || decide (i = k)) (cd5 fun i=>S i || decide (i = k)) → Q b { s with heap:=h' }) :
  wpAny (model prog w) A (setAddHashed a x (k:Int)) Q E s:=by
 rw [show ((k:Nat):Int) = (intKind prog w).hash (k:Int) from (hash_small (Int.natCast_nonneg k) (by lia)).symm]
 refine wpAny_setAddHashed_of hx hsc hS (by have:=cd5_le S;unfold scanBound;lia) fun h' hsb hS'=>h h' _ hsb ?_
 rw [SI_add hk,SI_nat hk,← cd5_add hk] at hS'
 exact hS'
theorem SI_congr {S T:Nat → Bool} (h:∀ i < 5,S i = T i):SI S = SI T:=by
 funext k
 unfold SI
 by_cases h0:0 ≤ k ∧ k < 5
 ·rw [h k.toNat (by lia)]
 ·by_cases h1:0 ≤ k
  ·rw [decide_eq_false (show ¬ k < 5 by lia),Bool.false_and,Bool.false_and]
  ·rw [decide_eq_false h1,Bool.false_and,Bool.false_and]
theorem cd5_congr {S T:Nat → Bool} (h:∀ i < 5,S i = T i):cd5 S = cd5 T:=by
 unfold cd5
 rw [List.filter_congr fun i hi=>h i (List.mem_range.mp hi)]
theorem merge_few {a b:Addr} {S T:Nat → Bool} {each:Sem Unit} {Q:Unit → Shared → Prop} (hne:a ≠ b) (hS:s.heap.SetOf (intKind prog w) a (SI S) (cd5 S)) (hT:s.heap.SetOf (intKind prog w) b (SI T) (cd5 T)) (h0:0 < cd5 T) (hM:cd5 S = 0 → MaskOk s.heap a)
  (heach:∀ h' (R:Unit → Shared → Prop),Heap.SameBut a s.heap h' → R () { s with heap:=h' } → wpAny (model prog w) A each R E { s with heap:=h' })
  (h:∀ h',Heap.SameBut a s.heap h' → h'.SetOf (intKind prog w) a (SI fun i=>S i || T i) (cd5 fun i=>S i || T i) → Q () { s with heap:=h' }) :
  wpAny (model prog w) A (setMerge a b each) Q E s:=by
 obtain ⟨o,es,ep,t,ho,hex,hd,hel,hmem,hb,hf,hn5⟩:=hT
 obtain ⟨ks,k1,k2,k3,k4,k6,k7⟩:=keys_of hel hmem (by rw [Array.length_toList];exact hn5)
 unfold setMerge
 refine wpI_F (fun e=>hne (beq_iff_eq.mp e)) ?_
 refine wpAny_bind (wpAny_setState_of ho hd hf ?_)
 dsimp only
 refine wpI_F (fun e=>by rw [Array.isEmpty_iff_size_eq_zero] at e;lia) ?_
 have ob:∀ {h1},Heap.SameBut a s.heap h1 → h1.get? b = some o:=fun sb=>(sb.2 b hne.symm).trans ho
 have fin:∀ h2,Heap.SameBut a s.heap h2 → (∀ i < 5,T i = (S i || T i)) → h2.SetOf (intKind prog w) a (SI T) (cd5 T) → Q () { s with heap:=h2 }:=fun h2 sb e hS2=>by
  rw [SI_congr e,cd5_congr e] at hS2
  exact h h2 sb hS2
 have rest:∀ h1,Heap.SameBut a s.heap h1 → h1.SetOf (intKind prog w) a (SI S) (cd5 S) → (cd5 S = 0 → MaskOk h1 a) → wpAny (model prog w) A (do
   let x ← setState a
   match x.2.2.road t with
   | SetTable.Road.slotForSlot=>storeSet a es { t with finger:=x.2.2.finger,led:=x.2.2.led && t.led,moves:=x.2.2.moves,plain:=x.2.2.plain && t.plain }
   | SetTable.Road.clean=>do
    let y ← (do
     let some (t',order):=SetTable.laid x.2.2.mask x.2.2.finger x.2.2.moves (x.2.2.led && t.led) (x.2.2.plain && t.plain) (es.map (·.1)) | unsupported "internal:set-table-without-room"
     let es':=order.filterMap (es[·]?)
     if es'.size != es.size then unsupported "internal:set-table-lost-an-element"
     pure (es',t'))
    storeSet a y.1 y.2
   | SetTable.Road.oneByOne=>do
    for (hh,v) in ← setWalkUnseen b [a] (some a) do
     let _ ← holding [v] (setAddHashed a v hh)
     each
     if (← setState b).2.1 != ep then unsupported "set.changed-during-merge") Q E { s with heap:=h1 }:=by
  intro h1 sb1 hS1 hM1
  obtain ⟨o1,es1,ep1,t1,ho1,hex1,hd1,hel1,hmem1,hb1,hf1,hn1⟩:=hS1
  refine wpAny_bind (wpAny_setState_of ho1 hd1 hf1 ?_)
  have hfill:t1.fill = 0 → cd5 S = 0:=fun e=>by
   have h1:t1.place.size = es1.size:=by
    unfold SetTable.fits at hf1
    rw [Bool.and_eq_true,beq_iff_eq] at hf1
    exact hf1.1
   unfold SetTable.fill at e
   lia
  have hst:cd5 S = 0 → ∀ i < 5,T i = (S i || T i):=fun e i hi=>by
   have:S i = false:=by
    cases hs:S i with
    | false=>rfl
    | true=>
     have:i ∈ (List.range 5).filter S:=List.mem_filter.mpr ⟨List.mem_range.mpr hi,hs⟩
     have:=List.length_pos_of_mem this
     unfold cd5 at e
     lia
   rw [this,Bool.false_or]
  cases hr:t1.road t with
  | slotForSlot=>
   dsimp only [hr]
   have hz:t1.fill = 0:=by
    unfold SetTable.road at hr
    split at hr
    ·cases hr
    ·rename_i h;simpa using h
   have e0:=hst (hfill hz)
   refine wpAny_storeSet_of ho1 hd1 ?_ (fits_of_scanBound hb)
   obtain ⟨_,hS2⟩:=SetOf_store (knd:=intKind prog w) (t':={ t with finger:=t1.finger,led:=t1.led && t.led,moves:=t1.moves,plain:=t1.plain && t.plain }) (S':=SI T) ho1 hex1 hd1 hel hmem hb (by cases t;exact hf)
   rw [hn5] at hS2
   exact fin _ (sb1.trans (Heap.SameBut.update h1 a _)) e0 hS2
  | clean=>
   dsimp only [hr]
   have hz:t1.fill = 0:=by
    unfold SetTable.road at hr
    split at hr
    ·cases hr
    ·rename_i h;simpa using h
   have e0:=hst (hfill hz)
   obtain ⟨p,od,e1,e2,e3⟩:=laid_ok k2 k3 (by rw [k4];exact cd5_le T) (hM1 (hfill hz) _ _ _ _ ho1 hd1) t1.finger t1.moves (t1.led && t.led) (t1.plain && t.plain)
   have ek:es.map (·.1) = (ks.map fun (i:Nat)=>(i:Int)).toArray:=by rw [← k1,← Array.toList_map]
   rw [ek,e1]
   have hp:=pick_es (es:=es) (o:=od) (by rw [← Array.length_toList,← List.length_map (f:=(·.1)),k1,List.length_map];exact e3)
   have hsz:(od.filterMap (es[·]?)).size = es.size:=by rw [← Array.length_toList,hp.length_eq,Array.length_toList]
   refine wpAny_bind ?_
   show wpAny _ _ (if ((od.filterMap (es[·]?)).size != es.size) = true then _ else _) _ _ _
   refine wpI_F (by rw [hsz,bne_self_eq_false];decide) ?_
   refine wpAny_pure ?_
   have hm7:=hM1 (hfill hz) _ _ _ _ ho1 hd1
   have hf2:(⟨t1.mask,p,#[],t1.finger,t1.led && t.led,t1.moves,t1.plain && t.plain⟩:SetTable).fits (od.filterMap (es[·]?)).size = true:=by
    show (p.size == _ && decide (p.size + 0 ≤ t1.mask)) = true
    have:=cd5_le T
    rw [Bool.and_eq_true,beq_iff_eq,decide_eq_true_eq,e2,hsz,k4,hn5]
    exact ⟨rfl,by lia⟩
   have hb2:(od.filterMap (es[·]?)).size < scanBound:=by rw [hsz];exact hb
   refine wpAny_storeSet_of ho1 hd1 ?_ (fits_of_scanBound hb2)
   obtain ⟨_,hS2⟩:=SetOf_store (knd:=intKind prog w) ho1 hex1 hd1 (hel.perm hp) (S':=SI T) (fun k=>(hmem k).trans ⟨fun ⟨e,he,q⟩=>⟨e,hp.mem_iff.mpr he,q⟩,fun ⟨e,he,q⟩=>⟨e,hp.mem_iff.mp he,q⟩⟩) hb2 hf2
   rw [hsz,hn5] at hS2
   exact fin _ (sb1.trans (Heap.SameBut.update h1 a _)) e0 hS2
  | oneByOne=>
   dsimp only [hr]
   refine wpAny_bind ?_
   refine walk_unseen (s:={ s with heap:=h1 }) (ob sb1) hd hf (NoRefs.of hel) hne.symm ⟨o1,es1,ep1,t1,ho1,hex1,hd1,hel1,hmem1,hb1,hf1,hn1⟩ fun es' h2 hp sb2 hS2=>?_
   rw [← Array.forIn_toList]
   refine wpAny_bind ?_
   refine wpAny_forIn_list _ (fun rest _ s'=>∃ h' dn,s' = { s with heap:=h' } ∧ Heap.SameBut a s.heap h' ∧ h'.SetOf (intKind prog w) a (SI fun i=>S i || List.contains dn i) (cd5 fun i=>S i || List.contains dn i) ∧ (∀ e ∈ rest,e ∈ es.toList) ∧ (∀ i < 5,i ∈ ks → i ∈ dn ∨ ∃ e ∈ rest,e.1 = (i:Int)) ∧ ∀ i ∈ dn,i ∈ ks) _ ?_ ?_ _ _ ⟨h2,[],rfl,sb1.trans sb2,?_,fun e he=>hp.mem_iff.mp he,fun i hi hk=>.inr ?_,fun i hi=>by cases hi⟩
   ·rintro ⟨hh,v⟩ rest u s' ⟨h',dn,rfl,sb',hS',hr1,hr2,hr3⟩
    have hme:=hr1 _ (.head _)
    obtain ⟨k,hk,hke⟩:∃ k,k ∈ ks ∧ (k:Int) = hh:=List.mem_map.mp (k1 ▸ List.mem_map.mpr ⟨_,hme,rfl⟩)
    subst hke
    have hk5:=k3 k hk
    have hsc:v.scannable = true:=(hel _ hme).2
    refine wpAny_bind (wpAny_holding (add_few (s:={ s with heap:=h' }) hk5 (k7 _ hme) hsc hS' fun h3 b sb3 hS3=>?_))
    refine wpAny_bind (heach h3 _ (sb'.trans sb3) ?_)
    refine wpAny_bind (wpAny_setState_of (s:={ s with heap:=h3 }) (ob (sb'.trans sb3)) hd hf ?_)
    dsimp only
    refine wpI_F (by rw [bne_self_eq_false];decide) ?_
    refine wpAny_pure ⟨h3,k :: dn,rfl,sb'.trans sb3,?_,fun e he=>hr1 e (.tail _ he),fun i hi hik=>?_,fun i hi=>?_⟩
    ·have e1:∀ i < 5,((S i || List.contains dn i) || decide (i = k)) = (S i || List.contains (k :: dn) i):=fun i _=>by
      rw [List.contains_cons,Bool.or_assoc]
      congr 1
      rw [Bool.or_comm]
      congr 1
     rw [SI_congr e1,cd5_congr e1] at hS3
     exact hS3
    ·rcases hr2 i hi hik with h | ⟨e,he,hei⟩
     ·exact .inl (.tail _ h)
     ·rcases List.mem_cons.mp he with rfl | he
      ·exact .inl (by rw [show i = k from (Int.ofNat_inj.mp hei).symm];exact .head _)
      ·exact .inr ⟨e,he,hei⟩
    ·rcases List.mem_cons.mp hi with rfl | hi
     ·exact hk
     ·exact hr3 i hi
   ·rintro u s' ⟨h',dn,rfl,sb',hS',_,hr2,hr3⟩
    have e1:∀ i < 5,(S i || List.contains dn i) = (S i || T i):=fun i hi=>by
     congr 1
     rw [Bool.eq_iff_iff,List.contains_iff_mem,k6 i hi]
     exact ⟨hr3 i,fun hk=>(hr2 i hi hk).resolve_right fun ⟨e,he,_⟩=>by cases he⟩
    rw [SI_congr e1,cd5_congr e1] at hS'
    exact wpAny_pure (h h' sb' hS')
   ·have e1:∀ i < 5,S i = (S i || List.contains [] i):=fun i _=>(Bool.or_false _).symm
    rw [SI_congr e1,cd5_congr e1] at hS2
    exact hS2
   ·have:(i:Int) ∈ es.toList.map (·.1):=by rw [k1];exact List.mem_map.mpr ⟨i,hk,rfl⟩
    obtain ⟨e,he,hei⟩:=List.mem_map.mp this
    exact ⟨e,hp.mem_iff.mpr he,hei⟩
 unfold setRoomFor
 obtain ⟨o1,es1,ep1,t1,ho1,hex1,hd1,hel1,hmem1,hb1,hf1,hn1⟩:=hS
 refine wpAny_bind (wpAny_bind (wpAny_setState_of ho1 hd1 hf1 ?_))
 dsimp only
 cases hrm:t1.roomFor es.size with
 | none=>exact wpAny_pure (rest s.heap (Heap.SameBut.refl a s.heap) ⟨o1,es1,ep1,t1,ho1,hex1,hd1,hel1,hmem1,hb1,hf1,hn1⟩ hM)
 | some wanted=>
  have hw:wanted ≤ 20:=by
   unfold SetTable.roomFor at hrm
   split at hrm
   ·cases hrm
    unfold SetTable.fits at hf1
    rw [Bool.and_eq_true,beq_iff_eq] at hf1
    have:=cd5_le S
    have:=cd5_le T
    lia
   ·cases hrm
  exact relay_few ⟨o1,es1,ep1,t1,ho1,hex1,hd1,hel1,hmem1,hb1,hf1,hn1⟩ hw fun h1 sb1 hS1 hM1=>rest h1 sb1 hS1 fun _=>hM1
end
end Lw
end
section
open PySem PySem.Calls PySem.W PyProof.Rows
namespace Lw
section
variable {prog:Program} {w:World} {A:Around} {E:Value → Shared → Prop} {s:Shared}
theorem is_set {a:Addr} {S:Int → Bool} {n:Nat} {Q:Bool → Shared → Prop} (hS:s.heap.SetOf (intKind prog w) a S n) (h:Q true s):wpAny (model prog w) A (isInstance (.ref a) (.type "set")) Q E s:=
 wpAny_isInstance hS.typeIs sub_set_self h
theorem any_set {a:Addr} {S:Int → Bool} {n:Nat} {Q:Bool → Shared → Prop} (hS:s.heap.SetOf (intKind prog w) a S n) (h:Q true s):wpAny (model prog w) A (Builtin.Frozenset.isAnySet (.ref a)) Q E s:=by
 unfold Builtin.Frozenset.isAnySet orM
 exact wpAny_bind (is_set hS (wpAny_pure h))
theorem entry_or:entryFor table "set.__or__" = some Builtin.«frozenset.__or__»:=
 entryFor_alias (id':="frozenset.__or__") (by kernel_rfl) rfl (by decide +kernel) (by kernel_rfl)
theorem entry_le:entryFor table "set.__le__" = some Builtin.«frozenset.__le__»:=
 entryFor_alias (id':="frozenset.__le__") (by kernel_rfl) rfl (by decide +kernel) (by kernel_rfl)
theorem or_tree (x y:Addr):Builtin.«frozenset.__or__» ⟨[.ref x,.ref y],[]⟩ = (do
  let (self,other) ← Builtin.Frozenset.slot1 "__or__" ⟨[.ref x,.ref y],[]⟩
  if !(← Builtin.Frozenset.isAnySet self <&&> Builtin.Frozenset.isAnySet other) then rule "frozenset.__or__.declined";return ← ret .notImplemented
  ret (← (do
   let result ← Builtin.Frozenset.copyOf (← Builtin.Frozenset.addrOf self)
   if other != .ref (← Builtin.Frozenset.addrOf self) then holding [result] (Builtin.Frozenset.updateFrom "frozenset.__or__" (← Builtin.Frozenset.addrOf result) other)
   return result))):=rfl
theorem addrOf_ref {a:Addr} {Q:Addr → Shared → Prop} (h:Q a s):wpAny (model prog w) A (Builtin.Frozenset.addrOf (.ref a)) Q E s:=wpAny_pure h
theorem copy_few {a:Addr} {S:Nat → Bool} {Q:Value → Shared → Prop} (hS:s.heap.SetOf (intKind prog w) a (SI S) (cd5 S)) (h0:0 < cd5 S)
  (h:∀ h',(∀ b o,s.heap.get? b = some o → h'.get? b = some o) → h'.SetOf (intKind prog w) s.heap.objs.size (SI S) (cd5 S) → Q (.ref s.heap.objs.size) { s with heap:=h' }) :
  wpAny (model prog w) A (Builtin.Frozenset.copyOf a) Q E s:=by
 unfold Builtin.Frozenset.copyOf Builtin.Frozenset.baseOf
 refine wpAny_bind (wpAny_bind (is_set hS (wpAny_pure ?_)))
 refine wpAny_bind (wpAny_newSet_of (knd:=intKind prog w) fun led hN=>?_)
 refine wpAny_bind (addrOf_ref ?_)
 have hlt:a < s.heap.objs.size:=by
  obtain ⟨o,_,_,_,ho,_⟩:=hS
  exact Heap.lt_size ho
 have hS':(s.heap.push { cls:=.type "set",dict:=none,data:=.set #[] 0 (.fresh 0 0 led) }).SetOf (intKind prog w) a (SI S) (cd5 S):=by
  obtain ⟨o,es,ep,t,ho,r⟩:=hS
  exact ⟨o,es,ep,t,Heap.get?_push_of_some _ ho,r⟩
 have hz:cd5 (fun _=>false) = 0:=rfl
 have hf:SI (fun _=>false) = fun _=>false:=by
  funext k
  unfold SI
  rw [Bool.and_false,Bool.and_false]
 refine wpAny_bind (merge_few (S:=fun _=>false) (T:=S) (Nat.ne_of_gt hlt) (by rw [hf,hz];exact hN) hS' h0 (fun _ o es ep t e1 e2=>?_) (fun h' R _ r=>wpAny_pure r) fun h' sb hU=>?_)
 ·rw [Heap.get?_push_size _ rfl] at e1
  cases e1
  cases e2
  exact Nat.le_refl 7
 ·have e1:∀ i < 5,(false || S i) = S i:=fun i _=>Bool.false_or _
  rw [SI_congr e1,cd5_congr e1] at hU
  refine wpAny_pure (h h' (fun b o e=>?_) hU)
  rw [sb.2 b (Nat.ne_of_lt (Heap.lt_size e))]
  exact Heap.get?_push_of_some _ e
theorem slot_two {x y:Value} {nm:String} {Q:Value × Value → Shared → Prop} (h:Q (x,y) s):wpAny (model prog w) A (Builtin.Frozenset.slot1 nm ⟨[x,y],[]⟩) Q E s:=by
 unfold Builtin.Frozenset.slot1 slotArgs
 exact wpAny_bind (wpAny_pure (wpAny_pure h))
theorem or_few {a b:Addr} {S T:Nat → Bool} {Q:Value → Shared → Prop} (hS:s.heap.SetOf (intKind prog w) a (SI S) (cd5 S)) (hT:s.heap.SetOf (intKind prog w) b (SI T) (cd5 T)) (h0:0 < cd5 S) (h1:0 < cd5 T)
  (h:∀ h',(∀ b o,s.heap.get? b = some o → h'.get? b = some o) → h'.SetOf (intKind prog w) s.heap.objs.size (SI fun i=>S i || T i) (cd5 fun i=>S i || T i) → Q (.ref s.heap.objs.size) { s with heap:=h' }) :
  wpAny (model prog w) A (binaryOp .BitOr (.ref a) (.ref b)) Q E s:=by
 refine wpAny_binaryOp_same (op:=.BitOr) (T:="set") hS.typeIs hT.typeIs F.fills_set_or F.slot_set_or (wpAny_call_entry F.slot_set_or hS.typeIs entry_or ?_ (F.args_set_or_2 _ _))
 rw [or_tree]
 refine wpAny_bind (slot_two ?_)
 dsimp only
 refine wpAny_bind ?_
 show wpAny _ _ (andM _ _) _ _ _
 unfold andM
 refine wpAny_bind (any_set hS (any_set hT ?_))
 refine wpI_F (by decide) ?_
 refine wpAny_bind (wpAny_bind (addrOf_ref (wpAny_bind (copy_few hS h0 fun h1' k1 hC=>?_))))
 refine wpAny_bind (addrOf_ref ?_)
 have hT':h1'.SetOf (intKind prog w) b (SI T) (cd5 T):=by
  obtain ⟨o,es,ep,t,ho,r⟩:=hT
  exact ⟨o,es,ep,t,k1 _ _ ho,r⟩
 have hlt:b < s.heap.objs.size:=by
  obtain ⟨o,_,_,_,ho,_⟩:=hT
  exact Heap.lt_size ho
 by_cases hab:b = a
 ·subst hab
  refine wpI_F (by rw [bne_self_eq_false];decide) ?_
  have e1:∀ i < 5,S i = (S i || T i):=fun i hi=>by
   have:S i = T i:=by
    rw [← SI_nat (S:=S) hi,← SI_nat (S:=T) hi,Bool.eq_iff_iff]
    obtain ⟨o,es,ep,t,ho,_,hd,_,m1,_⟩:=hS
    obtain ⟨o',es',ep',t',ho',_,hd',_,m2,_⟩:=hT
    rw [ho] at ho'
    cases ho'
    rw [hd] at hd'
    cases hd'
    exact (m1 _).trans (m2 _).symm
   rw [this,Bool.or_self]
  rw [SI_congr e1,cd5_congr e1] at hC
  exact wpAny_pure (wpAny_pure ⟨_,rfl,by simp,h h1' k1 hC⟩)
 ·refine wpI_T (bne_iff_ne.mpr fun e=>hab (by cases e;rfl)) ?_
  refine wpAny_bind (addrOf_ref ?_)
  refine wpAny_bind ?_
  refine wpAny_holding ?_
  unfold Builtin.Frozenset.updateFrom
  refine wpAny_bind (any_set hT' ?_)
  refine wpI_T rfl ?_
  refine wpAny_bind (addrOf_ref ?_)
  unfold Builtin.Frozenset.merge
  obtain ⟨o,es,ep,t,ho,hex,hd,hel,hmem,hb,hf,hn⟩:=hT'
  refine wpAny_bind (wpAny_setEpoch_of ho hd hf ?_)
  refine merge_few (s:={ s with heap:=h1' }) (Nat.ne_of_gt hlt) hC ⟨o,es,ep,t,ho,hex,hd,hel,hmem,hb,hf,hn⟩ h1 (fun e=>by lia) (fun h2 R sb r=>?_) fun h2 sb hU=>?_
  ·unfold Builtin.Frozenset.unchanged
   refine wpAny_bind (wpAny_setEpoch_of (s:={ s with heap:=h2 }) ((sb.2 b (Nat.ne_of_lt hlt)).trans ho) hd hf ?_)
   exact wpI_F (by rw [bne_self_eq_false];decide) (wpAny_pure r)
  ·refine wpAny_pure (wpAny_pure ⟨_,rfl,by simp,h h2 (fun x ox e=>?_) hU⟩)
   rw [sb.2 x (Nat.ne_of_lt (Heap.lt_size e))]
   exact k1 x ox e
theorem le_tree (x y:Addr):Builtin.«frozenset.__le__» ⟨[.ref x,.ref y],[]⟩ = (do
  let (self,other) ← Builtin.Frozenset.slot1 "__le__" ⟨[.ref x,.ref y],[]⟩
  if !(← Builtin.Frozenset.isAnySet other) then rule "frozenset.__le__.declined";return ← ret .notImplemented
  let v ← Builtin.Frozenset.addrOf self;let w ← Builtin.Frozenset.addrOf other
  let n ← Builtin.Frozenset.sizeOf v;let m ← Builtin.Frozenset.sizeOf w
  ret (.bool (← Builtin.Frozenset.subsetOf "frozenset.__le__" v w))):=rfl
theorem walk_quiet {a b:Addr} {o:Obj} {es:Array (Int × Value)} {ep:Nat} {t:SetTable} {o2:Obj} {es2:Array (Int × Value)} {ep2:Nat} {t2:SetTable} {Q:List (Int × Value) → Shared → Prop} (ho:s.heap.get? a = some o) (hd:o.data = .set es ep t) (hf:t.fits es.size = true) (hn:NoRefs es.toList)
  (ho2:s.heap.get? b = some o2) (hd2:o2.data = .set es2 ep2 t2) (hf2:t2.fits es2.size = true) (hn2:NoRefs es2.toList) (h:Q es.toList s):wpAny (model prog w) A (Builtin.Frozenset.walkUnseen a b) Q E s:=by
 unfold Builtin.Frozenset.walkUnseen
 refine wpAny_bind (wpAny_setEntries_of ho hd hf ?_)
 refine wpAny_bind (wpAny_setEntries_of ho2 hd2 hf2 ?_)
 refine wpAny_bind ?_
 refine wpAny_forIn_list _ (fun rest r s'=>r.1 = none ∧ s' = s ∧ NoRefs rest) _ ?_ ?_ _ _ ⟨rfl,rfl,fun e he=>?_⟩
 ·rintro ⟨hh,x⟩ rest r s' ⟨hr,rfl,hall⟩
  have hx:x.scannable = true:=hall _ (.head _)
  have hq:Builtin.Frozenset.quietEq x = pure true:=by cases x <;> first | rfl | cases hx
  dsimp only
  rw [hq]
  refine wpAny_bind (wpAny_pure ?_)
  exact wpI_F (by decide) (wpAny_pure ⟨rfl,rfl,fun e he=>hall e (.tail _ he)⟩)
 ·rintro ⟨r1,r2⟩ s' ⟨hr,rfl,_⟩
  dsimp only at hr
  subst hr
  exact wpAny_pure h
 ·rcases List.mem_append.mp he with he | he
  ·exact hn e he
  ·exact hn2 e he
theorem size_set {a:Addr} {o:Obj} {es:Array (Int × Value)} {ep:Nat} {t:SetTable} {Q:Nat → Shared → Prop} (ho:s.heap.get? a = some o) (hd:o.data = .set es ep t) (hf:t.fits es.size = true) (h:Q es.size s):wpAny (model prog w) A (Builtin.Frozenset.sizeOf a) Q E s:=by
 unfold Builtin.Frozenset.sizeOf
 exact wpAny_bind (wpAny_setEntries_of ho hd hf (wpAny_pure h))
noncomputable def subB (S:Nat → Bool) (T:Int → Bool):Bool:=(List.range 5).all fun i=>!S i || T (i:Int)
theorem subB_iff {S:Nat → Bool} {T:Int → Bool}:subB S T = true ↔ ∀ i < 5,S i = true → T (i:Int) = true:=by
 unfold subB
 rw [List.all_eq_true]
 constructor
 ·intro h i hi hs
  have:=h i (List.mem_range.mpr hi)
  rw [hs] at this
  simpa using this
 ·intro h i hi
  have:=h i (List.mem_range.mp hi)
  cases hs:S i with
  | false=>rfl
  | true=>rw [this hs];rfl
theorem subset_few {a b:Addr} {S:Nat → Bool} {T:Int → Bool} {n:Nat} {id:String} {Q:Bool → Shared → Prop} (hS:s.heap.SetOf (intKind prog w) a (SI S) (cd5 S)) (hT:s.heap.SetOf (intKind prog w) b T n) (h:Q (subB S T) s) :
  wpAny (model prog w) A (Builtin.Frozenset.subsetOf id a b) Q E s:=by
 have hT0:=hT
 obtain ⟨o,es,ep,t,ho,hex,hd,hel,hmem,hb,hf,hn5⟩:=hS
 obtain ⟨o2,es2,ep2,t2,ho2,hex2,hd2,hel2,hmem2,hb2,hf2,hn2⟩:=hT
 obtain ⟨ks,k1,k2,k3,k4,k6,k7⟩:=keys_of hel hmem (by rw [Array.length_toList];exact hn5)
 unfold Builtin.Frozenset.subsetOf
 refine wpAny_bind (size_set ho hd hf (wpAny_bind (size_set ho2 hd2 hf2 ?_)))
 by_cases hgt:es.size > es2.size
 ·refine wpI_T hgt (wpAny_pure ?_)
  have:subB S T = false:=by
   rw [← Bool.not_eq_true,subB_iff]
   intro hall
   have hl:=List.Nodup.length_le_of_subset (l₁:=ks) (l₂:=es2.toList.map fun e=>e.1.toNat) k2 fun x hx=>by
    have x5:=k3 x hx
    obtain ⟨e,he,hk⟩:=(hmem2 (x:Int)).mp (hall x x5 ((k6 x x5).mpr hx))
    obtain ⟨⟨k,hk',hh⟩,_⟩:=hel2 e he
    have hki:(x:Int) = k:=(intKind prog w).inj _ _ _ hk hk'
    refine List.mem_map.mpr ⟨e,he,?_⟩
    have:e.1 = (x:Int):=by
     rw [hh,← hki]
     exact hash_small (Int.natCast_nonneg x) (by lia)
    rw [this];rfl
   have hl2:ks.length = es.size:=k4.trans hn5.symm
   have hl3:(es2.toList.map fun e=>e.1.toNat).length = es2.size:=by rw [List.length_map,Array.length_toList]
   rw [hl2,hl3] at hl
   lia
  rw [this] at h
  exact h
 ·refine wpI_F hgt ?_
  refine wpAny_bind (wpAny_setEpoch_of ho hd hf ?_)
  refine wpAny_bind (walk_quiet ho hd hf (NoRefs.of hel) ho2 hd2 hf2 (NoRefs.of hel2) ?_)
  refine wpAny_bind ?_
  refine wpAny_forIn_list _ (fun rest r s'=>r.1 = none ∧ s' = s ∧ (∀ e ∈ rest,e ∈ es.toList) ∧ (subB S T = true ↔ ∀ e ∈ rest,T e.1 = true)) _ ?_ ?_ _ _ ⟨rfl,rfl,fun e he=>he,?_⟩
  ·rintro ⟨hh,x⟩ rest r s' ⟨hr,rfl,hr1,hr2⟩
   have hme:=hr1 _ (.head _)
   obtain ⟨k,hk,hke⟩:∃ k,k ∈ ks ∧ (k:Int) = hh:=List.mem_map.mp (k1 ▸ List.mem_map.mpr ⟨_,hme,rfl⟩)
   have hk5:=k3 k hk
   have hsc:x.scannable = true:=(hel _ hme).2
   subst hke
   dsimp only
   refine wpAny_bind (wpAny_holding ?_)
   rw [show ((k:Nat):Int) = (intKind prog w).hash (k:Int) from (hash_small (Int.natCast_nonneg k) (by lia)).symm]
   refine wpAny_setFind_of (k7 _ hme) hsc hT0 fun r' hr'=>?_
   cases hT1:T (k:Int) with
   | false=>
    rw [hT1] at hr'
    refine wpI_T (by cases r' <;> simp_all) (wpAny_pure (wpAny_pure ?_))
    have hF:subB S T = false:=by
     rw [← Bool.not_eq_true,hr2]
     intro hall
     have:=hall _ (.head _)
     rw [hT1] at this
     cases this
    rw [hF] at h
    exact h
   | true=>
    rw [hT1] at hr'
    refine wpI_F (by cases r' <;> simp_all) ?_
    unfold Builtin.Frozenset.unchanged
    refine wpAny_bind (wpAny_bind (wpAny_setEpoch_of ho hd hf ?_))
    refine wpI_F (by rw [bne_self_eq_false];decide) ?_
    refine wpAny_pure (wpAny_pure ⟨rfl,rfl,fun e he=>hr1 e (.tail _ he),hr2.trans ⟨fun ha e he=>ha e (.tail _ he),fun ha e he=>?_⟩⟩)
    rcases List.mem_cons.mp he with rfl | he
    ·exact hT1
    ·exact ha e he
  ·rintro ⟨r1,r2⟩ s' ⟨hr,rfl,_,hr2⟩
   dsimp only at hr
   subst hr
   refine wpAny_pure ?_
   rw [hr2.mpr fun e he=>by cases he] at h
   exact h
  ·rw [subB_iff]
   constructor
   ·intro hall e he
    obtain ⟨k,hk,hke⟩:∃ k,k ∈ ks ∧ (k:Int) = e.1:=List.mem_map.mp (k1 ▸ List.mem_map.mpr ⟨_,he,rfl⟩)
    rw [← hke]
    exact hall k (k3 k hk) ((k6 k (k3 k hk)).mpr hk)
   ·intro hall i hi hs
    have hm:(i:Int) ∈ es.toList.map (·.1):=by rw [k1];exact List.mem_map.mpr ⟨i,(k6 i hi).mp hs,rfl⟩
    obtain ⟨e,he,hei⟩:=List.mem_map.mp hm
    rw [← hei]
    exact hall e he
theorem le_few {a b:Addr} {S:Nat → Bool} {T:Int → Bool} {n:Nat} {Q:Value → Shared → Prop} (hS:s.heap.SetOf (intKind prog w) a (SI S) (cd5 S)) (hT:s.heap.SetOf (intKind prog w) b T n) (hu:A.units < cLine) (h:Q (.bool (subB S T)) s) :
  wpAny (model prog w) A (compareOp .LtE (.ref a) (.ref b)) Q E s:=by
 show wpAny _ _ (richCompare .LtE (.ref a) (.ref b)) Q E s
 refine wpAny_richCompare_same_room (op:=.LtE) (T:="set") hS.typeIs hT.typeIs F.slot_set_le (wpAny_call_entry F.slot_set_le hS.typeIs entry_le ?_ (F.args_set_le_2 _ _)) hu
 rw [le_tree]
 refine wpAny_bind (slot_two ?_)
 dsimp only
 refine wpAny_bind (any_set hT ?_)
 refine wpI_F (by decide) ?_
 refine wpAny_bind (addrOf_ref (wpAny_bind (addrOf_ref ?_)))
 have hS0:=hS
 have hT0:=hT
 obtain ⟨o,es,ep,t,ho,hex,hd,hel,hmem,hb,hf,hn5⟩:=hS
 obtain ⟨o2,es2,ep2,t2,ho2,hex2,hd2,hel2,hmem2,hb2,hf2,hn2⟩:=hT
 refine wpAny_bind (size_set ho hd hf (wpAny_bind (size_set ho2 hd2 hf2 ?_)))
 refine wpAny_bind (subset_few hS0 hT0 ?_)
 exact wpAny_pure ⟨_,rfl,by simp,h⟩
end
end Lw
end
section
open PySem PySem.Calls PySem.W PyProof.Rows
namespace Lw
noncomputable def ISet (W₀:Wld) (o:Obj) (S:Nat → Bool):Prop:=o.SetObjOf (intKind W₀.prog W₀.w) (SI S) (cd5 S)
noncomputable def WSet (W₀:Wld) (o:Obj) (T:Int → Bool):Prop:=∃ n,n < 64 ∧ o.SetObjOf (intKind W₀.prog W₀.w) T n
section
variable {W₀:Wld} {c:Cx W₀} {σ:St} {Q:AV → St → Prop}
theorem fresh_none (h:Heap):h.get? h.objs.size = none:=by
 cases q:h.get? h.objs.size with
 | none=>rfl
 | some o=>exact absurd (Heap.lt_size q) (Nat.lt_irrefl _)
theorem O.orSet {x y:Obj} {S T:Nat → Bool} (hx:ISet W₀ x S) (hy:ISet W₀ y T) (h0:0 < cd5 S) (h1:0 < cd5 T) (h:∀ o,ISet W₀ o (fun i=>S i || T i) → Q (.obj o) σ):Op2 c c.VR (binaryOp .BitOr) (.obj x) (.obj y) σ Q:=fun b k s v u S' r r'=>by
 obtain ⟨a,rfl,ha⟩:=r
 obtain ⟨a',rfl,ha'⟩:=r'
 have l1:=cd5_le S
 have l2:=cd5_le T
 refine or_few (Obj.SetObjOf.setOf hx (S'.kb _ _ ha) (by unfold scanBound;lia)) (Obj.SetObjOf.setOf hy (S'.kb _ _ ha') (by unfold scanBound;lia)) h0 h1 fun h' g hU=>?_
 obtain ⟨o,ho,hso⟩:=hU.objOf
 obtain ⟨t1,t2,t3⟩:=S'.freezeNew (s':={ s with heap:=h' }) (fun b o e=>g b o e) rfl S'.gens ho (fresh_none _)
 exact ⟨_,.obj o,σ,t1,t3,⟨_,rfl,t2⟩,h o hso⟩
theorem O.leSet {x y:Obj} {S:Nat → Bool} {T:Int → Bool} (hx:ISet W₀ x S) (hy:WSet W₀ y T) (hu:c.A.units < 9000) (h:Q (.bool (subB S T)) σ):Op2 c c.VR (compareOp .LtE) (.obj x) (.obj y) σ Q:=fun b k s v u S' r r'=>by
 obtain ⟨a,rfl,ha⟩:=r
 obtain ⟨a',rfl,ha'⟩:=r'
 obtain ⟨n,hn,hy⟩:=hy
 have l1:=cd5_le S
 exact le_few (Obj.SetObjOf.setOf hx (S'.kb _ _ ha) (by unfold scanBound;lia)) (Obj.SetObjOf.setOf hy (S'.kb _ _ ha') (by unfold scanBound;lia)) (by have:=cLine_is;lia) (Post.at (R:=c.VR) (y:=.bool _) S' rfl h)
theorem Cal.setL {x:AV} {l:List Nat} (hx:LA σ x (l.map fun (i:Nat)=>.int i)) (hl:l.length ≤ 10) (h:∀ o,WSet W₀ o (fun k=>(l.map fun (i:Nat)=>(i:Int)).any (· == k)) → Q (.obj o) σ):Cal c (.type "set") [x] [] σ Q:=fun b k s vs kvs S r rk=>by
 obtain ⟨v,r',rfl,rv,e⟩:=r
 rw [show r' = [] from e,show kvs = [] from List.map_eq_nil_iff.mp rk.1]
 obtain ⟨a,us,rfl,⟨n,sq⟩,ru⟩:=hx.get S rv
 have hlen:=VRs.length ru
 rw [List.length_map] at hlen
 refine call_set_list (items:=us.toArray) (ns:=l.map fun (i:Nat)=>(i:Int)) c.hh ⟨_,sq,rfl,n,rfl⟩ ?_ (by rw [List.size_toArray,hlen];unfold scanBound;lia) fun h' tk hS g=>?_
 ·exact VRs.ints (by rw [List.map_map];exact ru)
 ·obtain ⟨o,ho,hso⟩:=hS.objOf
  obtain ⟨t1,t2,t3⟩:=S.freezeNew (s':={ s with heap:=h',toks:=tk }) (fun b o e=>g b o (Heap.lt_size e) e) rfl S.gens ho (fresh_none _)
  have hle:=firstMet_length_le (fun i=>(l.map fun (i:Nat)=>(i:Int)).getD i 0) us.toArray.size
  rw [List.size_toArray] at hle
  have hall:(List.range us.length).map (fun i=>(l.map fun (i:Nat)=>(i:Int)).getD i 0) = l.map fun (i:Nat)=>(i:Int):=by
   refine List.ext_getElem (by rw [List.length_map,List.length_range,List.length_map,hlen]) fun i h1 h2=>?_
   rw [List.getElem_map,List.getElem_range,List.getD_eq_getElem?_getD,List.getElem?_eq_getElem h2];rfl
  have he:(fun k'=>(firstMet (fun i=>(l.map fun (i:Nat)=>(i:Int)).getD i 0) us.toArray.size).any (· == k')) = fun k=>(l.map fun (i:Nat)=>(i:Int)).any (· == k):=by
   funext k'
   rw [firstMet_any,List.size_toArray,hall]
  rw [he] at hso
  exact ⟨_,.obj o,σ,t1,t3,⟨_,rfl,t2⟩,h o ⟨_,by rw [List.size_toArray];lia,hso⟩⟩
theorem main_any {env:Env} {A:Around} {E:Value → Shared → Prop} {s:Shared} {R:Bool → Shared → Prop} (hc:∃ cc o vs,env.code = .ref cc ∧ s.heap.get? cc = some o ∧ o.data = .fields vs) (h:∀ b,R b s):wpAny (model W₀.prog W₀.w) A (inMainModule env) R E s:=by
 obtain ⟨cc,o,vs,e,ho,hd⟩:=hc
 unfold inMainModule
 try dsimp only
 rw [e]
 split
 ·exact wpAny_pure (h _)
 ·refine wpAny_bind (wpAny_fieldsOf ho hd ?_)
  split
  ·exact wpAny_bind (wpAny_askSetting (wpAny_pure (h _)))
  ·exact wpAny_pure (h _)
theorem Ev.set1 {x:PySem.Str} {np pos:Pos} {i:Nat} {ca:Addr} (hcd:∃ cc o vs,c.env.code = .ref cc ∧ W₀.g0.get? cc = some o ∧ o.data = .fields vs) (hx:c.env.kindOf x = some .cell) (hc:c.env.cells.lookup x = some ca) (ha:σ.cl.lookup x = some (.int i)) (hi:i < 5) (hd:(x == ("__debug__" : PySem.Str)) = false)
  (h:∀ o,ISet W₀ o (fun j=>decide (j = i)) → Q (.obj o) σ):Ev c (.Set [.Name x np] 0 pos) σ Q:=fun b k s S=>by
 obtain ⟨cc,o,vs,ec,ho,hdt⟩:=hcd
 rw [arm_eval_Set]
 refine wpAny_bind (wpAny_standAt ?_)
 refine wpAny_bind (main_any ⟨cc,o,vs,ec,S.kb _ _ (S.g0 _ _ ho),hdt⟩ fun _=>?_)
 rw [kds_star _ rfl,List.map_map]
 refine kds_core (ts:=(evalEach [.Name x np] c.env).map fun t=>do let v ← t;standAt pos;pure v) rfl ?_ ?_ ?_ fun led=>?_
 ·refine List.findIdx?_eq_none_iff.mpr fun y hy=>?_
  obtain ⟨t,_,rfl⟩:=List.mem_map.mp hy
  rfl
 ·rw [List.length_map,kds_len];exact Nat.le_of_ble_eq_true rfl
 ·rw [List.map_map];rfl
 ·refine kds_all pos _ _ _ ?_
  have S1:Sim c b k σ { s with heap:=s.heap.push { cls:=.type "set",dict:=Option.none,data:=.set #[] 0 (.fresh 0 0 led) } }:=S.grow (fun q o e=>Heap.get?_push_of_some _ e) rfl S.gens
  obtain ⟨⟨v,ic,r,_⟩,_⟩:=S1.cells x ca hc
  obtain ⟨u,rfl,⟨t,rfl⟩⟩:=r _ ha
  refine wpAny_Name (wpAny_loadName_cell c.hk hx hc ic ?_) hd
  refine kds_fill_cons ?_
  unfold setAdd
  refine wpAny_holding (wpAny_bind ((intKind W₀.prog W₀.w).pyHash (k:=(i:Int)) (intKind_is _ _ _ _) ?_))
  rw [show (intKind W₀.prog W₀.w).hash (i:Int) = (i:Int) from hash_small (Int.natCast_nonneg i) (by lia)]
  have hz:cd5 (fun _=>false) = 0:=rfl
  have hf:SI (fun _=>false) = fun _=>false:=by
   funext k
   unfold SI
   rw [Bool.and_false,Bool.and_false]
  have hN:(s.heap.push { cls:=.type "set",dict:=Option.none,data:=.set #[] 0 (.fresh 0 0 led) }).SetOf (intKind W₀.prog W₀.w) s.heap.objs.size (SI fun _=>false) (cd5 fun _=>false):=by
   rw [hf,hz]
   exact Obj.SetObjOf.setOf (setObjOf_fresh led) (Heap.get?_push_size _ rfl) (by decide)
  refine add_few (s:={ s with heap:=s.heap.push { cls:=.type "set",dict:=Option.none,data:=.set #[] 0 (.fresh 0 0 led) },toks:=s.toks + 1 }) hi (intKind_is _ _ _ _) rfl hN fun h' bb sb hU=>?_
  refine kds_fill_nil rfl ?_
  obtain ⟨o,ho,hso⟩:=hU.objOf
  obtain ⟨t1,t2,t3⟩:=S.freezeNew (s':={ s with heap:=h',toks:=s.toks + 1 }) (fun q oq e=>by
   rw [sb.2 q (Nat.ne_of_lt (Heap.lt_size e))]
   exact Heap.get?_push_of_some _ e) rfl S.gens ho (fresh_none _)
  exact ⟨_,.obj o,σ,t1,t3,⟨_,rfl,t2⟩,h o hso⟩
end
end Lw
end
section
open PySem PySem.Calls PySem.W PyProof.Rows
namespace Lw
section
variable {W₀:Wld} {c:Cx W₀} {σ:St} {Q:AV → St → Prop}
theorem VRs.ofInts {p:Program} {w:World} {h:Heap}:∀ {ns:List Int} {vs:List Value},IntsAre vs ns → VRs p w h (ns.map .int) vs
 | [],vs,e=>by cases e;rfl
 | n :: ns,vs,e=>by
  cases e with
  | cons _ t r=>exact ⟨_,_,rfl,⟨t,rfl⟩,VRs.ofInts r⟩
theorem Cal.sortedI {x:AV} {l:List Nat} (hx:LA σ x (l.map fun (i:Nat)=>.int i)) (h64:l.length < 64) (h:Q (.lst ((srt l).map fun (i:Nat)=>.int i)) σ):Cal c (.builtin "sorted") [x] [] σ Q:=fun b k s vs kvs S r rk=>by
 obtain ⟨v,r',rfl,rv,e⟩:=r
 rw [show r' = [] from e,show kvs = [] from List.map_eq_nil_iff.mp rk.1]
 obtain ⟨a,us,rfl,sq,ru⟩:=hx.get S rv
 have hlen:=VRs.length ru
 rw [List.length_map] at hlen
 have hI:IntsAre us (l.map fun (i:Nat)=>(i:Int)):=VRs.ints (by rw [List.map_map];exact ru)
 refine sorted_ints sq.isList hI (by lia) fun out ns' a1 a2 a3=>?_
 obtain ⟨l',rfl⟩:∃ l':List Nat,ns' = l'.map fun (i:Nat)=>(i:Int):=by
  have hm:∀ z ∈ ns',∃ i:Nat,z = (i:Int):=fun z hz=>by
   obtain ⟨i,_,e⟩:=List.mem_map.mp (a2.mem_iff.mp hz)
   exact ⟨i,e.symm⟩
  clear a1 a2 a3
  induction ns' with
  | nil=>exact ⟨[],rfl⟩
  | cons z r ih=>
   obtain ⟨i,e⟩:=hm z (.head _)
   obtain ⟨l',e'⟩:=ih fun y hy=>hm y (.tail _ hy)
   exact ⟨i :: l',by rw [e,e'];rfl⟩
 have hp:l'.Perm l:=by
  have:=a2.map (fun z:Int=>z.toNat)
  simpa [List.map_map,Function.comp_def] using this
 have hs:l'.Pairwise (· ≤ ·):=(List.pairwise_map.mp a3).imp fun h=>Int.ofNat_le.mp h
 have e:=srt_eq hp hs
 subst e
 have hsz:((s.heap.push (seqObj "list" #[] 0)).update s.heap.objs.size (Obj.mapSeq (· ++ us.toArray))).objs.size = s.heap.objs.size + 1:=by
  rw [Heap.size_update,size_push']
 have hoL:(((s.heap.push (seqObj "list" #[] 0)).update s.heap.objs.size (Obj.mapSeq (· ++ us.toArray))).push (seqObj "list" us.toArray 0)).get? (s.heap.objs.size + 1) = some (seqObj "list" us.toArray 0):=by
  rw [← hsz];exact Heap.get?_push_size _ rfl
 obtain ⟨ee,hfin⟩:=sortedHeap_at (n:=0) (out:=out) hoL
 have hkeep:s.heap.StaysIn (sortedAll s.heap us out):=fun q o e=>by
  have hlt:q < s.heap.objs.size:=Heap.lt_size e
  unfold sortedAll
  rw [sortedHeap_old (Nat.ne_of_lt (Nat.lt_succ_of_lt hlt)) (by rw [size_push',hsz];exact Nat.lt_succ_of_lt (Nat.lt_succ_of_lt hlt))]
  exact Heap.get?_push_of_some _ ((Heap.get?_update_other _ _ (Nat.ne_of_gt hlt)).trans (Heap.get?_push_of_some _ e))
 obtain ⟨t1,t2,t3⟩:=S.freezeNew (s':={ s with heap:=sortedAll s.heap us out }) hkeep rfl S.gens hfin (by
  cases q:s.heap.get? (s.heap.objs.size + 1) with
  | none=>rfl
  | some o=>exact absurd (Heap.lt_size q) (Nat.not_lt.mpr (Nat.le_succ _)))
 refine ⟨_,.lst _,σ,t1,t3,⟨s.heap.objs.size + 1,out.toList,rfl,⟨ee,t2⟩,?_⟩,h⟩
 have:=VRs.ofInts (p:=c.prog) (w:=c.w) (h:=insH b (s.heap.objs.size + 1) (seqObj "list" out ee)) a1
 rw [List.map_map] at this
 exact this
theorem Cal.removeI {a:Addr} {l1 l2:List Nat} {j:Nat} {pre post:List (Addr × AO)} (hH:σ.H = pre ++ (a,.list ((l1 ++ j :: l2).map fun (i:Nat)=>.int i)) :: post) (hno:j ∉ l1) (hl:(l1 ++ j :: l2).length ≤ 1000) (h:Q .none { σ with H:=pre ++ (a,.list ((l1 ++ l2).map fun (i:Nat)=>.int i)) :: post }) :
  Cal c (.builtin "list.remove") [.ref a,.int j] [] σ Q:=fun b k s vs kvs S r rk=>by
 obtain ⟨v,r',rfl,rfl,⟨u,r2,rfl,⟨t,rfl⟩,e⟩⟩:=r
 rw [show r2 = [] from e,show kvs = [] from List.map_eq_nil_iff.mp rk.1]
 obtain ⟨⟨us,⟨n,g⟩,rus⟩,_⟩:=S.led (a,.list ((l1 ++ j :: l2).map fun (i:Nat)=>.int i)) (by rw [hH];exact List.mem_append_right _ (.head _))
 have hlen:=VRs.length rus
 rw [List.length_map] at hlen
 rw [List.map_append,List.map_cons] at rus
 obtain ⟨us1,us2,rfl,z1,⟨v0,us3,rfl,⟨t0,rfl⟩,z2⟩⟩:=VRs.split rus
 have intz:∀ {l:List Nat} {ws:List Value},c.VRs b (l.map fun (i:Nat)=>.int i) ws → ∀ y ∈ ws,∃ i ∈ l,∃ t,y = .int (i:Int) t:=by
  intro l
  induction l with
  | nil=>intro ws e y hy;rw [show ws = [] from e] at hy;cases hy
  | cons x l ih=>
   rintro ws ⟨w,r,rfl,⟨t,rfl⟩,z⟩ y hy
   rcases List.mem_cons.mp hy with rfl | hy
   ·exact ⟨x,.head _,t,rfl⟩
   ·obtain ⟨i,hi,q⟩:=ih z y hy
    exact ⟨i,.tail _ hi,q⟩
 have hall:∀ y ∈ us1 ++ Value.int (j:Int) t0 :: us3,∃ i:Nat,∃ t,y = .int (i:Int) t:=fun y hy=>by
  rcases List.mem_append.mp hy with hy | hy
  ·obtain ⟨i,_,q⟩:=intz z1 y hy;exact ⟨i,q⟩
  ·rcases List.mem_cons.mp hy with rfl | hy
   ·exact ⟨j,t0,rfl⟩
   ·obtain ⟨i,_,q⟩:=intz z2 y hy;exact ⟨i,q⟩
 have hl1:us1.length < (us1 ++ Value.int (j:Int) t0 :: us3).toArray.size:=by
  rw [List.size_toArray,List.length_append,List.length_cons];lia
 refine call_meets F.slot_list_remove ⟨_,g,rfl⟩ F.entry_list_remove (F.args_list_remove_2 _ _) (MeetsSeq.list_remove a (us1 ++ Value.int (j:Int) t0 :: us3).toArray n (.int j t) (fun y=>match y with | .int z _=>z == (j:Int) | _=>false) (fun y hy=>?_) us1.length hl1 ?_ (fun m hm hlt=>?_) ?_) ⟨g,?_⟩
 ·obtain ⟨i,ti,rfl⟩:=hall y (by simpa using hy)
  exact MeetsSeq.EqGives.int _ _ _ _
 ·rw [List.getElem_toArray,List.getElem_append_right (Nat.le_refl _)]
  simp
 ·rw [List.getElem_toArray,List.getElem_append_left hlt]
  obtain ⟨i,hi,ti,e⟩:=intz z1 _ (List.getElem_mem hlt)
  rw [e]
  exact beq_eq_false_iff_ne.mpr fun e=>hno (by rw [← Int.ofNat_inj.mp e];exact hi)
 ·rw [List.size_toArray,hlen,sizeLine_eq];lia
 ·refine Post.at (R:=c.VR) (y:=.none) (S.setL hH g _ (us:=us1 ++ us3) ?_ (by rw [List.map_append];exact VRs.append z1 z2) _) rfl h
  unfold Array.eraseIdxIfInBounds
  rw [dif_pos hl1]
  refine Array.ext' ?_
  rw [Array.toList_eraseIdx,List.eraseIdx_append_of_length_le (Nat.le_refl _),Nat.sub_self]
  rfl
end
end Lw
end
section
open PySem PySem.Calls PySem.W PyProof.Rows
namespace Lw
open PySem.Challenge (pw_kt0098_01)
noncomputable abbrev F_translate:Fn:=topFn pw_kt0098_01 5
noncomputable abbrev F_escape:Fn:=topFn pw_kt0098_01 8
noncomputable abbrev F_tr:Fn:=topFn pw_kt0098_01 10
noncomputable abbrev F_jtp:Fn:=topFn pw_kt0098_01 11
noncomputable abbrev F_index:Fn:=topFn pw_kt0098_01 15
noncomputable abbrev F_IOBase_new:Fn:=clsFn pw_kt0098_01 17 1
noncomputable abbrev F_StringIO_init:Fn:=clsFn pw_kt0098_01 21 1
noncomputable abbrev F_StringIO_p_translated:Fn:=clsFn pw_kt0098_01 21 2
noncomputable abbrev F_StringIO_p_check:Fn:=clsFn pw_kt0098_01 21 3
noncomputable abbrev F_StringIO_read:Fn:=clsFn pw_kt0098_01 21 25
noncomputable abbrev F_join:Fn:=topFn pw_kt0098_01 33
noncomputable abbrev F_shlex_init:Fn:=clsFn pw_kt0098_01 31 0
noncomputable abbrev F_shlex_punctuation_chars:Fn:=clsFn pw_kt0098_01 31 1
noncomputable abbrev F_shlex_get_token:Fn:=clsFn pw_kt0098_01 31 5
noncomputable abbrev F_shlex_read_token:Fn:=clsFn pw_kt0098_01 31 6
noncomputable abbrev F_shlex_iter:Fn:=clsFn pw_kt0098_01 31 9
noncomputable abbrev F_shlex_next:Fn:=clsFn pw_kt0098_01 31 10
noncomputable abbrev F_split:Fn:=topFn pw_kt0098_01 32
noncomputable abbrev F_quote:Fn:=topFn pw_kt0098_01 36
noncomputable abbrev F_Headers_init:Fn:=clsFn pw_kt0098_01 40 0
noncomputable abbrev F_Headers_convert_string_type:Fn:=clsFn pw_kt0098_01 40 1
noncomputable abbrev F_Headers_setitem:Fn:=clsFn pw_kt0098_01 40 3
noncomputable abbrev F_Headers_delitem:Fn:=clsFn pw_kt0098_01 40 4
noncomputable abbrev F_Headers_get:Fn:=clsFn pw_kt0098_01 40 8
noncomputable abbrev F_Headers_items:Fn:=clsFn pw_kt0098_01 40 11
noncomputable abbrev F_draws:Fn:=topFn pw_kt0098_01 42
noncomputable abbrev F_heard:Fn:=topFn pw_kt0098_01 43
noncomputable abbrev F_past:Fn:=topFn pw_kt0098_01 44
noncomputable abbrev F_send:Fn:=topFn pw_kt0098_01 45
noncomputable abbrev F_mails:Fn:=topFn pw_kt0098_01 46
noncomputable abbrev F_plain:Fn:=topFn pw_kt0098_01 47
noncomputable abbrev F_test:Fn:=topFn pw_kt0098_01 48
noncomputable abbrev F_takes:Fn:=topFn pw_kt0098_01 49
noncomputable abbrev F_rounds:Fn:=topFn pw_kt0098_01 50
noncomputable abbrev F_order:Fn:=topFn pw_kt0098_01 51
noncomputable abbrev F_law:Fn:=topFn pw_kt0098_01 52
end Lw
end
section
open PySem PySem.Calls PySem.W PyProof.Rows
namespace Lw
noncomputable def dg (ds:List Nat) (k:Nat):Nat:=ds.getD k 0
noncomputable def who (ds:List Nat) (k:Nat):Nat:=dg ds k % 3
noncomputable def heard (ds:List Nat) (k:Nat):List Nat:=(List.range k).filter fun j=>dg ds k / 3 / 2 ^ j % 2 == 1
noncomputable def same (ds:List Nat) (k:Nat):List Nat:=(List.range k).filter fun i=>dg ds i % 3 == dg ds k % 3
noncomputable def befo (ds:List Nat) (k:Nat):List Nat:=heard ds k ++ same ds k
noncomputable def pstep (ds:List Nat) (L:List (Nat → Bool)) (k:Nat):Nat → Bool:=(befo ds k).foldl (fun S j i=>S i || (L.getD j fun _=>false) i) fun i=>decide (i = k)
noncomputable def pst (ds:List Nat):Nat → List (Nat → Bool)
 | 0=>[]
 | k + 1=>pst ds k ++ [pstep ds (pst ds k) k]
theorem pst_len (ds:List Nat):∀ k,(pst ds k).length = k
 | 0=>rfl
 | k + 1=>by unfold pst;rw [List.length_append,pst_len ds k];rfl
noncomputable def pastB (ds:List Nat) (k:Nat):Nat → Bool:=pstep ds (pst ds k) k
theorem pst_get (ds:List Nat) {k:Nat}:∀ {m:Nat},k < m → (pst ds m).getD k (fun _=>false) = pastB ds k
 | m + 1,h=>by
  unfold pst
  rw [List.getD_eq_getElem?_getD]
  by_cases e:k < m
  ·rw [List.getElem?_append_left (by rw [pst_len];exact e),← List.getD_eq_getElem?_getD]
   exact pst_get ds e
  ·obtain rfl:k = m:=by lia
   rw [List.getElem?_append_right (by rw [pst_len];exact Nat.le_refl _),pst_len,Nat.sub_self];rfl
theorem fold_or {β:Type} (f:β → Nat → Bool) (i:Nat):∀ (l:List β) (S:Nat → Bool),(l.foldl (fun S j i=>S i || f j i) S) i = true ↔ S i = true ∨ ∃ j ∈ l,f j i = true
 | [],S=>by simp
 | x :: l,S=>by
  rw [List.foldl_cons,fold_or f i l]
  simp only [Bool.or_eq_true,List.mem_cons]
  constructor
  ·rintro ((h | h) | ⟨j,hj,h⟩)
   ·exact .inl h
   ·exact .inr ⟨x,.inl rfl,h⟩
   ·exact .inr ⟨j,.inr hj,h⟩
  ·rintro (h | ⟨j,rfl | hj,h⟩)
   ·exact .inl (.inl h)
   ·exact .inl (.inr h)
   ·exact .inr ⟨j,hj,h⟩
theorem befo_lt {ds:List Nat} {k j:Nat} (h:j ∈ befo ds k):j < k:=by
 rcases List.mem_append.mp h with h | h
 ·exact List.mem_range.mp (List.mem_filter.mp h).1
 ·exact List.mem_range.mp (List.mem_filter.mp h).1
theorem past_iff {ds:List Nat} {k i:Nat}:pastB ds k i = true ↔ i = k ∨ ∃ j ∈ befo ds k,pastB ds j i = true:=by
 unfold pastB
 unfold pstep
 rw [fold_or (fun j=>(pst ds k).getD j fun _=>false),decide_eq_true_eq]
 refine or_congr_right ⟨fun ⟨j,hj,h⟩=>⟨j,hj,?_⟩,fun ⟨j,hj,h⟩=>⟨j,hj,?_⟩⟩
 ·rw [pst_get ds (befo_lt hj)] at h
  exact h
 ·rw [pst_get ds (befo_lt hj)]
  exact h
theorem past_self (ds:List Nat) (k:Nat):pastB ds k k = true:=past_iff.mpr (.inl rfl)
theorem past_le {ds:List Nat}:∀ {k i:Nat},pastB ds k i = true → i ≤ k:=by
 intro k
 induction k using Nat.strongRecOn with
 | _ k ih=>
  intro i h
  rcases past_iff.mp h with rfl | ⟨j,hj,h⟩
  ·exact Nat.le_refl _
  ·exact Nat.le_trans (ih j (befo_lt hj) h) (Nat.le_of_lt (befo_lt hj))
theorem past_trans {ds:List Nat}:∀ {k i j:Nat},pastB ds k i = true → pastB ds i j = true → pastB ds k j = true:=by
 intro k
 induction k using Nat.strongRecOn with
 | _ k ih=>
  intro i j h h2
  rcases past_iff.mp h with rfl | ⟨m,hm,h⟩
  ·exact h2
  ·exact past_iff.mpr (.inr ⟨m,hm,ih m (befo_lt hm) h h2⟩)
noncomputable def cntW (ds:List Nat) (m x:Nat):Nat:=((List.range m).filter fun i=>who ds i == x).length
theorem cntW_succ (ds:List Nat) (m x:Nat):cntW ds (m + 1) x = cntW ds m x + if who ds m = x then 1 else 0:=by
 unfold cntW
 rw [List.range_succ,List.filter_append,List.length_append,List.filter_cons,List.filter_nil]
 congr 1
 by_cases h:who ds m = x
 ·rw [if_pos h,if_pos (beq_iff_eq.mpr h)];rfl
 ·rw [if_neg h,if_neg (fun e=>h (beq_iff_eq.mp e))];rfl
theorem cntW_mono {ds:List Nat} {x:Nat} {m n:Nat} (h:m ≤ n):cntW ds m x ≤ cntW ds n x:=by
 induction n with
 | zero=>obtain rfl:=Nat.le_zero.mp h;exact Nat.le_refl _
 | succ n ih=>
  rcases Nat.lt_or_eq_of_le h with h | rfl
  ·exact Nat.le_trans (ih (Nat.le_of_lt_succ h)) (by rw [cntW_succ];exact Nat.le_add_right _ _)
  ·exact Nat.le_refl _
theorem cntW_lt {ds:List Nat} {i n:Nat} (h:i < n):cntW ds i (who ds i) < cntW ds n (who ds i):=
 Nat.lt_of_lt_of_le (by rw [cntW_succ,if_pos rfl];exact Nat.lt_succ_self _) (cntW_mono (Nat.succ_le_of_lt h))
theorem cntW_ex {ds:List Nat} {x r:Nat}:∀ {n:Nat},r < cntW ds n x → ∃ i < n,who ds i = x ∧ cntW ds i x = r
 | 0,h=>absurd h (Nat.not_lt_zero _)
 | n + 1,h=>by
  rw [cntW_succ] at h
  by_cases hl:r < cntW ds n x
  ·obtain ⟨i,hi,h1,h2⟩:=cntW_ex hl
   exact ⟨i,Nat.lt_succ_of_lt hi,h1,h2⟩
  ·by_cases hw:who ds n = x
   ·rw [if_pos hw] at h
    exact ⟨n,Nat.lt_succ_self _,hw,by lia⟩
   ·rw [if_neg hw] at h
    exact absurd h hl
noncomputable def rank (ds:List Nat) (i:Nat):Nat:=cntW ds i (who ds i)
theorem rank_inj {ds:List Nat} {i j:Nat} (hw:who ds i = who ds j) (h:rank ds i = rank ds j):i = j:=by
 unfold rank at h
 rcases Nat.lt_trichotomy i j with hlt | rfl | hlt
 ·have:=cntW_lt (ds:=ds) hlt
  rw [hw] at this h
  lia
 ·rfl
 ·have:=cntW_lt (ds:=ds) hlt
  rw [← hw] at this h
  lia
theorem rank_lt {ds:List Nat} {i j:Nat} (hw:who ds i = who ds j):rank ds i < rank ds j ↔ i < j:=by
 unfold rank
 constructor
 ·intro h
  refine Nat.not_le.mp fun hle=>?_
  have:=cntW_mono (ds:=ds) (x:=who ds j) hle
  rw [hw] at h
  lia
 ·intro h
  have:=cntW_lt (ds:=ds) h
  rw [← hw]
  exact this
noncomputable def lo1 (c:Nat):Nat:=if c < 97 then c + 32 else c
noncomputable abbrev Tab:=List (Nat × Nat)
noncomputable def getT (t:Tab) (c:Nat):Nat:=match t.find? fun q=>lo1 q.1 == lo1 c with
 | some q=>q.2
 | none=>0
noncomputable def setT (t:Tab) (c v:Nat):Tab:=(t.filter fun q=>lo1 q.1 != lo1 c) ++ [(c,v)]
noncomputable def updT (t:Tab) (q:Nat × Nat):Tab:=if getT t q.1 < q.2 then setT t q.1 q.2 else t
theorem get_set (t:Tab) (c v d:Nat):getT (setT t c v) d = if lo1 d = lo1 c then v else getT t d:=by
 unfold getT setT
 rw [List.find?_append]
 by_cases h:lo1 d = lo1 c
 ·rw [if_pos h,List.find?_eq_none.mpr fun q hq=>?_]
  ·rw [Option.none_or,List.find?_cons,h,beq_self_eq_true]
  ·have:=(List.mem_filter.mp hq).2
   rw [bne_iff_ne] at this
   rw [h]
   simpa using this
 ·rw [if_neg h,List.find?_filter]
  have e:(fun q:Nat × Nat=>decide ((lo1 q.1 != lo1 c) = true ∧ (lo1 q.1 == lo1 d) = true)) = fun q=>lo1 q.1 == lo1 d:=by
   funext q
   cases hq:lo1 q.1 == lo1 d with
   | false=>exact decide_eq_false fun h=>Bool.false_ne_true h.2
   | true=>
    refine decide_eq_true ⟨?_,rfl⟩
    rw [bne_iff_ne]
    intro e
    exact h ((beq_iff_eq.mp hq).symm.trans e)
  rw [e,List.find?_cons,show (lo1 c == lo1 d) = false from beq_eq_false_iff_ne.mpr fun e=>h e.symm,List.find?_nil,Option.or_none]
theorem get_upd (t:Tab) (q:Nat × Nat) (d:Nat):getT (updT t q) d = if lo1 d = lo1 q.1 then max (getT t d) q.2 else getT t d:=by
 unfold updT
 have hd:lo1 d = lo1 q.1 → getT t d = getT t q.1:=fun h=>by unfold getT;rw [h]
 split
 ·rename_i h
  rw [get_set]
  split
  ·rename_i e
   rw [hd e]
   exact (Nat.max_eq_right (Nat.le_of_lt h)).symm
  ·rfl
 ·rename_i h
  split
  ·rename_i e
   rw [hd e]
   exact (Nat.max_eq_left (Nat.not_lt.mp h)).symm
  ·rfl
noncomputable def Nd (t:Tab):Prop:=(t.map fun q=>lo1 q.1).Nodup
theorem nd_set {t:Tab} (h:Nd t) (c v:Nat):Nd (setT t c v):=by
 unfold Nd setT
 rw [List.map_append,List.map_singleton]
 refine List.nodup_append.mpr ⟨?_,by simp,?_⟩
 ·exact h.sublist (List.filter_sublist.map _)
 ·intro a ha b hb e
  obtain ⟨q,hq,rfl⟩:=List.mem_map.mp ha
  have:=(List.mem_filter.mp hq).2
  rw [bne_iff_ne] at this
  rw [List.mem_singleton.mp hb] at e
  exact this e
theorem nd_upd {t:Tab} (h:Nd t) (q:Nat × Nat):Nd (updT t q):=by
 unfold updT
 split
 ·exact nd_set h _ _
 ·exact h
theorem nd_fold:∀ {M t:Tab},Nd t → Nd (M.foldl updT t)
 | [],t,h=>h
 | q :: M,t,h=>nd_fold (M:=M) (nd_upd h q)
theorem get_cons (q:Nat × Nat) (M:Tab) (d:Nat):getT (q :: M) d = if lo1 q.1 = lo1 d then q.2 else getT M d:=by
 unfold getT
 rw [List.find?_cons]
 by_cases h:lo1 q.1 = lo1 d
 ·rw [if_pos h,beq_iff_eq.mpr h]
 ·rw [if_neg h,beq_eq_false_iff_ne.mpr h]
theorem get_no {M:Tab} {d:Nat} (h:lo1 d ∉ M.map fun q=>lo1 q.1):getT M d = 0:=by
 unfold getT
 rw [List.find?_eq_none.mpr fun q hq e=>h (List.mem_map.mpr ⟨q,hq,beq_iff_eq.mp e⟩)]
theorem get_fold:∀ {M t:Tab} (hM:Nd M) (d:Nat),getT (M.foldl updT t) d = max (getT t d) (getT M d)
 | [],t,_,d=>(Nat.max_zero _).symm
 | q :: M,t,hM,d=>by
  obtain ⟨h1,h2⟩:=List.nodup_cons.mp (show ((q :: M).map fun q=>lo1 q.1).Nodup from hM)
  rw [List.foldl_cons,get_fold h2 d,get_upd,get_cons]
  by_cases h:lo1 d = lo1 q.1
  ·rw [if_pos h,if_pos h.symm,get_no (M:=M) (by rw [h];exact h1),Nat.max_zero]
  ·rw [if_neg h,if_neg fun e=>h e.symm]
theorem lt_mx {r a b:Nat}:r < max a b ↔ r < a ∨ r < b:=
 ⟨fun h=>Decidable.byContradiction fun hn=>Nat.not_le.mpr h (Nat.max_le.mpr ⟨Nat.not_lt.mp fun x=>hn (.inl x),Nat.not_lt.mp fun x=>hn (.inr x)⟩),fun h=>h.elim (fun x=>Nat.lt_of_lt_of_le x (Nat.le_max_left _ _)) fun x=>Nat.lt_of_lt_of_le x (Nat.le_max_right _ _)⟩
theorem lt_foldm {f:Tab → Nat} {r:Nat}:∀ {L:List Tab} {t:Tab} (d:Nat),(∀ M ∈ L,Nd M) → (r < getT (L.flatten.foldl updT t) d ↔ r < getT t d ∨ ∃ M ∈ L,r < getT M d)
 | [],t,d,_=>by simp
 | M :: L,t,d,h=>by
  rw [List.flatten_cons,List.foldl_append,lt_foldm (f:=f) d fun M' hM'=>h M' (.tail _ hM'),get_fold (h M (.head _))]
  rw [lt_mx]
  simp only [List.mem_cons]
  constructor
  ·rintro ((a | a) | ⟨M',hM',a⟩)
   ·exact .inl a
   ·exact .inr ⟨M,.inl rfl,a⟩
   ·exact .inr ⟨M',.inr hM',a⟩
  ·rintro (a | ⟨M',rfl | hM',a⟩)
   ·exact .inl (.inl a)
   ·exact .inl (.inr a)
   ·exact .inr ⟨M',hM',a⟩
noncomputable def nmC (ds:List Nat) (k:Nat):Nat:=if k % 2 = 1 then 80 + who ds k else 112 + who ds k
theorem who_lt (ds:List Nat) (k:Nat):who ds k < 3:=Nat.mod_lt _ (by decide)
theorem lo_nm (ds:List Nat) (k:Nat):lo1 (nmC ds k) = 112 + who ds k:=by
 have:=who_lt ds k
 unfold nmC lo1
 split
 ·rw [if_pos (by lia)];lia
 ·rw [if_neg (by lia)]
theorem lo_hand {x:Nat} (h:x < 3):lo1 (112 + x) = 112 + x:=by unfold lo1;rw [if_neg (by lia)]
noncomputable def heardM (ds:List Nat) (ms:List Tab) (k:Nat):List Tab:=(heard ds k).map fun j=>ms.getD j []
noncomputable def sendT (t:Tab) (L:List Tab) (c:Nat):Tab:=setT (L.flatten.foldl updT t) c (getT (L.flatten.foldl updT t) c + 1)
structure MS where
 tab:Nat → Tab
 ms:List Tab
noncomputable def mstep (ds:List Nat) (s:MS) (k:Nat):MS:=
 ⟨fun h=>if h = who ds k then sendT (s.tab h) (heardM ds s.ms k) (nmC ds k) else s.tab h,s.ms ++ [sendT (s.tab (who ds k)) (heardM ds s.ms k) (nmC ds k)]⟩
noncomputable def mst (ds:List Nat):Nat → MS
 | 0=>⟨fun _=>[],[]⟩
 | k + 1=>mstep ds (mst ds k) k
structure MvI (ds:List Nat) (k:Nat) (s:MS):Prop where
 len:s.ms.length = k
 nd:∀ h,Nd (s.tab h)
 ndM:∀ j < k,Nd (s.ms.getD j [])
 own:∀ h < 3,getT (s.tab h) (112 + h) = cntW ds k h
 oth:∀ h < 3,∀ i,who ds i ≠ h → (rank ds i < getT (s.tab h) (112 + who ds i) ↔ ∃ j < k,who ds j = h ∧ pastB ds j i = true)
 ole:∀ h < 3,∀ x < 3,getT (s.tab h) (112 + x) ≤ cntW ds k x
 mail:∀ j < k,∀ i,rank ds i < getT (s.ms.getD j []) (112 + who ds i) ↔ pastB ds j i = true
 mle:∀ j < k,∀ x < 3,getT (s.ms.getD j []) (112 + x) ≤ cntW ds (j + 1) x
 last:∀ j < k,∃ t v,s.ms.getD j [] = t ++ [(nmC ds j,v)]
theorem mi_zero (ds:List Nat):MvI ds 0 (mst ds 0) where
 len:=rfl
 nd:=fun h=>List.nodup_nil
 ndM:=fun j h=>absurd h (Nat.not_lt_zero _)
 own:=fun h _=>rfl
 oth:=fun h _ i _=>⟨fun h=>absurd h (Nat.not_lt_zero _),fun ⟨j,h,_⟩=>absurd h (Nat.not_lt_zero _)⟩
 ole:=fun h _ x _=>Nat.zero_le _
 mail:=fun j h=>absurd h (Nat.not_lt_zero _)
 mle:=fun j h=>absurd h (Nat.not_lt_zero _)
 last:=fun j h=>absurd h (Nat.not_lt_zero _)
theorem mi_step {ds:List Nat} {k:Nat} {s:MS} (I:MvI ds k s):MvI ds (k + 1) (mstep ds s k):=by
 have w3:=who_lt ds k
 have hL:∀ M ∈ heardM ds s.ms k,∃ j ∈ heard ds k,M = s.ms.getD j []:=fun M hM=>by
  obtain ⟨j,hj,rfl⟩:=List.mem_map.mp hM
  exact ⟨j,hj,rfl⟩
 have hj:∀ {j},j ∈ heard ds k → j < k:=fun h=>List.mem_range.mp (List.mem_filter.mp h).1
 have hnd:∀ M ∈ heardM ds s.ms k,Nd M:=fun M hM=>by
  obtain ⟨j,h,rfl⟩:=hL M hM
  exact I.ndM j (hj h)
 generalize hT:(heardM ds s.ms k).flatten.foldl updT (s.tab (who ds k)) = T
 have lt:∀ r d,r < getT T d ↔ r < getT (s.tab (who ds k)) d ∨ ∃ j ∈ heard ds k,r < getT (s.ms.getD j []) d:=fun r d=>by
  rw [← hT,lt_foldm (f:=fun _=>0) d hnd]
  refine or_congr_right ⟨fun ⟨M,hM,h⟩=>?_,fun ⟨j,h1,h⟩=>⟨_,List.mem_map.mpr ⟨j,h1,rfl⟩,h⟩⟩
  obtain ⟨j,h1,rfl⟩:=hL M hM
  exact ⟨j,h1,h⟩
 have le:∀ x < 3,getT T (112 + x) ≤ cntW ds k x:=fun x hx=>by
  refine Nat.not_lt.mp fun hgt=>?_
  rcases (lt _ _).mp hgt with h | ⟨j,h1,h⟩
  ·exact absurd (I.ole _ w3 x hx) (Nat.not_le.mpr h)
  ·exact absurd (Nat.le_trans (I.mle j (hj h1) x hx) (cntW_mono (hj h1))) (Nat.not_le.mpr h)
 have eq:getT T (112 + who ds k) = cntW ds k (who ds k):=by
  refine Nat.le_antisymm (le _ w3) (Nat.not_lt.mp fun hlt=>?_)
  have:=(lt (getT T (112 + who ds k)) (112 + who ds k)).mpr (.inl (by rw [I.own _ w3];exact hlt))
  exact Nat.lt_irrefl _ this
 have hn:sendT (s.tab (who ds k)) (heardM ds s.ms k) (nmC ds k) = setT T (nmC ds k) (cntW ds k (who ds k) + 1):=by
  unfold sendT
  rw [hT]
  congr 2
  rw [← eq]
  unfold getT
  rw [lo_nm,lo_hand w3]
 have gN:∀ x < 3,getT (setT T (nmC ds k) (cntW ds k (who ds k) + 1)) (112 + x) = if x = who ds k then cntW ds k x + 1 else getT T (112 + x):=fun x hx=>by
  rw [get_set,lo_nm,lo_hand hx]
  by_cases e:x = who ds k
  ·rw [if_pos e,if_pos (by rw [e]),e]
  ·rw [if_neg e,if_neg (by lia)]
 generalize hN:setT T (nmC ds k) (cntW ds k (who ds k) + 1) = N at hn gN
 have ndN:Nd N:=by
  rw [← hN,← hT]
  exact nd_set (nd_fold (I.nd _)) _ _
 have mN:∀ i,rank ds i < getT N (112 + who ds i) ↔ pastB ds k i = true:=fun i=>by
  rw [gN _ (who_lt ds i),past_iff]
  by_cases e:who ds i = who ds k
  ·rw [if_pos e]
   constructor
   ·intro h
    rw [e] at h
    rcases Nat.lt_or_eq_of_le (Nat.le_of_lt_succ h) with h | h
    ·have hik:=(rank_lt (ds:=ds) e).mp h
     exact .inr ⟨i,List.mem_append_right _ (List.mem_filter.mpr ⟨List.mem_range.mpr hik,beq_iff_eq.mpr e⟩),past_self ds i⟩
    ·exact .inl (rank_inj (ds:=ds) e h)
   ·rintro (rfl | ⟨j,hjb,hp⟩)
    ·exact Nat.lt_succ_self _
    ·have hjk:=befo_lt hjb
     have h1:=(I.mail j hjk i).mpr hp
     have h2:=I.mle j hjk _ (who_lt ds i)
     have h3:=cntW_mono (ds:=ds) (x:=who ds i) (show j + 1 ≤ k from hjk)
     lia
  ·rw [if_neg e,lt,I.oth _ w3 i e]
   constructor
   ·rintro (⟨j,h1,h2,h3⟩ | ⟨j,h1,h2⟩)
    ·exact .inr ⟨j,List.mem_append_right _ (List.mem_filter.mpr ⟨List.mem_range.mpr h1,beq_iff_eq.mpr h2⟩),h3⟩
    ·exact .inr ⟨j,List.mem_append_left _ h1,(I.mail j (hj h1) i).mp h2⟩
   ·rintro (rfl | ⟨j,hjb,hp⟩)
    ·exact absurd rfl e
    ·rcases List.mem_append.mp hjb with h | h
     ·exact .inr ⟨j,h,(I.mail j (hj h) i).mpr hp⟩
     ·obtain ⟨h1,h2⟩:=List.mem_filter.mp h
      exact .inl ⟨j,List.mem_range.mp h1,beq_iff_eq.mp h2,hp⟩
 have leN:∀ x < 3,getT N (112 + x) ≤ cntW ds (k + 1) x:=fun x hx=>by
  rw [gN x hx,cntW_succ]
  split
  ·rename_i e;rw [if_pos e.symm];exact Nat.le_refl _
  ·exact Nat.le_trans (le x hx) (Nat.le_add_right _ _)
 have gOld:∀ j < k,(mstep ds s k).ms.getD j [] = s.ms.getD j []:=fun j h=>by
  show (s.ms ++ [_]).getD j [] = _
  rw [List.getD_eq_getElem?_getD,List.getElem?_append_left (by rw [I.len];exact h),← List.getD_eq_getElem?_getD]
 have gNew:(mstep ds s k).ms.getD k [] = N:=by
  show (s.ms ++ [_]).getD k [] = _
  rw [List.getD_eq_getElem?_getD,List.getElem?_append_right (by rw [I.len];exact Nat.le_refl _),I.len,Nat.sub_self,hn];rfl
 have tOwn:(mstep ds s k).tab (who ds k) = N:=by
  show (if who ds k = who ds k then _ else _) = N
  rw [if_pos rfl,hn]
 have tOth:∀ h,h ≠ who ds k → (mstep ds s k).tab h = s.tab h:=fun h e=>if_neg e
 have split:∀ {P:Nat → Prop},(∀ j < k,P j) → P k → ∀ j < k + 1,P j:=fun h1 h2 j hj'=>by
  rcases Nat.lt_or_eq_of_le (Nat.le_of_lt_succ hj') with h | rfl
  ·exact h1 j h
  ·exact h2
 exact {
  len:=by show (s.ms ++ [_]).length = _;rw [List.length_append,I.len];rfl
  nd:=fun h=>by
   by_cases e:h = who ds k
   ·rw [e,tOwn];exact ndN
   ·rw [tOth h e];exact I.nd h
  ndM:=split (fun j h=>by rw [gOld j h];exact I.ndM j h) (by rw [gNew];exact ndN)
  own:=fun h h3=>by
   by_cases e:h = who ds k
   ·subst e
    rw [tOwn,gN _ w3,if_pos rfl,cntW_succ,if_pos rfl]
   ·rw [tOth h e,I.own h h3,cntW_succ,if_neg fun e2=>e e2.symm];rfl
  oth:=fun h h3 i hi=>by
   by_cases e:h = who ds k
   ·subst e
    rw [tOwn,mN i,past_iff]
    constructor
    ·rintro (rfl | ⟨j,hjb,hp⟩)
     ·exact absurd rfl hi
     ·exact ⟨k,Nat.lt_succ_self k,rfl,past_iff.mpr (.inr ⟨j,hjb,hp⟩)⟩
    ·rintro ⟨j,hjk,hw,hp⟩
     rcases Nat.lt_or_eq_of_le (Nat.le_of_lt_succ hjk) with hlt | rfl
     ·exact .inr ⟨j,List.mem_append_right _ (List.mem_filter.mpr ⟨List.mem_range.mpr hlt,beq_iff_eq.mpr hw⟩),hp⟩
     ·exact past_iff.mp hp
   ·rw [tOth h e,I.oth h h3 i hi]
    refine ⟨fun ⟨j,h1,h2⟩=>⟨j,Nat.lt_succ_of_lt h1,h2⟩,fun ⟨j,h1,h2,hp⟩=>⟨j,?_,h2,hp⟩⟩
    rcases Nat.lt_or_eq_of_le (Nat.le_of_lt_succ h1) with hlt | rfl
    ·exact hlt
    ·exact absurd h2.symm e
  ole:=fun h h3 x hx=>by
   by_cases e:h = who ds k
   ·rw [e,tOwn];exact leN x hx
   ·rw [tOth h e];exact Nat.le_trans (I.ole h h3 x hx) (cntW_mono (Nat.le_succ k))
  mail:=split (fun j h i=>by rw [gOld j h];exact I.mail j h i) (fun i=>by rw [gNew];exact mN i)
  mle:=split (fun j h=>by rw [gOld j h];exact I.mle j h) (by rw [gNew];exact leN)
  last:=split (fun j h=>by rw [gOld j h];exact I.last j h) ⟨_,_,by rw [gNew,← hN];rfl⟩ }
theorem mi_all (ds:List Nat):∀ k,MvI ds k (mst ds k)
 | 0=>mi_zero ds
 | k + 1=>mi_step (mi_all ds k)
noncomputable def takesV (V:Tab) (s:Nat) (own:Tab):Bool:=decide (getT V (112 + s) = getT own (112 + s) + 1) && (List.range 3).all fun x=>x == s || decide (getT V (112 + x) ≤ getT own (112 + x))
structure OS where
 own:Tab
 wait:List Nat
 done:List Nat
noncomputable def pickJ (ds:List Nat) (ms:List Tab) (o:OS):Option Nat:=o.wait.find? fun j=>takesV (ms.getD j []) (who ds j) o.own
noncomputable def give (ds:List Nat) (o:OS) (j:Nat):OS:=⟨setT o.own (nmC ds j) (getT o.own (112 + who ds j) + 1),o.wait.erase j,o.done ++ [j]⟩
structure OI (ds:List Nat) (n:Nat) (come:List Nat) (o:OS):Prop where
 vec:∀ i < n,rank ds i < getT o.own (112 + who ds i) ↔ i ∈ o.done
 ole:∀ x < 3,getT o.own (112 + x) ≤ cntW ds n x
 perm:(o.wait ++ o.done).Perm come
 nd:come.Nodup
 lt:∀ j ∈ come,j < n
 ord:∀ a k b,o.done = a ++ k :: b → ∀ i,pastB ds k i = true → i ∈ a ∨ i = k
theorem takes_iff {ds:List Nat} {n:Nat} {come:List Nat} {o:OS} (I:OI ds n come o) {j:Nat} (hj:j < n):takesV ((mst ds n).ms.getD j []) (who ds j) o.own = true ↔ j ∉ o.done ∧ ∀ i,pastB ds j i = true → i ≠ j → i ∈ o.done:=by
 have M:=mi_all ds n
 have w3:=who_lt ds j
 have vs:getT ((mst ds n).ms.getD j []) (112 + who ds j) = rank ds j + 1:=by
  have h1:=(M.mail j hj j).mpr (past_self ds j)
  have h2:=M.mle j hj _ w3
  rw [cntW_succ,if_pos rfl] at h2
  exact Nat.le_antisymm h2 h1
 unfold takesV
 rw [Bool.and_eq_true,decide_eq_true_eq,List.all_eq_true,vs]
 have alls:(∀ x ∈ List.range 3,(x == who ds j || decide (getT ((mst ds n).ms.getD j []) (112 + x) ≤ getT o.own (112 + x))) = true) ↔ ∀ x < 3,x ≠ who ds j → getT ((mst ds n).ms.getD j []) (112 + x) ≤ getT o.own (112 + x):=by
  constructor
  ·intro h x hx hne
   have:=h x (List.mem_range.mpr hx)
   rw [beq_eq_false_iff_ne.mpr hne,Bool.false_or,decide_eq_true_eq] at this
   exact this
  ·intro h x hx
   by_cases e:x = who ds j
   ·rw [beq_iff_eq.mpr e];rfl
   ·rw [decide_eq_true (h x (List.mem_range.mp hx) e),Bool.or_true]
 rw [alls]
 constructor
 ·rintro ⟨h1,h2⟩
  refine ⟨fun hd=>?_,fun i hp hne=>?_⟩
  ·have:=(I.vec j hj).mpr hd
   rw [← Nat.succ.inj h1] at this
   exact Nat.lt_irrefl _ this
  ·have hin:i < n:=Nat.lt_of_le_of_lt (past_le hp) hj
   refine (I.vec i hin).mp ?_
   by_cases e:who ds i = who ds j
   ·have hij:i < j:=Nat.lt_of_le_of_ne (past_le hp) hne
    have:=(rank_lt (ds:=ds) e).mpr hij
    rw [e,← Nat.succ.inj h1]
    exact this
   ·exact Nat.lt_of_lt_of_le ((M.mail j hj i).mpr hp) (h2 _ (who_lt ds i) e)
 ·rintro ⟨h1,h2⟩
  have hnot:¬ rank ds j < getT o.own (112 + who ds j):=fun h=>h1 ((I.vec j hj).mp h)
  refine ⟨?_,fun x hx hne=>?_⟩
  ·refine congrArg (· + 1) (Nat.le_antisymm ?_ (Nat.not_lt.mp hnot))
   rcases Nat.eq_zero_or_pos (rank ds j) with h0 | h0
   ·rw [h0];exact Nat.zero_le _
   ·obtain ⟨i,hi,hw,hr⟩:=cntW_ex (ds:=ds) (x:=who ds j) (n:=j) (r:=rank ds j - 1) (show rank ds j - 1 < rank ds j from Nat.sub_lt h0 Nat.one_pos)
    have hri:rank ds i = rank ds j - 1:=by unfold rank at hr ⊢;rw [hw];exact hr
    have hp:pastB ds j i = true:=past_iff.mpr (.inr ⟨i,List.mem_append_right _ (List.mem_filter.mpr ⟨List.mem_range.mpr hi,beq_iff_eq.mpr hw⟩),past_self ds i⟩)
    have:=(I.vec i (Nat.lt_trans hi hj)).mpr (h2 i hp (Nat.ne_of_lt hi))
    rw [hw,hri] at this
    exact Nat.le_of_pred_lt this
  ·rcases Nat.eq_zero_or_pos (getT ((mst ds n).ms.getD j []) (112 + x)) with h0 | h0
   ·rw [h0];exact Nat.zero_le _
   ·have hle:=M.mle j hj x hx
    obtain ⟨i,hi,hw,hr⟩:=cntW_ex (ds:=ds) (x:=x) (n:=j + 1) (r:=getT ((mst ds n).ms.getD j []) (112 + x) - 1) (Nat.lt_of_lt_of_le (Nat.sub_lt h0 Nat.one_pos) hle)
    have hri:rank ds i = getT ((mst ds n).ms.getD j []) (112 + x) - 1:=by unfold rank;rw [hw];exact hr
    have hp:pastB ds j i = true:=(M.mail j hj i).mp (by rw [hw,hri];exact Nat.sub_lt h0 Nat.one_pos)
    have hij:i ≠ j:=fun e=>hne (by rw [← hw,e])
    have:=(I.vec i (Nat.lt_of_lt_of_le hi hj)).mpr (h2 i hp hij)
    rw [hw,hri] at this
    exact Nat.le_of_pred_lt this
theorem oi_give {ds:List Nat} {n:Nat} {come:List Nat} {o:OS} (I:OI ds n come o) {j:Nat} (hw:j ∈ o.wait) (ht:takesV ((mst ds n).ms.getD j []) (who ds j) o.own = true):OI ds n come (give ds o j):=by
 have hjc:j ∈ come:=I.perm.mem_iff.mp (List.mem_append_left _ hw)
 have hj:=I.lt j hjc
 obtain ⟨t1,t2⟩:=(takes_iff I hj).mp ht
 have w3:=who_lt ds j
 have hO:getT o.own (112 + who ds j) = rank ds j:=by
  have h1:¬ rank ds j < getT o.own (112 + who ds j):=fun h=>t1 ((I.vec j hj).mp h)
  have M:=mi_all ds n
  have hv:=(M.mail j hj j).mpr (past_self ds j)
  unfold takesV at ht
  rw [Bool.and_eq_true,decide_eq_true_eq] at ht
  rw [ht.1] at hv
  exact Nat.le_antisymm (Nat.not_lt.mp h1) (Nat.le_of_lt_succ hv)
 have gN:∀ x < 3,getT (give ds o j).own (112 + x) = if x = who ds j then rank ds j + 1 else getT o.own (112 + x):=fun x hx=>by
  show getT (setT _ _ _) _ = _
  rw [get_set,lo_nm,lo_hand hx,hO]
  by_cases e:x = who ds j
  ·rw [if_pos e,if_pos (by rw [e])]
  ·rw [if_neg e,if_neg (by lia)]
 exact {
  vec:=fun i hi=>by
   rw [gN _ (who_lt ds i)]
   show _ ↔ i ∈ o.done ++ [j]
   rw [List.mem_append,List.mem_singleton]
   by_cases e:who ds i = who ds j
   ·rw [if_pos e,← I.vec i hi,e,hO]
    constructor
    ·intro h
     rcases Nat.lt_or_eq_of_le (Nat.le_of_lt_succ h) with h | h
     ·exact .inl h
     ·exact .inr (rank_inj (ds:=ds) e h)
    ·rintro (h | rfl)
     ·exact Nat.lt_succ_of_lt h
     ·exact Nat.lt_succ_self _
   ·rw [if_neg e,I.vec i hi]
    exact ⟨.inl,fun h=>h.resolve_right fun e2=>e (by rw [e2])⟩
  ole:=fun x hx=>by
   rw [gN x hx]
   split
   ·rename_i e
    rw [e]
    have:=cntW_lt (ds:=ds) hj
    unfold rank
    lia
   ·exact I.ole x hx
  perm:=by
   show (o.wait.erase j ++ (o.done ++ [j])).Perm come
   refine List.Perm.trans ?_ I.perm
   have h1:=(List.perm_cons_erase hw).append_right o.done
   refine List.Perm.trans ?_ h1.symm
   rw [← List.append_assoc]
   exact List.perm_append_comm
  nd:=I.nd
  lt:=I.lt
  ord:=fun a k b e i hp=>by
   have e:o.done ++ [j] = a ++ k :: b:=e
   rcases List.append_eq_append_iff.mp e with ⟨c,e1,e2⟩ | ⟨c,e1,e2⟩
   ·cases c with
    | nil=>
     simp only [List.nil_append,List.append_nil,List.cons.injEq] at e1 e2
     obtain ⟨rfl,_⟩:=e2
     by_cases hij:i = j
     ·exact .inr hij
     ·exact .inl (by rw [e1];exact t2 i hp hij)
    | cons x c=>
     rw [List.cons_append,List.cons.injEq] at e2
     exact absurd e2.2.symm (by simp)
   ·cases c with
    | nil=>
     simp only [List.append_nil,List.nil_append,List.cons.injEq] at e1 e2
     obtain ⟨rfl,_⟩:=e2
     by_cases hij:i = k
     ·exact .inr hij
     ·exact .inl (by rw [← e1];exact t2 i hp hij)
    | cons x c=>
     rw [List.cons_append,List.cons.injEq] at e2
     obtain ⟨rfl,_⟩:=e2
     exact I.ord a k c e1 i hp }
theorem oi_done {ds:List Nat} {n:Nat} {come:List Nat} {o:OS} (I:OI ds n come o) (hq:pickJ ds (mst ds n).ms o = none) (k:Nat):k ∈ o.done ↔ ∀ i,pastB ds k i = true → i ∈ come:=by
 constructor
 ·intro hk i hp
  obtain ⟨a,b,e⟩:=List.append_of_mem hk
  refine I.perm.mem_iff.mp (List.mem_append_right _ ?_)
  rcases I.ord a k b e i hp with h | h
  ·rw [e];exact List.mem_append_left _ h
  ·rw [h];exact hk
 ·intro hall
  have key:∀ i,pastB ds k i = true → i ∈ o.done:=by
   intro i
   induction i using Nat.strongRecOn with
   | _ i ih=>
    intro hp
    have hic:=hall i hp
    rcases List.mem_append.mp (I.perm.mem_iff.mpr hic) with hw | hd
    ·refine Classical.byContradiction fun hnd=>?_
     have ht:=(takes_iff I (I.lt i hic)).mpr ⟨hnd,fun m hm hne=>ih m (Nat.lt_of_le_of_ne (past_le hm) hne) (past_trans hp hm)⟩
     exact List.find?_eq_none.mp hq i hw ht
    ·exact hd
  exact key k (past_self ds k)
theorem Atr.o3 {W₀:Wld} {c:Cx W₀} {Q:AV → St → Prop} {m cl:List (PySem.Str × AV)} {q1 q2 q3:Addr × AO} {R:List (Addr × AO)} {x C dx:Addr} {kvs:List (PySem.Str × AV)} {name:PySem.Str} {y:AV} (K:Cls W₀ C) (ha:findIn W₀.K (.ref C) name = some Option.none) (hl:kvs.lookup name = some y) (hb:y.isBi = false) (h:Q y ⟨m,cl,q1 :: q2 :: q3 :: (x,.inst C dx) :: (dx,.idict kvs) :: R⟩):Atr c name (.ref x) ⟨m,cl,q1 :: q2 :: q3 :: (x,.inst C dx) :: (dx,.idict kvs) :: R⟩ Q:=
 Atr.o K ⟨.tail _ (.tail _ (.tail _ (.head _))),.tail _ (.tail _ (.tail _ (.tail _ (.head _))))⟩ ha hl hb h
end Lw
end
section
open PySem PySem.Calls PySem.W PyProof.Rows
namespace Lw
local macro_rules | `(tactic| walk_at "j2")=>`(tactic| (refine Ev.atr ?_;refine Ev.loc (by rfl) (by rfl) ?_ (by kernel_rfl);refine Atr.o3 (by assumption) (noneIn.at (by assumption) (by decide +kernel)) (by rfl) (by rfl) ?_))
local macro_rules | `(tactic| walk_at "j1")=>`(tactic| (refine Ev.loc (by rfl) (by rfl) ?_ (by kernel_rfl)))
local macro_rules | `(tactic| walk_at "j3")=>`(tactic| (refine Sat.new3 (by assumption) rfl (by rfl) (Nat.le_of_ble_eq_true (by rfl)) (noneIn.at (by assumption) (by decide +kernel)) (by kernel_rfl) (by repeat (first | exact Snoc.nil | apply Snoc.cons)) ?_))
section
set_option maxHeartbeats 0
set_option maxRecDepth 20000
noncomputable abbrev drawsA (ds:List Nat):AV:=.lst (ds.map fun (d:Nat)=>.int d)
noncomputable abbrev inA1 (l:List Nat):AV:=.lst (l.map fun (i:Nat)=>.int i)
theorem s5 {n:Nat} (h:n ≤ 5):n ≤ sizeLine:=sl _ (Nat.le_trans h (by decide))
theorem s1k {n:Nat} (h:n ≤ 1000):n ≤ sizeLine:=sl _ (Nat.le_trans h (by decide))
theorem s5m {α β:Type} {f:α → β} {l:List α} (h:l.length ≤ 5):(l.map f).length ≤ sizeLine:=by rw [List.length_map];exact s5 h
theorem i63 {n:Nat} (h:n ≤ 1000):(n:Int) < 2 ^ 63:=by lia
theorem i5m {α β:Type} {f:α → β} {l:List α} (h:l.length ≤ 5):((l.map f).length:Int) < 2 ^ 63:=by rw [List.length_map];exact i63 (Nat.le_trans h (by decide))
theorem n62 {n:Nat} (h:n ≤ 5):n < 2 ^ 62:=Nat.lt_of_le_of_lt h (by decide)
theorem s5r {β:Type} {f:Nat → β} {n:Nat} (h:n ≤ 5):((List.range n).map f).length ≤ sizeLine:=by rw [List.length_map,List.length_range];exact s5 h
noncomputable def fltF (p:Nat → Bool) (a:AV):Option AV:=match a with
 | .int m=>if p m.toNat then some (.int m) else none
 | _=>none
theorem flt_all (p:Nat → Bool) (l:List Nat):(l.map fun (i:Nat)=>AV.int (i:Int)).filterMap (fltF p) = (l.filter p).map fun (i:Nat)=>AV.int (i:Int):=
 filterMap_map (fun (i:Nat)=>AV.int (i:Int)) (fltF p) p (fun (i:Nat)=>AV.int (i:Int)) (fun _=>rfl) _
theorem dg_at {ds:List Nat} {k:Nat} (h:k < ds.length):(ds.map fun (d:Nat)=>AV.int d)[k]? = some (.int (dg ds k:Nat)):=by
 unfold dg
 rw [List.getElem?_map,List.getElem?_eq_getElem h,List.getD_eq_getElem?_getD,List.getElem?_eq_getElem h];rfl
theorem powN (b j:Nat):((b:Int)) ^ ((j:Int)).toNat = ((b ^ j:Nat):Int):=by rw [Int.toNat_natCast,Int.natCast_pow]
theorem intEq (a b:Nat):((a:Int) == (b:Int)) = (a == b):=by
 rw [Bool.eq_iff_iff,beq_iff_eq,beq_iff_eq];exact Int.ofNat_inj
section
variable {W₀:Wld} {c:Cx W₀} {σ:St} {Q:AV → St → Prop}
theorem heard_spec {f:Addr} {n:Nat} (hf:Def W₀ f F_heard .none .none) (hr:c.Room (n + 1)) (bRange:bN W₀ "range" (.type "range")) {ds:List Nat} {k:Nat} (hk:k < ds.length) (h5:ds.length ≤ 5)
  (h:Q (inA1 (heard ds k)) σ):Cal c (.ref f) [drawsA ds,.int k] [] σ Q:=by
 refine call_def (bas:=[("draws",drawsA ds),("k",.int k)]) hf hr (fun q doc pm code=>?_) (by kernel_rfl) (by kernel_rfl) (by kernel_rfl) [] [("draws",drawsA ds),("k",.int k)] (by kernel_rfl) (by kernel_rfl) fun q doc pm code hfn L=>?_
 ·exact Bind.pos (ns:=["draws", "k"]) rfl (all2 fun v v2=>by kernel_rfl)
 have hr':(funCx c hfn L).Room n:=hr.fn hfn L
 refine Exs.cons ?_
 (refine Ex.ret ?_)
 refine Ev.lc (by rfl) ?_ (by kernel_rfl) (by kernel_rfl) (by rfl) (by intro _;rfl)
 (refine Ev.cT (by assumption) (by kernel_rfl) (by rfl) (by kernel_rfl) ?_;refine Sps.argC (by rfl) ?_;refine Ev.cel (by rfl) (by rfl) (by rfl) ?_ (by kernel_rfl);refine Sps.argN ?_)
 refine Cal.range1 ?_
 refine ⟨_,Itb.rngN (n:=k) (n62 (Nat.le_trans (Nat.le_of_lt hk) h5)),Turns.lst (fltF fun j=>dg ds k / 3 / 2 ^ j % 2 == 1) ?_ ?_ ?_⟩
 ·intro C G acc y hy
  obtain ⟨j,hj,rfl⟩:=List.mem_map.mp hy
  have hj:=List.mem_range.mp hj
  have eF:fltF (fun j=>dg ds k / 3 / 2 ^ j % 2 == 1) (.int (j:Int)) = if dg ds k / 3 / 2 ^ j % 2 == 1 then some (.int (j:Int)) else none:=rfl
  (refine Asn.name ?_;refine Sto.loc1 (by rfl) ?_;refine Ifs.one ?_;refine Tr.cmp1 (by with_unfolding_all rfl) ?_;refine Ev.binop ?_;refine Ev.binop ?_;refine Ev.binop ?_;refine Ev.sub ?_;refine Ev.cel (by rfl) (by rfl) (by rfl) ?_ (by kernel_rfl);refine Ev.cel (by rfl) (by rfl) (by rfl) ?_ (by kernel_rfl))
  refine I.listN (by intros;with_unfolding_all rfl) (.frz _) (dg_at hk) (s5m h5) ?_
  (refine Ev.int ?_)
  refine O.fdivN (k:=3) rfl (by decide) (by decide) ?_
  (refine Ev.binop ?_;refine Ev.int ?_;walk_at "j1")
  have hj4:j < 4:=by lia
  refine O.pow (Int.natCast_nonneg j) (by
   rw [show (Builtin.Int.intBits 2:Int) = 2 by decide +kernel]
   lia) ?_
  rw [show ((2:Int)) ^ ((j:Int)).toNat = ((2 ^ j:Nat):Int) from powN 2 j]
  refine O.fdivN (k:=2 ^ j) rfl (Nat.pow_pos (by decide)) (Nat.lt_of_le_of_lt (Nat.pow_le_pow_right (by decide) (Nat.le_of_lt hj4)) (by decide)) ?_
  (refine Ev.int ?_)
  refine O.fmodN (k:=2) rfl (by decide) ?_
  (refine Ev.int ?_;refine O.eqI ?_;refine T.bool ?_)
  rw [show (((dg ds k / 3 / 2 ^ j % 2:Nat):Int) == (1:Int)) = (dg ds k / 3 / 2 ^ j % 2 == 1) from intEq _ 1]
  cases hz:dg ds k / 3 / 2 ^ j % 2 == 1 with
  | false=>
   rw [hz] at eF
   (refine ite_N (by rfl) ?_)
   exact ⟨eF,.mm trivial rfl rfl⟩
  | true=>
   rw [hz] at eF
   (refine ite_T (by rfl) ?_;walk_at "j1")
   exact ⟨eF,.mm trivial rfl rfl⟩
 ·exact s5r (Nat.le_trans (Nat.le_of_lt hk) h5)
 intro G
 refine .lst G _ [] _ rfl rfl ?_
 rw [flt_all]
 skip
 exact h
theorem ins_nat (l:List Nat) (i k:Nat):insL (l.map fun (i:Nat)=>AV.int (i:Int)) i (.int k) = (insL l i k).map fun (i:Nat)=>AV.int (i:Int):=by
 unfold insL
 rw [List.map_append,List.map_cons,List.map_take,List.map_drop]
noncomputable def ordr (ds:List Nat):Nat → List Nat
 | 0=>[]
 | k + 1=>insL (ordr ds k) (dg ds k / 48 % (k + 1)) k
theorem ordr_len (ds:List Nat):∀ k,(ordr ds k).length = k
 | 0=>rfl
 | k + 1=>by
  have h:=ordr_len ds k
  unfold ordr insL
  rw [List.length_append,List.length_cons,← Nat.add_assoc,← List.length_append,List.take_append_drop,h]
theorem order_spec {f:Addr} {n:Nat} (hf:Def W₀ f F_order .none .none) (hr:c.Room (n + 1)) (bLen:bN W₀ "len" (.builtin "len")) (bRange:bN W₀ "range" (.type "range")) {ds:List Nat} (h5:ds.length ≤ 5)
  (h:Q (inA1 (ordr ds ds.length)) σ):Cal c (.ref f) [drawsA ds] [] σ Q:=by
 refine call_def (bas:=[("draws",drawsA ds)]) hf hr (fun q doc pm code=>?_) (by kernel_rfl) (by kernel_rfl) (by kernel_rfl) [("draws",drawsA ds)] [] (by kernel_rfl) (by kernel_rfl) fun q doc pm code hfn L=>?_
 ·exact Bind.pos (ns:=["draws"]) rfl (all1 fun v=>by kernel_rfl)
 have hr':(funCx c hfn L).Room n:=hr.fn hfn L
 refine Exs.cons ?_
 (refine Ex.asg1 (by rfl) ?_)
 refine Ev.lstL ?_
 (refine Sps.argN ?_)
 refine ⟨sl _ (Nat.zero_le _),fun D hD=>?_⟩
 (refine Sto.loc1 (by rfl) ?_;refine Exs.cons ?_;refine Ex.for1 (by intro _ ;rfl) ?_;refine Ev.cT (by assumption) (by kernel_rfl) (by rfl) (by kernel_rfl) ?_;refine Sps.argC (by rfl) ?_;refine Ev.cB (by assumption) (by kernel_rfl) (by rfl) (by kernel_rfl) ?_;refine Sps.argC (by rfl) ?_;walk_at "j1";refine Sps.argN ?_)
 refine Cal.lenL (.frz _) (i5m h5) ?_
 rw [List.length_map]
 (refine Sps.argN ?_)
 refine Cal.range1 ?_
 refine ⟨_,Itb.rngN (n:=ds.length) (n62 h5),fun pre=>⟨[("order",.ref D),("draws",drawsA ds)],[],(D,.list ((ordr ds pre.length).map fun (i:Nat)=>AV.int (i:Int))) :: σ.H⟩,.of ⟨rfl,rfl,trivial⟩ trivial rfl,fun pre y post e=>?_,?_⟩
 ·obtain ⟨rfl,hk⟩:=rng_pre e
  rw [show (pre ++ [AV.int (pre.length:Int)]).length = pre.length + 1 from List.length_append]
  generalize pre.length = k at hk ⊢
  have hol:=ordr_len ds k
  have hm:dg ds k / 48 % (k + 1) < k + 1:=Nat.mod_lt _ (Nat.succ_pos k)
  (refine Asn.name ?_;refine Sto.loc1 (by rfl) ?_;refine Exs.cons ?_;refine Ex.expr (by rfl) (by rfl) ?_;refine Ev.cM ⟨_,rfl⟩ (by rfl) ?_;walk_at "j1")
  refine ⟨_,HasM.insert (.head _),?_⟩
  (refine Sps.argC (by rfl) ?_;refine Ev.binop ?_;refine Ev.binop ?_;refine Ev.sub ?_;walk_at "j1";walk_at "j1")
  refine I.listN (by intros;with_unfolding_all rfl) (.frz _) (dg_at hk) (s5m h5) ?_
  (refine Ev.int ?_)
  refine O.fdivN (k:=48) rfl (by decide) (by decide) ?_
  (refine Ev.binop ?_;walk_at "j1";refine Ev.int ?_;refine O.add ?_)
  refine O.fmodN (k:=k + 1) rfl (Nat.succ_pos k) ?_
  (refine Sps.argC (by rfl) ?_;refine Ev.loc (by rfl) (by first | rfl | assumption) ?_ (by kernel_rfl);refine Sps.argN ?_)
  refine Cal.insert (pre:=[]) rfl ?_ (Int.natCast_nonneg _) ?_ ?_
  ·rw [List.length_map];exact sl _ (by lia)
  ·rw [List.length_map,Int.toNat_natCast];lia
  rw [Int.toNat_natCast,ins_nat]
  (refine Exs.nil ?_)
  exact .of ⟨rfl,rfl,trivial⟩ trivial rfl
 ·rw [List.length_map,List.length_range]
  refine Go.frzL "order" rfl (pre:=[]) rfl ?_
  (refine Exs.cons ?_;refine Ex.ret ?_;walk_at "j1")
  exact h
theorem cd5_pos {S:Nat → Bool} {i:Nat} (hi:i < 5) (hs:S i = true):0 < cd5 S:=
 List.length_pos_of_mem (List.mem_filter.mpr ⟨List.mem_range.mpr hi,hs⟩)
noncomputable def pf (ds l:List Nat) (k:Nat):Nat → Bool:=l.foldl (fun S j i=>S i || pastB ds j i) fun i=>decide (i = k)
theorem pf_self (ds l:List Nat) (k:Nat):pf ds l k k = true:=(fold_or (pastB ds) k l _).mpr (.inl (decide_eq_true rfl))
theorem pf_all (ds:List Nat) (k:Nat):pf ds (befo ds k) k = pastB ds k:=by
 funext i
 rw [Bool.eq_iff_iff,past_iff]
 unfold pf
 rw [fold_or (pastB ds) i,decide_eq_true_eq]
theorem pf_snoc (ds l:List Nat) (j k:Nat):pf ds (l ++ [j]) k = fun i=>pf ds l k i || pastB ds j i:=by
 unfold pf
 rw [List.foldl_append];rfl
theorem past_spec {f fH:Addr} {n:Nat} (hf:Def W₀ f F_past .none .none) (hH:Def W₀ fH F_heard .none .none) (gH:gN W₀ "_law_heard" (.ref fH)) (hr:c.Room (n + 2)) (bLen:bN W₀ "len" (.builtin "len")) (bRange:bN W₀ "range" (.type "range")) {ds:List Nat} (h5:ds.length ≤ 5)
  (h:∀ os:List Obj,os.length = ds.length → (∀ j o,os[j]? = some o → ISet W₀ o (pastB ds j)) → Q (.lst (os.map .obj)) σ):Cal c (.ref f) [drawsA ds] [] σ Q:=by
 refine call_def (bas:=[("draws",drawsA ds)]) hf hr (fun q doc pm code=>?_) (by kernel_rfl) (by kernel_rfl) (by kernel_rfl) [] [("draws",drawsA ds)] (by kernel_rfl) (by kernel_rfl) fun q doc pm code hfn L=>?_
 ·exact Bind.pos (ns:=["draws"]) rfl (all1 fun v=>by kernel_rfl)
 have hr':(funCx c hfn L).Room (n + 1):=hr.fn hfn L
 refine Exs.cons ?_
 (refine Ex.asg1 (by rfl) ?_)
 refine Ev.lstL ?_
 (refine Sps.argN ?_)
 refine ⟨sl _ (Nat.zero_le _),fun D hD=>?_⟩
 (refine Sto.loc1 (by rfl) ?_;refine Exs.cons ?_;refine Ex.forsG ?_ (by intro _;rfl);refine Ev.cT (by assumption) (by kernel_rfl) (by rfl) (by kernel_rfl) ?_;refine Sps.argC (by rfl) ?_;refine Ev.cB (by assumption) (by kernel_rfl) (by rfl) (by kernel_rfl) ?_;refine Sps.argC (by rfl) ?_;refine Ev.cel (by rfl) (by rfl) (by rfl) ?_ (by kernel_rfl);refine Sps.argN ?_)
 refine Cal.lenL (.frz _) (i5m h5) ?_
 rw [List.length_map]
 (refine Sps.argN ?_)
 refine Cal.range1 ?_
 refine .mk _ _ (Itb.rngN (n:=ds.length) (n62 h5)) (fun pre σ'=>∃ os:List Obj,os.length = pre.length ∧ (∀ j o,os[j]? = some o → ISet W₀ o (pastB ds j)) ∧ Lf σ' ⟨[("past",.ref D)],[("draws",drawsA ds)],(D,.list (os.map .obj)) :: σ.H⟩) ⟨[],rfl,fun j o e=>(by cases e),.of ⟨rfl,trivial⟩ ⟨rfl,trivial⟩ rfl⟩ (fun pre y post σ' e zz=>?_) (fun σ' zz=>?_) (fun _ _ _=>trivial)
 ·obtain ⟨os,o1,o2,l⟩:=zz
  obtain ⟨rfl,hk⟩:=rng_pre e
  rw [show (pre ++ [AV.int (pre.length:Int)]).length = pre.length + 1 from List.length_append]
  generalize pre.length = k at hk o1 ⊢
  have hcd:∃ cc o vs,(funCx c hfn L).env.code = .ref cc ∧ W₀.g0.get? cc = some o ∧ o.data = .fields vs:=by
   obtain ⟨cc,o,vs,t,e1,e2,e3,_⟩:=hfn.code
   exact ⟨cc,o,vs,e1,e2,e3⟩
  refine Op1.weakP l ?_
  (refine Asn.name ?_;refine Sto.cel1 (by rfl) (by rfl) (by kernel_rfl) ?_;refine Exs.cons ?_;refine Ex.asg1 (by rfl) ?_)
  refine Ev.set1 (i:=k) hcd (by rfl) (by rfl) rfl (by lia) (by kernel_rfl) fun o0 h0=>?_
  (refine Sto.loc1 (by rfl) ?_;refine Exs.cons ?_;refine Ex.forsG ?_ (by intro _;rfl);refine Ev.binop ?_)
  refine Ev.cF gH hH.cee (by kernel_rfl) (by rfl) (by kernel_rfl) ?_
  (refine Sps.argC (by rfl) ?_;refine Ev.cel (by rfl) (by rfl) (by rfl) ?_ (by kernel_rfl);refine Sps.argC (by rfl) ?_;refine Ev.cel (by rfl) (by rfl) (by rfl) ?_ (by kernel_rfl);refine Sps.argN ?_)
  refine heard_spec (n:=n) hH hr' bRange hk h5 ?_
  skip
  refine Ev.lc (by rfl) ?_ (by kernel_rfl) (by kernel_rfl) (by rfl) (by intro _;rfl)
  (refine Ev.cT (by assumption) (by kernel_rfl) (by rfl) (by kernel_rfl) ?_;refine Sps.argC (by rfl) ?_;refine Ev.cel (by rfl) (by rfl) (by rfl) ?_ (by kernel_rfl);refine Sps.argN ?_)
  refine Cal.range1 ?_
  refine ⟨_,Itb.rngN (n:=k) (n62 (Nat.le_trans (Nat.le_of_lt hk) h5)),Turns.lst (fltF fun i=>dg ds i % 3 == dg ds k % 3) ?_ ?_ ?_⟩
  ·intro C G acc y hy
   obtain ⟨i,hi,rfl⟩:=List.mem_map.mp hy
   have hi:=List.mem_range.mp hi
   have eF:fltF (fun i=>dg ds i % 3 == dg ds k % 3) (.int (i:Int)) = if dg ds i % 3 == dg ds k % 3 then some (.int (i:Int)) else none:=rfl
   (refine Asn.name ?_;refine Sto.loc1 (by rfl) ?_;refine Ifs.one ?_;refine Tr.cmp1 (by with_unfolding_all rfl) ?_;refine Ev.binop ?_;refine Ev.sub ?_;refine Ev.cel (by rfl) (by rfl) (by rfl) ?_ (by kernel_rfl);walk_at "j1")
   refine I.listN (by intros;with_unfolding_all rfl) (.frz _) (dg_at (Nat.lt_trans hi hk)) (s5m h5) ?_
   (refine Ev.int ?_)
   refine O.fmodN (k:=3) rfl (by decide) ?_
   (refine Ev.binop ?_;refine Ev.sub ?_;refine Ev.cel (by rfl) (by rfl) (by rfl) ?_ (by kernel_rfl);refine Ev.cel (by rfl) (by rfl) (by rfl) ?_ (by kernel_rfl))
   refine I.listN (by intros;with_unfolding_all rfl) (.frz _) (dg_at hk) (s5m h5) ?_
   (refine Ev.int ?_)
   refine O.fmodN (k:=3) rfl (by decide) ?_
   (refine O.eqI ?_;refine T.bool ?_)
   rw [intEq]
   cases hz:dg ds i % 3 == dg ds k % 3 with
   | false=>
    rw [hz] at eF
    (refine ite_N (by rfl) ?_)
    exact ⟨eF,.mm trivial rfl rfl⟩
   | true=>
    rw [hz] at eF
    (refine ite_T (by rfl) ?_;walk_at "j1")
    exact ⟨eF,.mm trivial rfl rfl⟩
  ·exact s5r (Nat.le_trans (Nat.le_of_lt hk) h5)
  intro G
  refine .lst G _ [] _ rfl rfl ?_
  rw [flt_all]
  have lh:(heard ds k).length ≤ 5:=Nat.le_trans (List.length_filter_le _ _) (by rw [List.length_range];exact Nat.le_trans (Nat.le_of_lt hk) h5)
  have ls:(same ds k).length ≤ 5:=Nat.le_trans (List.length_filter_le _ _) (by rw [List.length_range];exact Nat.le_trans (Nat.le_of_lt hk) h5)
  skip
  refine O.addL (.frz _) (.frz _) (sl _ (by rw [List.length_map,List.length_map];exact Nat.le_trans (Nat.add_le_add lh ls) (by decide))) ?_
  rw [← List.map_append,show heard ds k ++ (List.range k).filter (fun i=>dg ds i % 3 == dg ds k % 3) = befo ds k from rfl]
  refine .mk _ _ (Itb.lst _) (fun pre σ'=>∃ o,ISet W₀ o (pf ds ((befo ds k).take pre.length) k) ∧ Lf σ' ⟨[("known",.obj o),("past",.ref D)],[("k",.int k),("draws",drawsA ds)],(D,.list (os.map .obj)) :: σ.H⟩) ⟨o0,h0,.of ⟨rfl,rfl,trivial⟩ ⟨rfl,rfl,trivial⟩ rfl⟩ (fun pre y post σ' e zz=>?_) (fun σ' zz=>?_) (fun _ _ _=>trivial)
  ·obtain ⟨o,ho,l⟩:=zz
   obtain ⟨j,ej,rfl,_⟩:=at_pre e
   have hjb:j ∈ befo ds k:=by rw [ej];exact List.mem_append_right _ (.head _)
   have hjk:=befo_lt hjb
   have hbk:(befo ds k)[pre.length]? = some j:=by
    have hk2:pre.length < (befo ds k).length:=by have:=congrArg List.length e;rw [List.length_map,List.length_append,List.length_cons] at this;lia
    rw [ej,List.getElem?_append_right (List.length_take_le _ _),List.length_take_of_le (Nat.le_of_lt hk2),Nat.sub_self];rfl
   rw [show (pre ++ [AV.int (j:Int)]).length = pre.length + 1 from List.length_append,List.take_add_one,hbk]
   have hjo:j < os.length:=by rw [o1];exact hjk
   have gj:(os.map AV.obj)[j]? = some (.obj (os[j]'hjo)):=by
    rw [List.getElem?_map,List.getElem?_eq_getElem hjo];rfl
   have hj:=o2 j _ (List.getElem?_eq_getElem hjo)
   refine Op1.weakP l ?_
   (refine Asn.name ?_;refine Sto.loc1 (by rfl) ?_;refine Exs.cons ?_;refine Ex.asg1 (by rfl) ?_;refine Ev.binop ?_;walk_at "j1";refine Ev.sub ?_;walk_at "j1";walk_at "j1")
   refine I.listN (by intros;with_unfolding_all rfl) (.led _ _ (.head _)) gj (s5m (by rw [o1];exact Nat.le_trans (Nat.le_of_lt hk) h5)) ?_
   refine O.orSet ho hj (cd5_pos (i:=k) (Nat.lt_of_lt_of_le hk h5) (pf_self _ _ _)) (cd5_pos (i:=j) (Nat.lt_trans hjk (Nat.lt_of_lt_of_le hk h5)) (past_self ds j)) fun o' ho'=>?_
   (refine Sto.loc1 (by rfl) ?_;refine Exs.nil ?_)
   refine ⟨o',?_,.of ⟨rfl,rfl,trivial⟩ ⟨rfl,rfl,trivial⟩ rfl⟩
   show ISet W₀ o' (pf ds ((befo ds k).take pre.length ++ [j]) k)
   rw [pf_snoc]
   exact ho'
  ·obtain ⟨o,ho,l⟩:=zz
   rw [List.length_map,List.take_length,pf_all] at ho
   refine Go.weakP (Lf.le l) ?_
   (refine Exs.cons ?_;refine Ex.expr (by rfl) (by rfl) ?_;refine Ev.cM ⟨_,rfl⟩ (by rfl) ?_;walk_at "j1")
   refine ⟨_,HasM.append (.head _),?_⟩
   (refine Sps.argC (by rfl) ?_;refine Ev.loc (by rfl) (by first | rfl | assumption) ?_ (by kernel_rfl);refine Sps.argN ?_)
   refine Cal.append (pre:=[]) rfl (s5m (by rw [o1];exact Nat.le_trans (Nat.le_of_lt hk) h5)) ?_
   (refine Exs.nil ?_)
   refine ⟨os ++ [o],by rw [List.length_append,o1];rfl,fun j oj ej=>?_,.of ⟨rfl,trivial⟩ ⟨rfl,trivial⟩ ?_⟩
   ·by_cases hj:j < os.length
    ·rw [List.getElem?_append_left hj] at ej
     exact o2 j oj ej
    ·rw [List.getElem?_append_right (Nat.not_lt.mp hj)] at ej
     have h0:j - os.length = 0:=by
      cases q:j - os.length with
      | zero=>rfl
      | succ m=>rw [q] at ej;cases ej
     rw [h0] at ej
     cases ej
     obtain rfl:j = k:=Nat.le_antisymm (by rw [← o1];exact Nat.le_of_sub_eq_zero h0) (by rw [← o1];exact Nat.not_lt.mp hj)
     exact ho
   ·show _ = (D,AO.list ((os ++ [o]).map .obj)) :: _
    rw [List.map_append];rfl
 ·obtain ⟨os,o1,o2,l⟩:=zz
  rw [List.length_map,List.length_range] at o1
  refine Go.weakP (Lf.le l) ?_
  refine Go.frzL "past" rfl (pre:=[]) rfl ?_
  (refine Exs.cons ?_;refine Ex.ret ?_;walk_at "j1")
  exact h os o1 o2
end
end
section
set_option maxHeartbeats 0
set_option maxRecDepth 20000
section
variable {W₀:Wld} {c:Cx W₀} {σ:St} {Q:AV → St → Prop}
theorem conv_spec {f pn pv x:Addr} {n m:Nat} {cdn cdv:List Nat} (hf:Def W₀ f F_Headers_convert_string_type .none .none) (hr:c.Room (n + 1)) (hT:bN W₀ "type" (.type "type")) (hS:bN W₀ "str" (.type "str")) (hgn:gN W₀ "_name_disallowed_re" (.ref pn)) (hgv:gN W₀ "_value_disallowed_re" (.ref pv))
  (hpn:PatAt W₀.g0 pn cdn) (hpv:PatAt W₀.g0 pv cdv) {l:List Nat} {d:Bool} (hm:m ≤ 2 ^ 64) (hs:srch (if d then cdn else cdv) l m = some false) (h:Q (.str l) σ):Cal c (.ref f) [.ref x,.str l] [("name",.bool d)] σ Q:=by
 refine call_def (bas:=[("self",.ref x),("value",.str l),("name",.bool d)]) hf hr (fun q doc pm code=>?_) (by kernel_rfl) (by kernel_rfl) (by kernel_rfl) [("self",.ref x),("value",.str l),("name",.bool d)] [] (by kernel_rfl) (by kernel_rfl) fun q doc pm code hfn L=>?_
 ·exact Bind.kw (kw:=[("name",.bool d)]) (ns:=["self", "value"]) rfl fun vs us hv hu=>by
   revert hu
   revert us
   revert hv
   revert vs
   exact all2 fun v1 v2=>all1 fun u=>by kernel_rfl
 have hr':(funCx c hfn L).Room n:=hr.fn hfn L
 refine Exs.cons ?_
 (refine Ex.ifs ?_;refine Tr.cmp1 (by with_unfolding_all rfl) ?_;refine Ev.cT (by assumption) (by kernel_rfl) (by rfl) (by kernel_rfl) ?_;refine Sps.argC (by rfl) ?_;walk_at "j1";refine Sps.argN ?_)
 refine Cal.typeS ?_
 obtain ⟨mg,mb,g1,g2,g3,g4⟩:=hS
 refine Ev.blt (a:=.ty "str") (v:=.type "str") (by kernel_rfl) ⟨mg,mb,g1,g2,g3,g4⟩ (fun _=>rfl) ?_ (by kernel_rfl)
 refine O.isT (by rfl) ?_
 rw [show (Value.type "str" == Value.type "str") = true by rfl]
 (refine T.bool ?_)
 show Exs _ _ _ _
 cases d with
 | true=>
  (refine Exs.cons ?_;refine Ex.asg1 (by rfl) ?_;refine Ev.ife ?_;refine Tr.val1 (by rfl) ?_;walk_at "j1";refine T.bool ?_)
  show Ev _ _ _ _
  refine Ev.glb (a:=.ref pn) (v:=.ref pn) (by kernel_rfl) hgn (fun _=>rfl) ?_ (by kernel_rfl)
  (refine Sto.loc1 (by rfl) ?_;refine Exs.cons ?_;refine Ex.ifs ?_)
  refine Tr.val ?_ (by rfl)
  (refine Ev.cM ⟨_,rfl⟩ (by rfl) ?_;walk_at "j1")
  refine ⟨_,HasM.search hpn,?_⟩
  (refine Sps.argC (by rfl) ?_;refine Ev.loc (by rfl) (by first | rfl | assumption) ?_ (by kernel_rfl);refine Sps.argN ?_)
  refine Cal.search hpn hm hs ?_
  refine ite_F (by decide) ?_
  (refine T.none ?_)
  show Exs _ _ _ _
  (refine Exs.nil ?_;refine Exs.cons ?_;refine Ex.ret ?_;walk_at "j1")
  exact h
 | false=>
  (refine Exs.cons ?_;refine Ex.asg1 (by rfl) ?_;refine Ev.ife ?_;refine Tr.val1 (by rfl) ?_;walk_at "j1";refine T.bool ?_)
  show Ev _ _ _ _
  refine Ev.glb (a:=.ref pv) (v:=.ref pv) (by kernel_rfl) hgv (fun _=>rfl) ?_ (by kernel_rfl)
  (refine Sto.loc1 (by rfl) ?_;refine Exs.cons ?_;refine Ex.ifs ?_)
  refine Tr.val ?_ (by rfl)
  (refine Ev.cM ⟨_,rfl⟩ (by rfl) ?_;walk_at "j1")
  refine ⟨_,HasM.search hpv,?_⟩
  (refine Sps.argC (by rfl) ?_;refine Ev.loc (by rfl) (by first | rfl | assumption) ?_ (by kernel_rfl);refine Sps.argN ?_)
  refine Cal.search hpv hm hs ?_
  refine ite_F (by decide) ?_
  (refine T.none ?_)
  show Exs _ _ _ _
  (refine Exs.nil ?_;refine Exs.cons ?_;refine Ex.ret ?_;walk_at "j1")
  exact h
end
end
section
set_option maxHeartbeats 0
set_option maxRecDepth 20000
noncomputable def cdNm:List Nat:=[14,10,4,1,1,22,0,31,16,127,0,13,7,22,0,31,16,127,0,1]
noncomputable def cdVal:List Nat:=[14,14,4,1,1,9,4294966783,0,0,2147483648,0,0,0,0,0,13,11,9,4294966783,0,0,2147483648,0,0,0,0,0,1]
noncomputable def HdOk (l:List Nat):Prop:=∃ m,m ≤ 2 ^ 64 ∧ srch cdNm l m = some false ∧ srch cdVal l m = some false
structure HdM (W₀:Wld) where
 C:Addr
 fI:Addr
 tI:Addr
 fCv:Addr
 fGe:Addr
 tGe:Addr
 fSe:Addr
 fDe:Addr
 pn:Addr
 pv:Addr
 gHd:gN W₀ "Headers" (.ref C)
 kHd:keepIn W₀.K (.ref C) = true
 mks:makesIn W₀.K C = true
 fi:findIn W₀.K (.ref C) "__init__" = some (some (.ref fI))
 tf:typeIn W₀.K (.ref fI) = some (.type "function")
 cls:Cls W₀ C
 no:noneIn W₀ C ["_headers"]
 hI:Def W₀ fI F_Headers_init (.ref tI) .none
 dI:DflAt W₀.g0 tI [.none]
 hCv:Def W₀ fCv F_Headers_convert_string_type .none .none
 mCv:HasF W₀ C "_convert_string_type" fCv
 hGe:Def W₀ fGe F_Headers_get (.ref tGe) .none
 dGe:DflAt W₀.g0 tGe [.none]
 mGe:HasF W₀ C "get" fGe
 hSe:Def W₀ fSe F_Headers_setitem .none .none
 sSe:findIn W₀.K (.ref C) "__setitem__" = some (some (.ref fSe))
 iSe:isFn W₀.K (.ref fSe) = true
 hDe:Def W₀ fDe F_Headers_delitem .none .none
 sDe:findIn W₀.K (.ref C) "__delitem__" = some (some (.ref fDe))
 iDe:isFn W₀.K (.ref fDe) = true
 nq:noSeq W₀.K C = true
 gn:gN W₀ "_name_disallowed_re" (.ref pn)
 gv:gN W₀ "_value_disallowed_re" (.ref pv)
 hpn:PatAt W₀.g0 pn cdNm
 hpv:PatAt W₀.g0 pv cdVal
 bType:bN W₀ "type" (.type "type")
 bStr:bN W₀ "str" (.type "str")
 bList:bN W₀ "list" (.type "list")
section
variable {W₀:Wld} {c:Cx W₀} {σ:St} {Q:AV → St → Prop}
theorem cv_spec (Lb:HdM W₀) {n:Nat} (hr:c.Room (n + 1)) {x:Addr} {l:List Nat} {d:Bool} (ho:HdOk l) (h:Q (.str l) σ):Cal c (.ref Lb.fCv) [.ref x,.str l] [("name",.bool d)] σ Q:=by
 obtain ⟨m,h1,h2,h3⟩:=ho
 exact conv_spec Lb.hCv hr Lb.bType Lb.bStr Lb.gn Lb.gv Lb.hpn Lb.hpv h1 (by cases d;exact h3;exact h2) h
noncomputable abbrev hdL (Lb:HdM W₀) (x dx D:Addr) (items:List AV) (H:List (Addr × AO)):List (Addr × AO):=(D,.list items) :: (x,.inst Lb.C dx) :: (dx,.idict [("_headers",.ref D)]) :: H
theorem hd_init (Lb:HdM W₀) {n:Nat} (hr:c.Room (n + 2)) {x dx:Addr} {H:List (Addr × AO)} (hH:σ.H = (x,.inst Lb.C dx) :: (dx,.idict []) :: H)
  (h:∀ D,Q .none { σ with H:=hdL Lb x dx D [] H }):CalC c (.ref Lb.fI) [.ref x] [] σ Q:=by
 obtain ⟨m0,cl0,H0⟩:=σ
 dsimp only at hH h
 subst hH
 refine call_defC (n:=n + 2) (bas:=[("self",.ref x),("headers",.none)]) Lb.hI hr (fun q doc pm code=>?_) (by kernel_rfl) (by kernel_rfl) (by kernel_rfl) [("self",.ref x),("headers",.none)] [] (by kernel_rfl) (by kernel_rfl) fun q doc pm code hfn L=>?_
 ·refine Bind.dfl rfl Lb.dI fun b vs kvs r rk=>?_
  obtain ⟨v1,r1,rfl,z1,e⟩:=r
  rw [show r1 = [] from e,show kvs = [] from List.map_eq_nil_iff.mp rk.1]
  exact ⟨_,[("self",v1),("headers",.none)],rfl,by kernel_rfl,rfl,⟨_,_,rfl,z1,_,_,rfl,rfl,rfl⟩⟩
 have hC:=Lb.cls
 have hno:=Lb.no
 have bType:=Lb.bType
 refine Exs.cons ?_
 (refine Ex.asg1 (by rfl) ?_;refine Ev.ife ?_;refine Tr.cmp1 (by with_unfolding_all rfl) ?_;walk_at "j1";refine Ev.none ?_;refine O.isNotN (by rfl) ?_;refine T.bool ?_;refine ite_N (by rfl) ?_)
 refine Ev.lstL ?_
 (refine Sps.argN ?_)
 refine ⟨sl _ (Nat.zero_le _),fun D hD=>?_⟩
 (refine Sto.loc1 (by rfl) ?_;refine Exs.cons ?_;refine Ex.ifs ?_;refine Tr.cmp1 (by with_unfolding_all rfl) ?_;refine Ev.cT (by assumption) (by kernel_rfl) (by rfl) (by kernel_rfl) ?_;refine Sps.argC (by rfl) ?_;walk_at "j1";refine Sps.argN ?_)
 refine Cal.typeL (LA.led D _ (.head _)) ?_
 refine Ev.blt (a:=.ty "list") (v:=.type "list") (by kernel_rfl) Lb.bList (fun _=>rfl) ?_ (by kernel_rfl)
 refine O.isNotT (by rfl) ?_
 (refine T.bool ?_;refine ite_N (by rw [show (Value.type "list" == Value.type "list") = true from rfl] <;> rfl) ?_;refine Exs.nil ?_;refine Exs.cons ?_;refine Ex.asgA (by rfl) ?_;walk_at "j1";walk_at "j1")
 refine Sat.p (pre:=[_,_]) hC rfl (.tail _ (.head _)) (by rfl) (by show (0:Nat) < 900;decide) (noneIn.at hno (by decide +kernel)) ?_
 (refine Exs.cons ?_;refine Ex.ifs ?_;refine Tr.val ?_ (by rfl);refine Ev.bool1 ?_;refine T.bool ?_;refine ite_T (by rfl) ?_;refine Exs.cons ?_;refine Ex.forL (by intro _;rfl) ?_;walk_at "j1")
 refine ⟨D,[],rfl,.head _,fun _=>_,.refl _,fun _=>.head _,fun pre x post e=>by simp at e,?_⟩
 (refine Exs.nil ?_;refine Exs.nil ?_)
 exact h D
theorem hd_new (Lb:HdM W₀) {n:Nat} (hr:c.Room (n + 3)) (h:∀ x dx D,Q (.ref x) { σ with H:=hdL Lb x dx D [] σ.H }):Cal c (.ref Lb.C) [] [] σ Q:=by
 refine Cal.make Lb.mks Lb.fi Lb.tf fun x dx A' hA hd hu=>?_
 exact hd_init (n:=n) Lb (hr.wA hd hu) rfl fun D=>⟨rfl,h x dx D⟩
noncomputable def encI (items:List (List Nat × List Nat)):List AV:=items.map fun p=>.tup [.str p.1,.str p.2]
noncomputable def getP (items:List (List Nat × List Nat)) (name:List Nat) (d:AV):AV:=match items.find? (fun p=>loL p.1 == loL name) with
 | some p=>.str p.2
 | none=>d
noncomputable def hitP (name:List Nat):AV → Bool
 | .tup [.str k,.str _]=>loL k == loL name
 | _=>false
theorem hit_find (name:List Nat):∀ items:List (List Nat × List Nat),(encI items).any (hitP name) = false → items.find? (fun p=>loL p.1 == loL name) = none
 | [],_=>rfl
 | p :: r,h=>by
  unfold encI at h
  rw [List.map_cons,List.any_cons,Bool.or_eq_false_iff] at h
  rw [List.find?_cons_of_neg (by rw [show (loL p.1 == loL name) = false from h.1];decide)]
  exact hit_find name r h.2
theorem hit_first (name:List Nat) {items pre':List (List Nat × List Nat)} {p:List Nat × List Nat} {post':List (List Nat × List Nat)} (e:items = pre' ++ p :: post') (h:(encI pre').any (hitP name) = false) (hp:loL p.1 = loL name):items.find? (fun p=>loL p.1 == loL name) = some p:=by
 rw [e,List.find?_append,hit_find name pre' h,Option.none_or,List.find?_cons_of_pos (by simpa using hp)]
theorem enc_split {items:List (List Nat × List Nat)} {pre post:List AV} {x:AV} (e:encI items = pre ++ x :: post):∃ pre' p post',items = pre' ++ p :: post' ∧ pre = encI pre' ∧ x = .tup [.str p.1,.str p.2]:=by
 unfold encI at e
 refine byG fun Gq kq=>?_
 obtain ⟨l1,l2,rfl,e1,e2⟩:=List.map_eq_append_iff.mp e
 obtain ⟨p,l3,rfl,e3,e4⟩:=List.map_eq_cons_iff.mp e2
 refine kq ?_
 exact ⟨l1,p,l3,rfl,e1.symm,e3.symm⟩
theorem hd_getC (Lb:HdM W₀) {n:Nat} (hr:c.Room (n + 3)) {x dx D:Addr} {items:List (List Nat × List Nat)} (hI:Inst σ x Lb.C dx [("_headers",.ref D)]) (hm:(D,AO.list (encI items)) ∈ σ.H) {name:List Nat} (hn:HdOk (loL name)) (ho:okS (loL name) = true) (hnl:(loL name).length ≤ 1000) (hl:items.length ≤ 1000)
  (hi:∀ p ∈ items,okS (loL p.1) = true ∧ (loL p.1).length ≤ 1000) {as:List AV} {d:AV} (hb:∀ q doc pm code,Bind c (mkFd F_Headers_get q (.ref Lb.tGe) .none doc pm code) as [] [("self",.ref x),("name",.str name),("default",d)]) (h:Q (getP items name d) σ):Cal c (.ref Lb.fGe) as [] σ Q:=by
 refine call_def (bas:=[("self",.ref x),("name",.str name),("default",d)]) Lb.hGe hr (fun q doc pm code=>hb q doc pm code) (by kernel_rfl) (by kernel_rfl) (by kernel_rfl) [("self",.ref x),("name",.str name),("default",d)] [] (by kernel_rfl) (by kernel_rfl) fun q doc pm code hfn L=>?_
 have hr':(funCx c hfn L).Room (n + 2):=hr.fn hfn L
 have hC:=Lb.cls
 have hno:=Lb.no
 refine Exs.cons ?_
 (refine Ex.asg1 (by rfl) ?_)
 refine Ev.cIk ["name"] ⟨_,rfl⟩ (by rfl) (by rfl) (by rfl) ?_
 (walk_at "j1")
 refine ⟨x,Lb.C,dx,_,Lb.fCv,rfl,⟨hI.o,hI.d⟩,Lb.mCv,by rfl,Lb.hCv.cee,?_⟩
 (refine Sps.argC (by rfl) ?_;refine Ev.cM ⟨_,rfl⟩ (by rfl) ?_;walk_at "j1")
 refine ⟨_,HasM.lower,?_⟩
 (refine Sps.argN ?_)
 refine Cal.lower (sl _ (by lia)) ho ?_
 (refine Sps.argN ?_)
 refine Kws.cons ?_
 (refine Ev.bool1 ?_)
 refine Kws.nil ⟨rfl,?_⟩
 refine cv_spec (n:=n + 1) Lb hr' hn ?_
 (refine Sto.loc1 (by rfl) ?_;refine Exs.cons ?_;refine Ex.forHL (by intro _;rfl) ?_;refine Ev.atr ?_;walk_at "j1")
 refine Atr.o hC (I:=⟨hI.o,hI.d⟩) (noneIn.at hno (by decide +kernel)) (by rfl) (by rfl) ?_
 refine ⟨D,_,rfl,hm,⟨[("name",.str (loL name)),("self",.ref x),("default",d)],[],σ.H⟩,hitP name,.of ⟨rfl,rfl,rfl,trivial⟩ trivial rfl,fun pre y post e hpre=>?_,fun hno'=>?_⟩
 ·refine byG fun Gq kq=>?_
  obtain ⟨pre',p,post',e1,rfl,rfl⟩:=enc_split e
  obtain ⟨o1,o2⟩:=hi p (by rw [e1];simp)
  refine kq ?_
  refine Asn.tup rfl ?_
  refine Ord.cons ?_
  (refine Asn.name ?_;refine Sto.loc1 (by rfl) ?_)
  refine Ord.cons ?_
  (refine Asn.name ?_;refine Sto.loc1 (by rfl) ?_)
  refine Ord.nil ?_
  (refine Exs.cons ?_;refine Ex.ifs ?_;refine Tr.cmp1 (by with_unfolding_all rfl) ?_;refine Ev.cM ⟨_,rfl⟩ (by rfl) ?_;walk_at "j1")
  refine ⟨_,HasM.lower,?_⟩
  (refine Sps.argN ?_)
  refine Cal.lower (sl _ (by lia)) o1 ?_
  (walk_at "j1";refine O.eqS ?_;refine T.bool ?_)
  by_cases hlt:loL p.1 = loL name
  ·(refine ite_T (by rw [show (loL p.1 == loL name) = true by simpa using hlt] <;> rfl) ?_;refine Exs.cons ?_;refine Ex.ret ?_;walk_at "j1")
   unfold getP at h
   rw [hit_first name e1 hpre hlt] at h
   exact h
  ·(refine ite_N (by rw [show (loL p.1 == loL name) = false by simpa using hlt] <;> rfl) ?_;refine Exs.nil ?_;refine Exs.nil ?_)
   exact ⟨by show (loL p.1 == loL name) = false;simpa using hlt,.of ⟨rfl,rfl,rfl,trivial⟩ trivial rfl⟩
 ·(refine Exs.cons ?_;refine Ex.ret ?_;walk_at "j1")
  unfold getP at h
  rw [hit_find name items hno'] at h
  exact h
theorem hd_get2 (Lb:HdM W₀) {n:Nat} (hr:c.Room (n + 3)) {x dx D:Addr} {items:List (List Nat × List Nat)} (hI:Inst σ x Lb.C dx [("_headers",.ref D)]) (hm:(D,AO.list (encI items)) ∈ σ.H) {name:List Nat} (hn:HdOk (loL name)) (ho:okS (loL name) = true) (hnl:(loL name).length ≤ 1000) (hl:items.length ≤ 1000)
  (hi:∀ p ∈ items,okS (loL p.1) = true ∧ (loL p.1).length ≤ 1000) {d:AV} (h:Q (getP items name d) σ):Cal c (.ref Lb.fGe) [.ref x,.str name,d] [] σ Q:=
 hd_getC Lb hr hI hm hn ho hnl hl hi (fun q doc pm code=>Bind.dfl rfl Lb.dGe fun b vs kvs r rk=>by
  obtain ⟨v1,r1,rfl,z1,v2,r2,rfl,z2,v3,r3,rfl,z3,e⟩:=r
  rw [show r3 = [] from e,show kvs = [] from List.map_eq_nil_iff.mp rk.1]
  exact ⟨_,[("self",v1),("name",v2),("default",v3)],rfl,by kernel_rfl,rfl,⟨_,_,rfl,z1,_,_,rfl,z2,_,_,rfl,z3,rfl⟩⟩) h
noncomputable def delP (items:List (List Nat × List Nat)) (name:List Nat):List (List Nat × List Nat):=items.filter fun p=>loL p.1 != loL name
noncomputable def dlF (name:List Nat):AV → Option AV
 | .tup [.str k,.str v]=>if loL k != loL name then some (.tup [.str k,.str v]) else none
 | _=>none
theorem dl_all (name:List Nat):∀ items:List (List Nat × List Nat),(encI items).filterMap (dlF name) = encI (delP items name)
 | []=>rfl
 | p :: r=>by
  have ih:=dl_all name r
  unfold encI delP at ih ⊢
  rw [List.map_cons,List.filterMap_cons,List.filter_cons]
  by_cases hp:(loL p.1 != loL name) = true
  ·rw [if_pos hp,show dlF name (.tup [.str p.1,.str p.2]) = some (.tup [.str p.1,.str p.2]) from if_pos hp,List.map_cons];dsimp only;rw [ih]
  ·rw [if_neg hp,show dlF name (.tup [.str p.1,.str p.2]) = none from if_neg hp];exact ih
theorem hd_del (Lb:HdM W₀) {n:Nat} (hr:c.Room (n + 3)) {x dx D:Addr} {items:List (List Nat × List Nat)} {H:List (Addr × AO)} (hH:σ.H = hdL Lb x dx D (encI items) H) {name:List Nat} (hn:HdOk (loL name)) (ho:okS (loL name) = true) (hnl:(loL name).length ≤ 1000) (hl:items.length ≤ 1000)
  (hi:∀ p ∈ items,okS (loL p.1) = true ∧ (loL p.1).length ≤ 1000) (h:Q .none { σ with H:=hdL Lb x dx D (encI (delP items name)) H }):Cal c (.ref Lb.fDe) [.ref x,.str name] [] σ Q:=by
 obtain ⟨m0,cl0,H0⟩:=σ
 dsimp only at hH h
 subst hH
 refine call_def (bas:=[("self",.ref x),("name",.str name)]) Lb.hDe hr (fun q doc pm code=>?_) (by kernel_rfl) (by kernel_rfl) (by kernel_rfl) [("self",.ref x)] [("name",.str name)] (by kernel_rfl) (by kernel_rfl) fun q doc pm code hfn L=>?_
 ·exact Bind.pos (ns:=["self", "name"]) rfl (all2 fun v v2=>by kernel_rfl)
 have hr':(funCx c hfn L).Room (n + 2):=hr.fn hfn L
 have hC:=Lb.cls
 have hno:=Lb.no
 refine Exs.cons ?_
 (refine Ex.asg1 (by rfl) ?_)
 refine Ev.cIk ["name"] ⟨_,rfl⟩ (by rfl) (by rfl) (by rfl) ?_
 (walk_at "j1")
 refine ⟨x,Lb.C,dx,_,Lb.fCv,rfl,⟨.tail _ (.head _),.tail _ (.tail _ (.head _))⟩,Lb.mCv,by rfl,Lb.hCv.cee,?_⟩
 (refine Sps.argC (by rfl) ?_;refine Ev.cM ⟨_,rfl⟩ (by rfl) ?_;refine Ev.cel (by rfl) (by rfl) (by rfl) ?_ (by kernel_rfl))
 refine ⟨_,HasM.lower,?_⟩
 (refine Sps.argN ?_)
 refine Cal.lower (sl _ (by lia)) ho ?_
 (refine Sps.argN ?_)
 refine Kws.cons ?_
 (refine Ev.bool1 ?_)
 refine Kws.nil ⟨rfl,?_⟩
 refine cv_spec (n:=n + 1) Lb hr' hn ?_
 (refine Sto.cel1 (by rfl) (by rfl) (by kernel_rfl) ?_;refine Exs.cons ?_;refine Ex.asgAll (by rfl) ?_)
 refine Ev.lcL (by rfl) ?_ (by kernel_rfl) (by kernel_rfl) (by rfl) (by intro _;rfl)
 (refine Ev.atr ?_;walk_at "j1")
 refine Atr.o hC (I:=⟨.tail _ (.head _),.tail _ (.tail _ (.head _))⟩) (noneIn.at hno (by decide +kernel)) (by rfl) (by rfl) ?_
 refine ⟨D,_,rfl,.head _,TurnsG.lst (.head _) (dlF name) (fun C E acc y hy=>?_) (sl _ (by unfold encI;rw [List.length_map];lia)) fun E hE=>?_⟩
 ·obtain ⟨p,hp,rfl⟩:=List.mem_map.mp hy
  obtain ⟨o1,o2⟩:=hi p hp
  (refine Asn.name ?_;refine Sto.loc1 (by rfl) ?_;refine Ifs.one ?_;refine Tr.cmp1 (by with_unfolding_all rfl) ?_;refine Ev.cM ⟨_,rfl⟩ (by rfl) ?_;refine Ev.sub ?_;walk_at "j1";refine Ev.int ?_)
  refine I.tupN (i:=0) (by intros;with_unfolding_all rfl) rfl (sl _ (Nat.le_of_ble_eq_true rfl)) ?_
  refine ⟨_,HasM.lower,?_⟩
  (refine Sps.argN ?_)
  refine Cal.lower (sl _ (by lia)) o1 ?_
  (refine Ev.cel (by rfl) (by rfl) (by rfl) ?_ (by kernel_rfl);refine O.neS ?_;refine T.bool ?_)
  by_cases hlt:loL p.1 = loL name
  ·(refine ite_N (by rw [show (loL p.1 != loL name) = false by simpa using hlt] <;> rfl) ?_)
   exact ⟨if_neg (by simpa using hlt),.mm trivial rfl rfl⟩
  ·(refine ite_T (by rw [show (loL p.1 != loL name) = true by simpa using hlt] <;> rfl) ?_;walk_at "j1")
   exact ⟨if_pos (by simpa using hlt),.mm trivial rfl rfl⟩
 ·refine .lst E _ [] _ rfl rfl ?_
  rw [dl_all]
  (refine Ev.atr ?_;walk_at "j1")
  refine Atr.o hC (I:=⟨.tail _ (.head _),.tail _ (.tail _ (.head _))⟩) (noneIn.at hno (by decide +kernel)) (by rfl) (by rfl) ?_
  refine ⟨D,_,_,[],_,rfl,rfl,rfl,sl _ (by unfold encI delP;rw [List.length_map,List.length_map];have:=List.length_filter_le (fun p=>loL p.1 != loL name) items;lia),?_⟩
  (refine Exs.nil ?_)
  exact h
noncomputable def setP (items:List (List Nat × List Nat)) (name val:List Nat):List (List Nat × List Nat):=delP items name ++ [(name,val)]
theorem hd_set (Lb:HdM W₀) {n:Nat} (hr:c.Room (n + 4)) {x dx D:Addr} {items:List (List Nat × List Nat)} {H:List (Addr × AO)} (hH:σ.H = hdL Lb x dx D (encI items) H) {name val:List Nat} (hn:HdOk (loL name)) (hn2:HdOk name) (hv:HdOk val) (ho:okS (loL name) = true) (hnl:(loL name).length ≤ 1000) (hl:items.length ≤ 1000)
  (hi:∀ p ∈ items,okS (loL p.1) = true ∧ (loL p.1).length ≤ 1000) (h:∀ y,Q y { σ with H:=hdL Lb x dx D (encI (setP items name val)) H }):Cal c (.ref Lb.fSe) [.ref x,.str name,.str val] [] σ Q:=by
 obtain ⟨m0,cl0,H0⟩:=σ
 dsimp only at hH h
 subst hH
 refine call_def (bas:=[("self",.ref x),("name",.str name),("val",.str val)]) Lb.hSe hr (fun q doc pm code=>?_) (by kernel_rfl) (by kernel_rfl) (by kernel_rfl) [("self",.ref x),("name",.str name),("val",.str val)] [] (by kernel_rfl) (by kernel_rfl) fun q doc pm code hfn L=>?_
 ·exact Bind.pos (ns:=["self", "name", "val"]) rfl (all3 fun v v2 v3=>by kernel_rfl)
 have hr':(funCx c hfn L).Room (n + 3):=hr.fn hfn L
 have hC:=Lb.cls
 have hno:=Lb.no
 refine Exs.cons ?_
 refine Ex.del1 ?_
 (walk_at "j1";walk_at "j1")
 refine Rem.own (C:=Lb.C) (dx:=dx) ⟨.tail _ (.head _),.tail _ (.tail _ (.head _))⟩ Lb.nq Lb.sDe Lb.iDe ?_
 refine hd_del (n:=n) Lb hr' rfl hn ho hnl hl hi ?_
 (refine Exs.cons ?_;refine Ex.expr (by rfl) (by rfl) ?_;refine Ev.cM ⟨_,rfl⟩ (by rfl) ?_;refine Ev.atr ?_;walk_at "j1")
 refine Atr.o hC (I:=⟨.tail _ (.head _),.tail _ (.tail _ (.head _))⟩) (noneIn.at hno (by decide +kernel)) (by rfl) (by rfl) ?_
 refine ⟨_,HasM.append (xs:=encI (delP items name)) (.head _),?_⟩
 (refine Sps.argC (by rfl) ?_;refine Ev.tup ?_;refine Sps.argC (by rfl) ?_)
 refine Ev.cIk ["name"] ⟨_,rfl⟩ (by rfl) (by rfl) (by rfl) ?_
 (walk_at "j1")
 refine ⟨x,Lb.C,dx,_,Lb.fCv,rfl,⟨.tail _ (.head _),.tail _ (.tail _ (.head _))⟩,Lb.mCv,by rfl,Lb.hCv.cee,?_⟩
 (refine Sps.argC (by rfl) ?_;refine Ev.loc (by rfl) (by first | rfl | assumption) ?_ (by kernel_rfl);refine Sps.argN ?_)
 refine Kws.cons ?_
 (refine Ev.bool1 ?_)
 refine Kws.nil ⟨rfl,?_⟩
 refine cv_spec (n:=n + 2) Lb hr' hn2 ?_
 (refine Sps.argC (by rfl) ?_)
 refine Ev.cIk ["name"] ⟨_,rfl⟩ (by rfl) (by rfl) (by rfl) ?_
 (walk_at "j1")
 refine ⟨x,Lb.C,dx,_,Lb.fCv,rfl,⟨.tail _ (.head _),.tail _ (.tail _ (.head _))⟩,Lb.mCv,by rfl,Lb.hCv.cee,?_⟩
 (refine Sps.argC (by rfl) ?_;refine Ev.loc (by rfl) (by first | rfl | assumption) ?_ (by kernel_rfl);refine Sps.argN ?_)
 refine Kws.cons ?_
 (refine Ev.bool1 ?_)
 refine Kws.nil ⟨rfl,?_⟩
 refine cv_spec (n:=n + 2) Lb hr' hv ?_
 (refine Sps.argN ?_)
 refine ⟨sl _ (Nat.le_of_ble_eq_true rfl),?_⟩
 (refine Sps.argN ?_)
 refine Cal.append (pre:=[]) rfl (sl _ (by unfold encI delP;rw [List.length_map];have:=List.length_filter_le (fun p=>loL p.1 != loL name) items;lia)) ?_
 (refine Exs.nil ?_)
 have e:=h .none
 unfold setP encI at e
 rw [List.map_append] at e
 exact e
end
end
section
set_option maxHeartbeats 0
inductive Quot (cd:List Nat):List Nat → List Nat → Prop where
 | nil:Quot cd [] [39,39]
 | safe (l:List Nat) (n:Nat) (hn:n ≤ 2 ^ 64) (hl:l ≠ []) (h:srch cd l n = some false):Quot cd l l
 | rep (l r:List Nat) (n:Nat) (hn:n ≤ 2 ^ 64) (hl:l ≠ []) (h:srch cd l n = some true) (hr:Txt.replace (mkS l) (mkS [39]) (mkS [39,34,39,34,39]) = mkS r) (hor:okS r = true) (hlen:r.length ≤ 1000):Quot cd l ([39] ++ r ++ [39])
section
variable {W₀:Wld} {c:Cx W₀} {σ:St} {Q:AV → St → Prop}
theorem quote_spec {f u pa:Addr} {n:Nat} {cd:List Nat} (hf:Def W₀ f F_quote .none .none) (hr:c.Room (n + 1)) (hg:gN W₀ "_find_unsafe" (.ref u)) (hu:BoundAt W₀.g0 u "re.Pattern.search" (.ref pa)) (hp:PatAt W₀.g0 pa cd)
  {l r:List Nat} (hl:l.length ≤ 1000) (hq:Quot cd l r) (h:Q (.str r) σ):Cal c (.ref f) [.str l] [] σ Q:=by
 refine call_def (bas:=[("s",.str l)]) hf hr (fun q doc pm code=>?_) (by kernel_rfl) (by kernel_rfl) (by kernel_rfl) [("s",.str l)] [] (by kernel_rfl) (by kernel_rfl) fun q doc pm code hfn L=>?_
 ·exact Bind.pos (ns:=["s"]) rfl (all1 fun v=>by kernel_rfl)
 have hr':(funCx c hfn L).Room n:=hr.fn hfn L
 refine Exs.cons ?_
 (refine Ex.ifs ?_;refine Tr.neg ?_;refine Tr.val1 (by rfl) ?_;walk_at "j1")
 refine T.str (sl _ (by lia)) ?_
 skip
 cases hq with
 | nil=>
  show Exs _ _ _ _
  (refine Exs.cons ?_;refine Ex.ret ?_;refine Ev.str1 (by decide +kernel) ?_)
  rw [show (PySem.Str.ofString "''").cps.toList = [39,39] by kernel_rfl]
  exact h
 | safe _ n hn hne hs=>
  rw [show l.isEmpty = false by cases l;exact absurd rfl hne;rfl]
  show Exs _ _ _ _
  (refine Exs.nil ?_;refine Exs.cons ?_;refine Ex.ifs ?_;refine Tr.cmp1 (by with_unfolding_all rfl) ?_)
  refine Ev.cF hg (Cee.bound hu) (by kernel_rfl) (by rfl) (by kernel_rfl) ?_
  (refine Sps.argC (by rfl) ?_;refine Ev.loc (by rfl) (by first | rfl | assumption) ?_ (by kernel_rfl);refine Sps.argN ?_)
  refine Cal.searchB hu hp hn hs ?_
  refine ite_F (by decide) ?_
  (refine Ev.none ?_;refine O.isN (by rfl) ?_;refine T.bool ?_)
  show Exs _ _ _ _
  (refine Exs.cons ?_;refine Ex.ret ?_;walk_at "j1")
  exact h
 | rep _ r n hn hne hs hrr hor hlen=>
  rw [show l.isEmpty = false by cases l;exact absurd rfl hne;rfl]
  show Exs _ _ _ _
  (refine Exs.nil ?_;refine Exs.cons ?_;refine Ex.ifs ?_;refine Tr.cmp1 (by with_unfolding_all rfl) ?_)
  refine Ev.cF hg (Cee.bound hu) (by kernel_rfl) (by rfl) (by kernel_rfl) ?_
  (refine Sps.argC (by rfl) ?_;refine Ev.loc (by rfl) (by first | rfl | assumption) ?_ (by kernel_rfl);refine Sps.argN ?_)
  refine Cal.searchB hu hp hn hs ?_
  refine ite_T rfl ?_
  intro x
  (refine Ev.none ?_;refine O.isN (by rfl) ?_;refine T.bool ?_)
  show Exs _ _ _ _
  refine Exs.nil ?_
  refine Exs.cons ?_
  refine Ex.ret ?_
  refine Ev.binop ?_
  have ey:(PySem.Str.ofString "'") = mkS [39]:=by kernel_rfl
  have ez:(PySem.Str.ofString "'\"'\"'") = mkS [39,34,39,34,39]:=by kernel_rfl
  refine Ev.replBehind (l:=l) (r:=r) ⟨_,rfl⟩ (by rfl) (by rfl) (by kernel_rfl) ?_ (by rw [ey,ez];exact hrr) hor (by kernel_rfl) ?_ (by kernel_rfl) ?_
  ·rw [ez,show (mkS [39,34,39,34,39]).length = 5 by kernel_rfl];lia
  ·rw [ey];exact sl _ (by simp [mkS];lia)
  rw [ey]
  (refine Ev.str1 (by decide +kernel) ?_)
  refine O.addS ?_ ?_
  ·exact sl _ (by simp [mkS];lia)
  exact h
end
end
section
set_option maxHeartbeats 0
set_option maxRecDepth 20000
noncomputable def CodeAt (W₀:Wld) (f cc:Addr):Prop:=∃ o fd,W₀.g0.get? f = some o ∧ o.data = .func fd ∧ fd.code = .ref cc
section
variable {W₀:Wld} {c:Cx W₀} {σ:St} {Q:AV → St → Prop}
theorem genRoom {A':Around} {hA:A'.handled = Option.none} {scope:Scope} {hk:scope.kind = .function} {C:Addr} {code:Value} {z:Array GenState × Drawn × OsState} {n:Nat} (h:c.Room (n + 1)) (hd:A'.depth ≤ c.A.depth + 1) (hu:A'.units ≤ c.A.units + 8) :
  (genCx c A' hA scope hk C code z).Room n:=by
 obtain ⟨a,b⟩:=h
 exact ⟨by show A'.depth + 2 * n < 600;lia,by show A'.units + 20 * n < 9000;lia⟩
theorem join_spec {f fq u pa cc P:Addr} {n:Nat} {cd:List Nat} (hf:Def W₀ f F_join .none .none) (hcc:CodeAt W₀ f cc) (hfq:Def W₀ fq F_quote .none .none) (hr:c.Room (n + 3)) (hgz:c.gz = Option.none) (hB:BltM W₀) (hgq:gN W₀ "quote" (.ref fq))
  (hg:gN W₀ "_find_unsafe" (.ref u)) (hu:BoundAt W₀.g0 u "re.Pattern.search" (.ref pa)) (hp:PatAt W₀.g0 pa cd) {xs rs:List (List Nat)} (hl:xs.all (fun l=>decide (l.length ≤ 1000)) = true) (hn:xs.length ≤ 1000) (hrs:rs.length = xs.length)
  (hq:∀ (i:Nat) x r,xs[i]? = some x → rs[i]? = some r → Quot cd x r) (hjo:JoinOk (mkS [32]) (rs.map mkS) = true) (hok:okS (jn [32] rs) = true) (hP:(P,.text cc) ∈ σ.H) (h:Q (.str (jn [32] rs)) σ):Cal c (.ref f) [.lst (xs.map .str)] [] σ Q:=by
 refine call_def (bas:=[("split_command",.lst (xs.map .str))]) hf hr (fun q doc pm code=>?_) (by kernel_rfl) (by kernel_rfl) (by kernel_rfl) [("split_command",.lst (xs.map .str))] [] (by kernel_rfl) (by kernel_rfl) fun q doc pm code hfn L=>?_
 ·exact Bind.pos (ns:=["split_command"]) rfl (all1 fun v=>by kernel_rfl)
 have hr':(funCx c hfn L).Room (n + 2):=hr.fn hfn L
 have hcode:code = .ref cc:=by
  obtain ⟨o,ho,hd⟩:=hfn.obj
  obtain ⟨o',fd,ho',hd',e⟩:=hcc
  rw [ho] at ho'
  cases ho'
  rw [hd] at hd'
  cases hd'
  exact e
 subst hcode
 refine Exs.cons ?_
 refine Ex.ret ?_
 refine Ev.joinGen (P:=P) (cc:=cc) hB hr' hgz (by rfl) (by rfl) (by rfl) (by rfl) (by kernel_rfl) (by rfl) (by rfl) (by intro _;rfl) (by decide +kernel) ⟨_,rfl⟩ ?_
 (walk_at "j1")
 have esp:PySem.Str.ofString " " = mkS [32]:=by kernel_rfl
 rw [esp]
 have ej:=join_mkS [32] rs
 refine ⟨xs.map .str,rs,LA.frz _,by rw [List.length_map];exact hrs,by rw [List.length_map,sizeLine_eq];lia,hP,hjo,by rw [ej];exact hok,fun i y r A' hA C code z hy hr2 hd hu'=>?_,by rw [ej];exact h⟩
 rw [List.getElem?_map] at hy
 cases hx:xs[i]? with
 | none=>rw [hx] at hy;cases hy
 | some x=>
  rw [hx] at hy
  obtain rfl:AV.str x = y:=Option.some.inj hy
  refine Ev.cF hgq hfq.cee (by kernel_rfl) (by rfl) (by kernel_rfl) ?_
  (refine Sps.argC (by rfl) ?_;refine Ev.loc (by rfl) (by first | rfl | assumption) ?_ (by kernel_rfl);refine Sps.argN ?_)
  refine quote_spec hfq (genRoom hr' hd hu') hg hu hp (by have:=List.all_eq_true.mp hl x (List.mem_of_getElem? hx);exact of_decide_eq_true this) (hq i x r hx hr2) ?_
  rfl
end
end
section
set_option maxRecDepth 20000
noncomputable def cdQ:List Nat:=[14,17,4,1,1,21,9,0,604043296,1,0,0,0,0,0,8,4,0,13,14,21,9,0,604043296,1,0,0,0,0,0,8,4,0,1]
structure QtM (W₀:Wld) where
 fJ:Addr
 fQ:Addr
 u:Addr
 pq:Addr
 cc:Addr
 hJ:Def W₀ fJ F_join .none .none
 hcc:CodeAt W₀ fJ cc
 hQ:Def W₀ fQ F_quote .none .none
 hB:BltM W₀
 gq:gN W₀ "quote" (.ref fQ)
 gfu:gN W₀ "_find_unsafe" (.ref u)
 bu:BoundAt W₀.g0 u "re.Pattern.search" (.ref pq)
 pp:PatAt W₀.g0 pq cdQ
 gJ:gN W₀ "join_shlex" (.ref fJ)
end
section
set_option maxHeartbeats 0
set_option maxRecDepth 20000
structure HdI (W₀:Wld) (Lb:HdM W₀) where
 fIt:Addr
 hIt:Def W₀ fIt F_Headers_items .none .none
 mIt:HasF W₀ Lb.C "items" fIt
theorem slcAll {α:Type} (l:List α):slc l none none = l:=by
 unfold slc clipI
 simp
section
variable {W₀:Wld} {c:Cx W₀} {σ:St} {Q:AV → St → Prop}
theorem hd_items (Lb:HdM W₀) (It:HdI W₀ Lb) {n:Nat} (hr:c.Room (n + 1)) {x dx D:Addr} {items:List (List Nat × List Nat)} (hI:Inst σ x Lb.C dx [("_headers",.ref D)]) (hm:(D,AO.list (encI items)) ∈ σ.H) (hl:items.length ≤ 1000)
  (h:Q (.lst (encI items)) σ):Cal c (.ref It.fIt) [.ref x] [] σ Q:=by
 refine call_def (bas:=[("self",.ref x)]) It.hIt hr (fun q doc pm code=>?_) (by kernel_rfl) (by kernel_rfl) (by kernel_rfl) [("self",.ref x)] [] (by kernel_rfl) (by kernel_rfl) fun q doc pm code hfn L=>?_
 ·exact Bind.pos (ns:=["self"]) rfl (all1 fun v=>by kernel_rfl)
 have hr':(funCx c hfn L).Room n:=hr.fn hfn L
 have hC:=Lb.cls
 have hno:=Lb.no
 refine Exs.cons ?_
 (refine Ex.ret ?_;refine Ev.slc ?_;refine Ev.atr ?_;walk_at "j1")
 refine Atr.o hC (I:=⟨hI.o,hI.d⟩) (noneIn.at hno (by decide +kernel)) (by rfl) (by rfl) ?_
 (refine Bnd.no ?_;refine Bnd.no ?_)
 refine Sli.list1 (by intros;with_unfolding_all rfl) (.led _ _ hm) (sl _ (by unfold encI;rw [List.length_map];lia)) ?_
 rw [slcAll]
 skip
 exact h
theorem hd_initF (Lb:HdM W₀) {n:Nat} (hr:c.Room (n + 2)) {x dx:Addr} {items:List (List Nat × List Nat)} {H:List (Addr × AO)} (hH:σ.H = (x,.inst Lb.C dx) :: (dx,.idict []) :: H)
  (hi:∀ p ∈ items,HdOk p.1 ∧ HdOk p.2) (h:Q .none { σ with H:=(x,.inst Lb.C dx) :: (dx,.idict [("_headers",.lst (encI items))]) :: H }):CalC c (.ref Lb.fI) [.ref x,.lst (encI items)] [] σ Q:=by
 obtain ⟨m0,cl0,H0⟩:=σ
 dsimp only at hH h
 subst hH
 refine call_defC (n:=n + 2) (bas:=[("self",.ref x),("headers",.lst (encI items))]) Lb.hI hr (fun q doc pm code=>?_) (by kernel_rfl) (by kernel_rfl) (by kernel_rfl) [("self",.ref x),("headers",.lst (encI items))] [] (by kernel_rfl) (by kernel_rfl) fun q doc pm code hfn L=>?_
 ·refine Bind.dfl rfl Lb.dI fun b vs kvs r rk=>?_
  obtain ⟨v1,r1,rfl,z1,v2,r2,rfl,z2,e⟩:=r
  rw [show r2 = [] from e,show kvs = [] from List.map_eq_nil_iff.mp rk.1]
  exact ⟨_,[("self",v1),("headers",v2)],rfl,by kernel_rfl,rfl,⟨_,_,rfl,z1,_,_,rfl,z2,rfl⟩⟩
 have hr':(funCx c hfn L).Room (n + 1):=hr.fn hfn L
 have hC:=Lb.cls
 have hno:=Lb.no
 have bType:=Lb.bType
 refine Exs.cons ?_
 (refine Ex.asg1 (by rfl) ?_;refine Ev.ife ?_;refine Tr.cmp1 (by with_unfolding_all rfl) ?_;walk_at "j1";refine Ev.none ?_;refine O.isNotN (by rfl) ?_;refine T.bool ?_;refine ite_T (by rfl) ?_;walk_at "j1";refine Sto.loc1 (by rfl) ?_;refine Exs.cons ?_;refine Ex.ifs ?_;refine Tr.cmp1 (by with_unfolding_all rfl) ?_;refine Ev.cT (by assumption) (by kernel_rfl) (by rfl) (by kernel_rfl) ?_;refine Sps.argC (by rfl) ?_;walk_at "j1";refine Sps.argN ?_)
 refine Cal.typeL (.frz _) ?_
 refine Ev.blt (a:=.ty "list") (v:=.type "list") (by kernel_rfl) Lb.bList (fun _=>rfl) ?_ (by kernel_rfl)
 refine O.isNotT (by rfl) ?_
 (refine T.bool ?_;refine ite_N (by rw [show (Value.type "list" == Value.type "list") = true from rfl] <;> rfl) ?_;refine Exs.nil ?_;refine Exs.cons ?_;refine Ex.asgA (by rfl) ?_;walk_at "j1";walk_at "j1")
 refine Sat.p (pre:=[_]) hC rfl (.head _) (by rfl) (by show (0:Nat) < 900;decide) (noneIn.at hno (by decide +kernel)) ?_
 (refine Exs.cons ?_;refine Ex.ifs ?_;refine Tr.val ?_ (by rfl);refine Ev.bool1 ?_;refine T.bool ?_;refine ite_T (by rfl) ?_;refine Exs.cons ?_;refine Ex.forsG ?_ (by intro _;rfl);walk_at "j1")
 refine .mk _ _ (Itb.lst _) (fun _ σ'=>Lf σ' ⟨[("self",.ref x),("headers",.lst (encI items))],[],(x,.inst Lb.C dx) :: (dx,.idict [("_headers",.lst (encI items))]) :: H⟩) (.of ⟨rfl,rfl,trivial⟩ trivial rfl) (fun pre y post σ' e l=>?_) (fun σ' l=>?_) (fun _ _ _=>trivial)
 ·obtain ⟨pre',p,post',e1,rfl,rfl⟩:=enc_split e
  obtain ⟨o1,o2⟩:=hi p (by rw [e1];simp)
  refine Op1.weakP l ?_
  refine Asn.tup rfl ?_
  refine Ord.cons ?_
  (refine Asn.name ?_;refine Sto.loc1 (by rfl) ?_)
  refine Ord.cons ?_
  (refine Asn.name ?_;refine Sto.loc1 (by rfl) ?_)
  refine Ord.nil ?_
  (refine Exs.cons ?_;refine Ex.expr (by rfl) (by rfl) ?_)
  refine Ev.cIk ["name"] ⟨_,rfl⟩ (by rfl) (by rfl) (by rfl) ?_
  (walk_at "j1")
  refine ⟨x,Lb.C,dx,_,Lb.fCv,rfl,⟨.head _,.tail _ (.head _)⟩,Lb.mCv,by rfl,Lb.hCv.cee,?_⟩
  (refine Sps.argC (by rfl) ?_;refine Ev.loc (by rfl) (by first | rfl | assumption) ?_ (by kernel_rfl);refine Sps.argN ?_)
  refine Kws.cons ?_
  (refine Ev.bool1 ?_)
  refine Kws.nil ⟨rfl,?_⟩
  refine cv_spec (n:=n) Lb hr' o1 ?_
  (refine Exs.cons ?_;refine Ex.expr (by rfl) (by rfl) ?_)
  refine Ev.cIk ["name"] ⟨_,rfl⟩ (by rfl) (by rfl) (by rfl) ?_
  (walk_at "j1")
  refine ⟨x,Lb.C,dx,_,Lb.fCv,rfl,⟨.head _,.tail _ (.head _)⟩,Lb.mCv,by rfl,Lb.hCv.cee,?_⟩
  (refine Sps.argC (by rfl) ?_;refine Ev.loc (by rfl) (by first | rfl | assumption) ?_ (by kernel_rfl);refine Sps.argN ?_)
  refine Kws.cons ?_
  (refine Ev.bool1 ?_)
  refine Kws.nil ⟨rfl,?_⟩
  refine cv_spec (n:=n) Lb hr' o2 ?_
  (refine Exs.nil ?_)
  refine .of ⟨rfl,rfl,trivial⟩ trivial rfl
 ·refine Go.weakP (Lf.le l) ?_
  (refine Exs.nil ?_;refine Exs.nil ?_)
  exact h
noncomputable abbrev hdF (Lb:HdM W₀) (x dx:Addr) (items:List (List Nat × List Nat)) (H:List (Addr × AO)):List (Addr × AO):=(x,.inst Lb.C dx) :: (dx,.idict [("_headers",.lst (encI items))]) :: H
theorem hd_newF (Lb:HdM W₀) {n:Nat} (hr:c.Room (n + 3)) {items:List (List Nat × List Nat)}
  (hi:∀ p ∈ items,HdOk p.1 ∧ HdOk p.2) (h:∀ x dx,Q (.ref x) { σ with H:=hdF Lb x dx items σ.H }):Cal c (.ref Lb.C) [.lst (encI items)] [] σ Q:=by
 refine Cal.make Lb.mks Lb.fi Lb.tf fun x dx A' hA hd hu=>?_
 exact hd_initF (n:=n) Lb (hr.wA hd hu) rfl hi ⟨rfl,h x dx⟩
theorem hd_getF (Lb:HdM W₀) {n:Nat} (hr:c.Room (n + 3)) {x dx:Addr} {items:List (List Nat × List Nat)} (hI:Inst σ x Lb.C dx [("_headers",.lst (encI items))]) {name:List Nat} (hn:HdOk (loL name)) (ho:okS (loL name) = true) (hnl:(loL name).length ≤ 1000)
  (hi:∀ p ∈ items,okS (loL p.1) = true ∧ (loL p.1).length ≤ 1000) {d:AV} (h:Q (getP items name d) σ):Cal c (.ref Lb.fGe) [.ref x,.str name,d] [] σ Q:=by
 refine call_def (bas:=[("self",.ref x),("name",.str name),("default",d)]) Lb.hGe hr (fun q doc pm code=>?_) (by kernel_rfl) (by kernel_rfl) (by kernel_rfl) [("self",.ref x),("name",.str name),("default",d)] [] (by kernel_rfl) (by kernel_rfl) fun q doc pm code hfn L=>?_
 ·refine Bind.dfl rfl Lb.dGe fun b vs kvs r rk=>?_
  obtain ⟨v1,r1,rfl,z1,v2,r2,rfl,z2,v3,r3,rfl,z3,e⟩:=r
  rw [show r3 = [] from e,show kvs = [] from List.map_eq_nil_iff.mp rk.1]
  exact ⟨_,[("self",v1),("name",v2),("default",v3)],rfl,by kernel_rfl,rfl,⟨_,_,rfl,z1,_,_,rfl,z2,_,_,rfl,z3,rfl⟩⟩
 have hr':(funCx c hfn L).Room (n + 2):=hr.fn hfn L
 have hC:=Lb.cls
 have hno:=Lb.no
 refine Exs.cons ?_
 (refine Ex.asg1 (by rfl) ?_)
 refine Ev.cIk ["name"] ⟨_,rfl⟩ (by rfl) (by rfl) (by rfl) ?_
 (walk_at "j1")
 refine ⟨x,Lb.C,dx,_,Lb.fCv,rfl,⟨hI.o,hI.d⟩,Lb.mCv,by rfl,Lb.hCv.cee,?_⟩
 (refine Sps.argC (by rfl) ?_;refine Ev.cM ⟨_,rfl⟩ (by rfl) ?_;walk_at "j1")
 refine ⟨_,HasM.lower,?_⟩
 (refine Sps.argN ?_)
 refine Cal.lower (sl _ (by lia)) ho ?_
 (refine Sps.argN ?_)
 refine Kws.cons ?_
 (refine Ev.bool1 ?_)
 refine Kws.nil ⟨rfl,?_⟩
 refine cv_spec (n:=n + 1) Lb hr' hn ?_
 (refine Sto.loc1 (by rfl) ?_;refine Exs.cons ?_;refine Ex.forsG ?_ (by intro _;rfl);refine Ev.atr ?_;walk_at "j1")
 refine Atr.o hC (I:=⟨hI.o,hI.d⟩) (noneIn.at hno (by decide +kernel)) (by rfl) (by rfl) ?_
 refine .mk _ _ (Itb.lst _) (fun pre σ'=>pre.any (hitP name) = false ∧ Lf σ' ⟨[("name",.str (loL name)),("self",.ref x),("default",d)],[],σ.H⟩) ⟨rfl,.of ⟨rfl,rfl,rfl,trivial⟩ trivial rfl⟩ (fun pre y post σ' e ⟨hpre,l⟩=>?_) (fun σ' ⟨hno',l⟩=>?_) (fun _ _ _=>trivial)
 ·obtain ⟨pre',p,post',e1,rfl,rfl⟩:=enc_split e
  obtain ⟨o1,o2⟩:=hi p (by rw [e1];simp)
  refine Op1.weakP l ?_
  refine Asn.tup rfl ?_
  refine Ord.cons ?_
  (refine Asn.name ?_;refine Sto.loc1 (by rfl) ?_)
  refine Ord.cons ?_
  (refine Asn.name ?_;refine Sto.loc1 (by rfl) ?_)
  refine Ord.nil ?_
  (refine Exs.cons ?_;refine Ex.ifs ?_;refine Tr.cmp1 (by with_unfolding_all rfl) ?_;refine Ev.cM ⟨_,rfl⟩ (by rfl) ?_;walk_at "j1")
  refine ⟨_,HasM.lower,?_⟩
  (refine Sps.argN ?_)
  refine Cal.lower (sl _ (by lia)) o1 ?_
  (walk_at "j1";refine O.eqS ?_;refine T.bool ?_)
  by_cases hlt:loL p.1 = loL name
  ·(refine ite_T (by rw [show (loL p.1 == loL name) = true by simpa using hlt] <;> rfl) ?_;refine Exs.cons ?_;refine Ex.ret ?_;walk_at "j1")
   unfold getP at h
   rw [hit_first name e1 hpre hlt] at h
   exact h
  ·(refine ite_N (by rw [show (loL p.1 == loL name) = false by simpa using hlt] <;> rfl) ?_;refine Exs.nil ?_;refine Exs.nil ?_)
   refine ⟨?_,.of ⟨rfl,rfl,rfl,trivial⟩ trivial rfl⟩
   rw [List.any_append,hpre,Bool.false_or]
   show (loL p.1 == loL name || false) = false
   rw [Bool.or_false]
   simpa using hlt
 ·refine Go.weakP (Lf.le l) ?_
  (refine Exs.cons ?_;refine Ex.ret ?_;walk_at "j1")
  unfold getP at h
  rw [hit_find name items hno'] at h
  exact h
end
end
section
set_option maxHeartbeats 0
set_option maxRecDepth 20000
noncomputable def ioNames:List PySem.Str:=["_StringIO__newline", "_StringIO__buf", "_StringIO__pos"]
structure IoM (W₀:Wld) where
 aIO:Addr
 aB:Addr
 sm:Addr
 fNew:Addr
 fI:Addr
 tI:Addr
 fRead:Addr
 tRead:Addr
 fChk:Addr
 fTr:Addr
 fIdx:Addr
 mkN:MakesN W₀ aIO sm fNew fI
 objNew:ObjNew W₀
 cls:Cls W₀ aIO
 no:noneIn W₀ aIO ioNames
 hNew:Def W₀ fNew F_IOBase_new .none .none
 hI:Def W₀ fI F_StringIO_init (.ref tI) .none
 dI:∃ t1 t2,DflAt W₀.g0 tI [.str "" t1,.str "\n" t2]
 hRead:Def W₀ fRead F_StringIO_read (.ref tRead) .none
 dRead:∃ t1,DflAt W₀.g0 tRead [.int (-1) t1]
 mRead:HasF W₀ aIO "read" fRead
 hChk:Def W₀ fChk F_StringIO_p_check .none .none
 mChk:HasF W₀ aIO "_StringIO__check" fChk
 hTr:Def W₀ fTr F_StringIO_p_translated .none .none
 mTr:HasF W₀ aIO "_StringIO__translated" fTr
 hIdx:Def W₀ fIdx F_index .none .none
 gIdx:gN W₀ "_index" (.ref fIdx)
 gB:gN W₀ "BytesIO" (.ref aB)
 gIO:gN W₀ "StringIO" (.ref aIO)
 kIO:keepIn W₀.K (.ref aIO) = true
 oIO:∃ o,W₀.K.lookup aIO = some o ∧ o.cls ≠ .type "tuple"
 oB:∃ o,W₀.K.lookup aB = some o
 ne:aIO ≠ aB
 bType:bN W₀ "type" (.type "type")
 bStr:bN W₀ "str" (.type "str")
 bInt:bN W₀ "int" (.type "int")
 bBool:bN W₀ "bool" (.type "bool")
 bLen:bN W₀ "len" (.builtin "len")
 bObj:bN W₀ "object" (.type "object")
noncomputable abbrev ioKv (buf:List Nat) (pos:Nat):List (PySem.Str × AV):=[("_StringIO__newline",.str [10]),("_StringIO__buf",.str buf),("_StringIO__pos",.int pos)]
section
variable {W₀:Wld} {c:Cx W₀} {σ:St} {Q:AV → St → Prop}
theorem io_new (Lb:IoM W₀) {n:Nat} (hr:c.Room (n + 1)) {l:List Nat} (h:∀ x dx,Q (.ref x) { σ with H:=(x,.inst Lb.aIO dx) :: (dx,.idict []) :: σ.H }):Cal c (.ref Lb.fNew) [.ref Lb.aIO,.str l] [] σ Q:=by
 refine call_defG (bas:=[("cls",.ref Lb.aIO),("args",.tup [.str l]),("kwargs",.dct [] [])]) Lb.hNew hr (fun q doc pm code=>?_) (by kernel_rfl) (by kernel_rfl) (by kernel_rfl) [("cls",.ref Lb.aIO),("args",.tup [.str l]),("kwargs",.dct [] [])] [] (by kernel_rfl) (by kernel_rfl) fun q doc pm code hfn L=>?_
 ·exact BindG.star (as0:=[.ref Lb.aIO]) (as:=[.str l]) (ns:=["cls"]) (va:="args") (ka:="kwargs") rfl (by simp) fun vs us hv hu=>by
   obtain ⟨v,rfl⟩:=all1 (P:=fun vs=>∃ v,vs = [v]) (fun a=>⟨a,rfl⟩) vs hv
   obtain ⟨u,rfl⟩:=all1 (P:=fun vs=>∃ v,vs = [v]) (fun a=>⟨a,rfl⟩) us hu
   kernel_rfl
 have hr':(funCx c hfn L).Room n:=hr.fn hfn L
 refine Exs.cons ?_
 obtain ⟨oIO,k1,k2⟩:=Lb.oIO
 obtain ⟨oB,k3⟩:=Lb.oB
 (refine Ex.ifs ?_;refine Tr.and2 ?_;refine Tr.cmp1 (by with_unfolding_all rfl) ?_;walk_at "j1")
 refine Ev.glb (a:=.ref Lb.aB) (v:=.ref Lb.aB) (by kernel_rfl) Lb.gB (fun _=>rfl) ?_ (by kernel_rfl)
 refine O.isNotK k1 k3 Lb.ne k2 ?_
 (refine T.bool ?_)
 refine ite_T rfl ?_
 (refine Tr.cmp1 (by with_unfolding_all rfl) ?_;walk_at "j1")
 refine Ev.glb (a:=.ref Lb.aIO) (v:=.ref Lb.aIO) (by kernel_rfl) Lb.gIO (fun _=>rfl) ?_ (by kernel_rfl)
 refine O.isNotRR ?_
 (refine T.bool ?_)
 refine ite_F (by decide) ?_
 refine Exs.nil ?_
 refine Exs.cons ?_
 refine Ex.ret ?_
 refine Ev.objNew Lb.objNew Lb.mkN Lb.bObj (by kernel_rfl) ⟨_,rfl⟩ (by rfl) ?_
 (refine Sps.argC (by rfl) ?_;refine Ev.loc (by rfl) (by first | rfl | assumption) ?_ (by kernel_rfl);refine Sps.argN ?_)
 exact ⟨rfl,h⟩
theorem io_tr (Lb:IoM W₀) {n:Nat} (hr:c.Room (n + 1)) {x dx:Addr} {kvs:List (PySem.Str × AV)} {l:List Nat} (I:Inst σ x Lb.aIO dx kvs) (hk:kvs.lookup ("_StringIO__newline" : PySem.Str) = some (.str [10])) (h:Q (.str l) σ) :
  Cal c (.ref Lb.fTr) [.ref x,.str l] [] σ Q:=by
 refine call_def (bas:=[("self",.ref x),("s",.str l)]) Lb.hTr hr (fun q doc pm code=>?_) (by kernel_rfl) (by kernel_rfl) (by kernel_rfl) [("self",.ref x),("s",.str l)] [] (by kernel_rfl) (by kernel_rfl) fun q doc pm code hfn L=>?_
 ·exact Bind.pos (ns:=["self", "s"]) rfl (all2 fun v v2=>by kernel_rfl)
 have hC:=Lb.cls
 have hno:=Lb.no
 refine Exs.cons ?_
 refine Ex.asg1 (by rfl) ?_
 refine Ev.atr ?_
 (walk_at "j1")
 refine Atr.o hC (I:=⟨I.o,I.d⟩) (noneIn.at hno (by decide +kernel)) hk (by rfl) ?_
 (refine Sto.loc1 (by rfl) ?_;refine Exs.cons ?_;refine Ex.ifs ?_;refine Tr.cmp1 (by with_unfolding_all rfl) ?_;walk_at "j1";refine Ev.none ?_;refine O.isN (by rfl) ?_;refine T.bool ?_)
 refine ite_F (by decide) ?_
 (refine Exs.nil ?_;refine Exs.cons ?_;refine Ex.ifs ?_;refine Tr.or2 ?_;refine Tr.cmp1 (by with_unfolding_all rfl) ?_;walk_at "j1";refine Ev.str1 (by decide +kernel) ?_;refine O.eqS ?_;refine T.bool ?_)
 refine ite_N (show (([10]:List Nat) == (PySem.Str.ofString "\r").cps.toList) = false by kernel_rfl) ?_
 (refine Tr.cmp1 (by with_unfolding_all rfl) ?_;walk_at "j1";refine Ev.str1 (by decide +kernel) ?_;refine O.eqS ?_;refine T.bool ?_)
 rw [show (([10]:List Nat) == (PySem.Str.ofString "\r\n").cps.toList) = false by kernel_rfl]
 refine ite_F (by decide) ?_
 (refine Exs.nil ?_;refine Exs.cons ?_;refine Ex.ret ?_;walk_at "j1")
 exact h
theorem io_init (Lb:IoM W₀) {n:Nat} (hr:c.Room (n + 2)) {x dx:Addr} {l:List Nat} {H:List (Addr × AO)} (hH:σ.H = (x,.inst Lb.aIO dx) :: (dx,.idict []) :: H) (h:Q .none { σ with H:=(x,.inst Lb.aIO dx) :: (dx,.idict (ioKv l 0)) :: H }) :
  Cal c (.ref Lb.fI) [.ref x,.str l] [] σ Q:=by
 refine byG fun Gq kq=>?_
 obtain ⟨m0,cl0,H0⟩:=σ
 refine kq ?_
 dsimp only at hH h
 subst hH
 refine call_def (bas:=[("self",.ref x),("initial_value",.str l),("newline",.str [10])]) Lb.hI hr (fun q doc pm code=>?_) (by kernel_rfl) (by kernel_rfl) (by kernel_rfl) [("self",.ref x),("initial_value",.str l),("newline",.str [10])] [] (by kernel_rfl) (by kernel_rfl) fun q doc pm code hfn L=>?_
 ·refine byG fun Gq kq=>?_
  obtain ⟨t1,t2,hd⟩:=Lb.dI
  refine kq ?_
  refine Bind.dfl rfl hd fun b vs kvs r rk=>?_
  refine byG fun Gq kq=>?_
  obtain ⟨v1,r1,rfl,z1,v2,r2,rfl,z2,e⟩:=r
  refine kq ?_
  rw [show r2 = [] from e,show kvs = [] from List.map_eq_nil_iff.mp rk.1]
  exact ⟨_,[("self",v1),("initial_value",v2),("newline",.str "\n" t2)],rfl,by kernel_rfl,rfl,⟨_,_,rfl,z1,_,_,rfl,z2,_,_,rfl,⟨t2,by kernel_rfl,by decide +kernel⟩,rfl⟩⟩
 have hC:=Lb.cls
 have hno:=Lb.no
 have bType:=Lb.bType
 refine byG fun Gq kq=>?_
 obtain ⟨mg,mb,g1,g2,g3,g4⟩:=Lb.bStr
 refine kq ?_
 have estr:(Value.type "str" == Value.type "str") = true:=rfl
 refine Exs.cons ?_
 (refine Ex.ifs ?_;refine Tr.and2 ?_;refine Tr.cmp1 (by with_unfolding_all rfl) ?_;walk_at "j1";refine Ev.none ?_;refine O.isNotN (by rfl) ?_;refine T.bool ?_)
 refine ite_T (show (!(AV.str [10]).isNone) = true from rfl) ?_
 (refine Tr.cmp1 (by with_unfolding_all rfl) ?_;refine Ev.cT (by assumption) (by kernel_rfl) (by rfl) (by kernel_rfl) ?_;refine Sps.argC (by rfl) ?_;walk_at "j1";refine Sps.argN ?_)
 refine Cal.typeS ?_
 refine Ev.blt (a:=.ty "str") (v:=.type "str") (by kernel_rfl) ⟨mg,mb,g1,g2,g3,g4⟩ (fun _=>rfl) ?_ (by kernel_rfl)
 refine O.isNotT (by rfl) ?_
 rw [estr]
 (refine T.bool ?_)
 refine ite_F (by decide) ?_
 (refine Exs.nil ?_;refine Exs.cons ?_;refine Ex.ifs ?_)
 refine Tr.bop (All.andC ?_)
 (refine Tr.cmp1 (by with_unfolding_all rfl) ?_;walk_at "j1";refine Ev.none ?_;refine O.isNotN (by rfl) ?_;refine T.bool ?_)
 refine ite_T (show (!(AV.str [10]).isNone) = true from rfl) ?_
 refine All.andC ?_
 (refine Tr.cmp1 (by with_unfolding_all rfl) ?_;walk_at "j1";refine Ev.str1 (by decide +kernel) ?_;refine O.neS ?_;refine T.bool ?_)
 refine ite_T (show (([10]:List Nat) != (PySem.Str.ofString "").cps.toList) = true by kernel_rfl) ?_
 refine All.andC ?_
 (refine Tr.cmp1 (by with_unfolding_all rfl) ?_;walk_at "j1";refine Ev.str1 (by decide +kernel) ?_;refine O.neS ?_;refine T.bool ?_)
 refine ite_N (show (([10]:List Nat) != (PySem.Str.ofString "\n").cps.toList) = false by kernel_rfl) ?_
 refine ite_F (by decide) ?_
 (refine Exs.nil ?_;refine Exs.cons ?_;refine Ex.ifs ?_;refine Tr.and2 ?_;refine Tr.cmp1 (by with_unfolding_all rfl) ?_;walk_at "j1";refine Ev.none ?_;refine O.isNotN (by rfl) ?_;refine T.bool ?_)
 refine ite_T (show (!(AV.str l).isNone) = true from rfl) ?_
 (refine Tr.cmp1 (by with_unfolding_all rfl) ?_;refine Ev.cT (by assumption) (by kernel_rfl) (by rfl) (by kernel_rfl) ?_;refine Sps.argC (by rfl) ?_;walk_at "j1";refine Sps.argN ?_)
 refine Cal.typeS ?_
 refine Ev.blt (a:=.ty "str") (v:=.type "str") (by kernel_rfl) ⟨mg,mb,g1,g2,g3,g4⟩ (fun _=>rfl) ?_ (by kernel_rfl)
 refine O.isNotT (by rfl) ?_
 rw [estr]
 (refine T.bool ?_)
 refine ite_F (by decide) ?_
 (refine Exs.nil ?_;refine Exs.cons ?_;refine Ex.asgA (by rfl) ?_;walk_at "j1";walk_at "j1")
 refine Sat.p (pre:=[_]) hC rfl (.head _) (by rfl) (by decide) (noneIn.at hno (by decide +kernel)) ?_
 (refine Exs.cons ?_;refine Ex.asgA (by rfl) ?_;refine Ev.str1 (by decide +kernel) ?_;walk_at "j1")
 refine Sat.p (pre:=[_]) hC rfl (.head _) (by rfl) (by decide) (noneIn.at hno (by decide +kernel)) ?_
 (refine Exs.cons ?_;refine Ex.asgA (by rfl) ?_;refine Ev.int ?_;walk_at "j1")
 refine Sat.p (pre:=[_]) hC rfl (.head _) (by rfl) (by decide) (noneIn.at hno (by decide +kernel)) ?_
 (refine Exs.cons ?_;refine Ex.ifs ?_;refine Tr.cmp1 (by with_unfolding_all rfl) ?_;walk_at "j1";refine Ev.none ?_;refine O.isNotN (by rfl) ?_;refine T.bool ?_)
 refine ite_T (show (!(AV.str l).isNone) = true from rfl) ?_
 (refine Exs.cons ?_;refine Ex.asgA (by rfl) ?_;refine Ev.cI ⟨_,rfl⟩ (by rfl) ?_;walk_at "j1")
 refine ⟨x,Lb.aIO,dx,_,Lb.fTr,rfl,⟨.head _,.tail _ (.head _)⟩,Lb.mTr,by rfl,Lb.hTr.cee,?_⟩
 (refine Sps.argC (by rfl) ?_;refine Ev.loc (by rfl) (by first | rfl | assumption) ?_ (by kernel_rfl);refine Sps.argN ?_)
 refine io_tr (n:=n) Lb (hr.fn hfn L) (kvs:=ioKv (PySem.Str.ofString "").cps.toList 0) ⟨.head _,.tail _ (.head _)⟩ (by rfl) ?_
 (walk_at "j1")
 refine Sat.p (pre:=[_]) hC rfl (.head _) (by rfl) (by decide) (noneIn.at hno (by decide +kernel)) ?_
 (refine Exs.nil ?_;refine Exs.nil ?_)
 exact h
theorem io_chk (Lb:IoM W₀) {n:Nat} (hr:c.Room (n + 1)) {x dx:Addr} {kvs:List (PySem.Str × AV)} {l:List Nat} (I:Inst σ x Lb.aIO dx kvs) (hk:kvs.lookup ("_StringIO__buf" : PySem.Str) = some (.str l)) (h:Q .none σ) :
  Cal c (.ref Lb.fChk) [.ref x] [] σ Q:=by
 refine call_def (bas:=[("self",.ref x)]) Lb.hChk hr (fun q doc pm code=>?_) (by kernel_rfl) (by kernel_rfl) (by kernel_rfl) [("self",.ref x)] [] (by kernel_rfl) (by kernel_rfl) fun q doc pm code hfn L=>?_
 ·exact Bind.pos (ns:=["self"]) rfl (all1 fun v=>by kernel_rfl)
 have hC:=Lb.cls
 have hno:=Lb.no
 refine Exs.cons ?_
 refine Ex.ifs ?_
 refine Tr.cmp1 (by with_unfolding_all rfl) ?_
 refine Ev.atr ?_
 (walk_at "j1")
 refine Atr.o hC (I:=⟨I.o,I.d⟩) (noneIn.at hno (by decide +kernel)) hk (by rfl) ?_
 (refine Ev.none ?_;refine O.isN (by rfl) ?_;refine T.bool ?_)
 refine ite_N (show (AV.str l).isNone = false from rfl) ?_
 (refine Exs.nil ?_;refine Exs.nil ?_)
 exact h
theorem idx_spec (Lb:IoM W₀) {n:Nat} (hr:c.Room (n + 1)) {i:Int} {w:List Nat} (h1:i ≤ 1000000) (h2:-1000000 ≤ i) (h:Q (.int i) σ):Cal c (.ref Lb.fIdx) [.int i,.str w] [] σ Q:=by
 refine call_def (bas:=[("n",.int i),("what",.str w)]) Lb.hIdx hr (fun q doc pm code=>?_) (by kernel_rfl) (by kernel_rfl) (by kernel_rfl) [("n",.int i),("what",.str w)] [] (by kernel_rfl) (by kernel_rfl) fun q doc pm code hfn L=>?_
 ·exact Bind.pos (ns:=["n", "what"]) rfl (all2 fun v v2=>by kernel_rfl)
 have bType:=Lb.bType
 have bInt:=Lb.bInt
 refine byG fun Gq kq=>?_
 obtain ⟨mg,mb,g1,g2,g3,g4⟩:=Lb.bInt
 refine kq ?_
 refine Exs.cons ?_
 (refine Ex.ifs ?_;refine Tr.and2 ?_;refine Tr.cmp1 (by with_unfolding_all rfl) ?_;refine Ev.cT (by assumption) (by kernel_rfl) (by rfl) (by kernel_rfl) ?_;refine Sps.argC (by rfl) ?_;walk_at "j1";refine Sps.argN ?_)
 refine Cal.typeI ?_
 refine Ev.blt (a:=.ty "int") (v:=.type "int") (by kernel_rfl) ⟨mg,mb,g1,g2,g3,g4⟩ (fun _=>rfl) ?_ (by kernel_rfl)
 refine O.isNotT (by rfl) ?_
 rw [show (Value.type "int" == Value.type "int") = true from rfl]
 (refine T.bool ?_)
 refine ite_F (by decide) ?_
 skip
 refine ite_F (by decide) ?_
 (refine Exs.nil ?_;refine Exs.cons ?_;refine Ex.asg1 (by rfl) ?_;refine Ev.cT (by assumption) (by kernel_rfl) (by rfl) (by kernel_rfl) ?_;refine Sps.argC (by rfl) ?_;walk_at "j1";refine Sps.argN ?_)
 refine Cal.intI ?_
 (refine Sto.loc1 (by rfl) ?_;refine Exs.cons ?_;refine Ex.ifs ?_;refine Tr.or2 ?_;refine Tr.cmp1 (by with_unfolding_all rfl) ?_;walk_at "j1";refine Ev.int ?_;refine O.gtI ?_;refine T.bool ?_)
 refine ite_N (show decide (i > 1099511627776) = false from decide_eq_false (by lia)) ?_
 (refine Tr.cmp1 (by with_unfolding_all rfl) ?_;walk_at "j1";refine Ev.una ?_;refine Ev.int ?_;refine O.neg ?_;refine O.ltI ?_;refine T.bool ?_)
 refine ite_N (show decide (i < -1099511627776) = false from decide_eq_false (by lia)) ?_
 (refine Exs.nil ?_;refine Exs.cons ?_;refine Ex.ret ?_;walk_at "j1")
 exact h
theorem io_read (Lb:IoM W₀) {n:Nat} (hr:c.Room (n + 2)) {x dx:Addr} {l:List Nat} {p:Nat} {pre post:List (Addr × AO)} (ho:(x,AO.inst Lb.aIO dx) ∈ σ.H) (hH:σ.H = pre ++ (dx,.idict (ioKv l p)) :: post) (hl:l.length ≤ 100000)
  (h:match l[p]? with | some y=>Q (.str [y]) { σ with H:=pre ++ (dx,.idict (ioKv l (p + 1))) :: post } | Option.none=>Q (.str []) σ):Cal c (.ref Lb.fRead) [.ref x,.int 1] [] σ Q:=by
 have hx:Inst σ x Lb.aIO dx (ioKv l p):=⟨ho,by rw [hH];exact List.mem_append_right _ (.head _)⟩
 refine call_def (bas:=[("self",.ref x),("size",.int 1)]) Lb.hRead hr (fun q doc pm code=>?_) (by kernel_rfl) (by kernel_rfl) (by kernel_rfl) [("self",.ref x),("size",.int 1)] [] (by kernel_rfl) (by kernel_rfl) fun q doc pm code hfn L=>?_
 ·obtain ⟨t1,hd⟩:=Lb.dRead
  refine Bind.dfl rfl hd fun b vs kvs r rk=>?_
  refine byG fun Gq kq=>?_
  obtain ⟨v1,r1,rfl,z1,v2,r2,rfl,z2,e⟩:=r
  refine kq ?_
  rw [show r2 = [] from e,show kvs = [] from List.map_eq_nil_iff.mp rk.1]
  exact ⟨_,[("self",v1),("size",v2)],rfl,by kernel_rfl,rfl,⟨_,_,rfl,z1,_,_,rfl,z2,rfl⟩⟩
 have hr':(funCx c hfn L).Room (n + 1):=hr.fn hfn L
 have hC:=Lb.cls
 have hno:=Lb.no
 have bLen:=Lb.bLen
 have hxd:=hx.d
 refine Exs.cons ?_
 (refine Ex.ifs ?_;refine Tr.cmp1 (by with_unfolding_all rfl) ?_;walk_at "j1";refine Ev.none ?_;refine O.isN (by rfl) ?_;refine T.bool ?_)
 refine ite_N (show (AV.int 1).isNone = false from rfl) ?_
 (refine Exs.nil ?_;refine Exs.cons ?_;refine Ex.asg1 (by rfl) ?_)
 refine Ev.cF Lb.gIdx Lb.hIdx.cee (by kernel_rfl) (by rfl) (by kernel_rfl) ?_
 (refine Sps.argC (by rfl) ?_;walk_at "j1";refine Sps.argC (by rfl) ?_;refine Ev.str1 (by decide +kernel) ?_;refine Sps.argN ?_)
 refine idx_spec Lb hr' (by decide) (by decide) ?_
 (refine Sto.loc1 (by rfl) ?_;refine Exs.cons ?_;refine Ex.expr (by rfl) (by rfl) ?_;refine Ev.cI ⟨_,rfl⟩ (by rfl) ?_;walk_at "j1")
 refine ⟨x,Lb.aIO,dx,_,Lb.fChk,rfl,⟨hx.o,hx.d⟩,Lb.mChk,by rfl,Lb.hChk.cee,?_⟩
 (refine Sps.argN ?_)
 refine io_chk Lb hr' ⟨hx.o,hx.d⟩ (by rfl) ?_
 (refine Exs.cons ?_;refine Ex.asg1 (by rfl) ?_;refine Ev.atr ?_;walk_at "j1";refine Atr.o (by assumption) (I:=by first | assumption | exact ⟨by assumption,by assumption⟩ | exact ⟨.head _,.tail _ (.head _)⟩ | exact ⟨.tail _ (.tail _ (.head _)),.tail _ (.tail _ (.tail _ (.head _)))⟩) (noneIn.at (by assumption) (by decide +kernel)) (by rfl) (by rfl) ?_;refine Sto.loc1 (by rfl) ?_;refine Exs.cons ?_;refine Ex.asg1 (by rfl) ?_;refine Ev.cB (by assumption) (by kernel_rfl) (by rfl) (by kernel_rfl) ?_;refine Sps.argC (by rfl) ?_;refine Ev.atr ?_;walk_at "j1";refine Atr.o (by assumption) (I:=by first | assumption | exact ⟨by assumption,by assumption⟩ | exact ⟨.head _,.tail _ (.head _)⟩ | exact ⟨.tail _ (.tail _ (.head _)),.tail _ (.tail _ (.tail _ (.head _)))⟩) (noneIn.at (by assumption) (by decide +kernel)) (by rfl) (by rfl) ?_;refine Sps.argN ?_)
 refine Cal.lenS (by lia) ?_
 (refine Sto.loc1 (by rfl) ?_;refine Exs.cons ?_;refine Ex.ifs ?_;refine Tr.cmp1 (by with_unfolding_all rfl) ?_;walk_at "j1";walk_at "j1";refine O.geI ?_;refine T.bool ?_)
 by_cases hp:p < l.length
 ·rw [List.getElem?_eq_getElem hp] at h
  refine ite_N (show decide ((p:Int) ≥ (l.length:Int)) = false from decide_eq_false (by lia)) ?_
  (refine Exs.nil ?_;refine Exs.cons ?_;refine Ex.ifs ?_;refine Tr.and2 ?_;refine Tr.cmp1 (by with_unfolding_all rfl) ?_;walk_at "j1";refine Ev.int ?_;refine O.geI ?_;refine T.bool ?_)
  refine ite_T (show decide ((1:Int) ≥ 0) = true from rfl) ?_
  (refine Tr.cmp1 (by with_unfolding_all rfl) ?_;refine Ev.binop ?_;walk_at "j1";walk_at "j1";refine O.add ?_;walk_at "j1";refine O.ltI ?_;refine T.bool ?_)
  rw [show decide ((p:Int) + 1 < (l.length:Int)) = decide (p + 1 < l.length) from by simp only [decide_eq_decide];lia]
  have hcut:∀ j:Int,j = p + 1 → slc (slc l (some (p:Int)) (some j) ++ [32]) Option.none (some (-1)) = [l[p]]:=by
   intro j hj;subst hj
   have e1:slc l (some (p:Int)) (some ((p:Int) + 1)) = [l[p]]:=by
    rw [show ((p:Int) + 1) = ((p + 1:Nat):Int) from rfl,slcN l (Nat.le_of_lt hp) hp,List.drop_take,show p.succ - p = 1 from Nat.add_sub_cancel_left p 1,List.drop_eq_getElem_cons hp];rfl
   rw [e1];rfl
  by_cases hp1:p + 1 < l.length
  ·refine ite_T (decide_eq_true hp1) ?_
   (refine Exs.cons ?_;refine Ex.asg1 (by rfl) ?_;refine Ev.binop ?_;walk_at "j1";walk_at "j1";refine O.add ?_;refine Sto.loc1 (by rfl) ?_;refine Exs.nil ?_;refine Exs.cons ?_;refine Ex.asgA (by rfl) ?_;walk_at "j1";walk_at "j1")
   refine Sat.p hC hH ho (by rfl) (by show (3:Nat) < 900;decide) (noneIn.at hno (by decide +kernel)) ?_
   have ho':(x,AO.inst Lb.aIO dx) ∈ pre ++ (dx,AO.idict (ioKv l (p + 1))) :: post:=by
    rw [hH] at ho
    rcases List.mem_append.mp ho with h | h
    ·exact List.mem_append_left _ h
    ·rcases List.mem_cons.mp h with h | h
     ·cases h
     ·exact List.mem_append_right _ (.tail _ h)
   have hd':(dx,AO.idict (ioKv l (p + 1))) ∈ pre ++ (dx,AO.idict (ioKv l (p + 1))) :: post:=List.mem_append_right _ (.head _)
   rw [show putA "_StringIO__pos" (AV.int ((p:Int) + 1)) (ioKv l p) = ioKv l (p + 1) by rfl]
   (refine Exs.cons ?_;refine Ex.ret ?_;refine Ev.slc ?_;refine Ev.binop ?_;refine Ev.slc ?_;refine Ev.atr ?_;walk_at "j1";refine Atr.o (by assumption) (I:=by first | assumption | exact ⟨by assumption,by assumption⟩ | exact ⟨.head _,.tail _ (.head _)⟩ | exact ⟨.tail _ (.tail _ (.head _)),.tail _ (.tail _ (.tail _ (.head _)))⟩) (noneIn.at (by assumption) (by decide +kernel)) (by rfl) (by rfl) ?_;refine Bnd.yes ?_;walk_at "j1";refine ⟨_,rfl,?_⟩;refine Bnd.yes ?_;walk_at "j1";refine ⟨_,rfl,?_⟩)
   refine Sli.str1 (by intros;with_unfolding_all rfl) (sl _ (by lia)) ?_
   (refine Ev.str1 (by decide +kernel) ?_)
   rw [show (PySem.Str.ofString " ").cps.toList = [32] by kernel_rfl]
   refine O.addS (sl _ (by have:=slc_length l (some (p:Int)) (some ((p:Int) + 1));simp only [List.length_cons,List.length_nil];lia)) ?_
   (refine Bnd.no ?_;refine Bnd.yes ?_;refine Ev.una ?_;refine Ev.int ?_;refine O.neg ?_;refine ⟨_,rfl,?_⟩)
   refine Sli.str1 (by intros;with_unfolding_all rfl) (sl _ (by rw [List.length_append];have:=slc_length l (some (p:Int)) (some ((p:Int) + 1));simp only [List.length_cons,List.length_nil];lia)) ?_
   rw [hcut _ (by lia)]
   exact h
  ·refine ite_N (decide_eq_false hp1) ?_
   (refine Exs.nil ?_;refine Exs.cons ?_;refine Ex.asgA (by rfl) ?_;walk_at "j1";walk_at "j1")
   refine Sat.p hC hH ho (by rfl) (by show (3:Nat) < 900;decide) (noneIn.at hno (by decide +kernel)) ?_
   have ho':(x,AO.inst Lb.aIO dx) ∈ pre ++ (dx,AO.idict (ioKv l (p + 1))) :: post:=by
    rw [hH] at ho
    rcases List.mem_append.mp ho with h | h
    ·exact List.mem_append_left _ h
    ·rcases List.mem_cons.mp h with h | h
     ·cases h
     ·exact List.mem_append_right _ (.tail _ h)
   have hd':(dx,AO.idict (ioKv l (p + 1))) ∈ pre ++ (dx,AO.idict (ioKv l (p + 1))) :: post:=List.mem_append_right _ (.head _)
   rw [show putA "_StringIO__pos" (AV.int (l.length:Int)) (ioKv l p) = ioKv l (p + 1) by rw [show l.length = p + 1 by lia];rfl]
   (refine Exs.cons ?_;refine Ex.ret ?_;refine Ev.slc ?_;refine Ev.binop ?_;refine Ev.slc ?_;refine Ev.atr ?_;walk_at "j1";refine Atr.o (by assumption) (I:=by first | assumption | exact ⟨by assumption,by assumption⟩ | exact ⟨.head _,.tail _ (.head _)⟩ | exact ⟨.tail _ (.tail _ (.head _)),.tail _ (.tail _ (.tail _ (.head _)))⟩) (noneIn.at (by assumption) (by decide +kernel)) (by rfl) (by rfl) ?_;refine Bnd.yes ?_;walk_at "j1";refine ⟨_,rfl,?_⟩;refine Bnd.yes ?_;walk_at "j1";refine ⟨_,rfl,?_⟩)
   refine Sli.str1 (by intros;with_unfolding_all rfl) (sl _ (by lia)) ?_
   (refine Ev.str1 (by decide +kernel) ?_)
   rw [show (PySem.Str.ofString " ").cps.toList = [32] by kernel_rfl]
   refine O.addS (sl _ (by have:=slc_length l (some (p:Int)) (some (l.length:Int));simp only [List.length_cons,List.length_nil];lia)) ?_
   (refine Bnd.no ?_;refine Bnd.yes ?_;refine Ev.una ?_;refine Ev.int ?_;refine O.neg ?_;refine ⟨_,rfl,?_⟩)
   refine Sli.str1 (by intros;with_unfolding_all rfl) (sl _ (by rw [List.length_append];have:=slc_length l (some (p:Int)) (some (l.length:Int));simp only [List.length_cons,List.length_nil];lia)) ?_
   rw [hcut _ (by lia)]
   exact h
 ·rw [List.getElem?_eq_none (by lia)] at h
  refine ite_T (show decide ((p:Int) ≥ (l.length:Int)) = true from decide_eq_true (by lia)) ?_
  (refine Exs.cons ?_;refine Ex.ret ?_;refine Ev.str1 (by decide +kernel) ?_)
  exact h
end
end
section
set_option maxHeartbeats 0
set_option maxRecDepth 20000
noncomputable def shNames:List PySem.Str:=["instream", "infile", "posix", "eof", "commenters", "wordchars", "whitespace", "whitespace_split", "quotes", "escape", "escapedquotes", "state", "pushback", "lineno", "debug", "token", "filestack", "source", "_punctuation_chars"]
structure ShM (W₀:Wld) extends IoM W₀ where
 C:Addr
 sI:Addr
 sT:Addr
 sPc:Addr
 pa:Addr
 prest:List Value
 sGt:Addr
 sRt:Addr
 sIt:Addr
 sNx:Addr
 sSp:Addr
 sSd:Addr
 gSh:gN W₀ "shlex" (.ref C)
 kSh:keepIn W₀.K (.ref C) = true
 mks:makesIn W₀.K C = true
 fi:findIn W₀.K (.ref C) "__init__" = some (some (.ref sI))
 tf:typeIn W₀.K (.ref sI) = some (.type "function")
 scls:Cls W₀ C
 sno:noneIn W₀ C shNames
 hsI:Def W₀ sI F_shlex_init (.ref sT) .none
 dsI:DflAt W₀.g0 sT [.none,.none,.bool false,.bool false]
 pc:findIn W₀.K (.ref C) "punctuation_chars" = some (some (.ref pa))
 pcn:specialIn W₀.K (.ref pa) "__get__" = some (some (.builtin "property.__get__"))
 pct:takesIn W₀.K (.ref pa) = some true
 pcr:recIn W₀.K pa "property" = some (.ref sPc :: prest)
 hPc:Def W₀ sPc F_shlex_punctuation_chars .none .none
 hGt:Def W₀ sGt F_shlex_get_token .none .none
 mGt:HasF W₀ C "get_token" sGt
 hRt:Def W₀ sRt F_shlex_read_token .none .none
 mRt:HasF W₀ C "read_token" sRt
 hIt:Def W₀ sIt F_shlex_iter .none .none
 hNx:Def W₀ sNx F_shlex_next .none .none
 own:Own W₀ C sIt sNx
 hSp:Def W₀ sSp F_split (.ref sSd) .none
 dSp:DflAt W₀.g0 sSd [.bool false,.bool true]
 gSp:gN W₀ "split" (.ref sSp)
 bIsi:bN W₀ "isinstance" (.builtin "isinstance")
 bList:bN W₀ "list" (.type "list")
 bStop:bN W₀ "StopIteration" (.type "StopIteration")
 gDq:gN W₀ "deque" (.type "collections.deque")
noncomputable def wordL:List Nat:=[97,98,99,100,102,101,103,104,105,106,107,108,109,110,111,112,113,114,115,116,117,118,119,120,121,122,65,66,67,68,69,70,71,72,73,74,75,76,77,78,79,80,81,82,83,84,85,86,87,88,89,90,48,49,50,51,52,53,54,55,56,57,95,223,224,225,226,227,228,229,230,231,232,233,234,235,236,237,238,239,240,241,242,243,244,245,246,248,249,250,251,252,253,254,255,192,193,194,195,196,197,198,199,200,201,202,203,204,205,206,207,208,209,210,211,212,213,214,216,217,218,219,220,221,222]
noncomputable def shKv (ix:Addr) (com:List Nat) (ws:Bool) (st:Option Nat) (tok:List Nat) (ln:Int:=1):List (PySem.Str × AV):=
 [("instream",.ref ix),("infile",.none),("posix",.bool true),("eof",.none),("commenters",.str com),("wordchars",.str wordL),("whitespace",.str [32,9,13,10]),("whitespace_split",.bool ws),("quotes",.str [39,34]),
 ("escape",.str [92]),("escapedquotes",.str [34]),("state",match st with | some x=>.str [x] | none=>.none),("pushback",.obj deqO),("lineno",.int ln),("debug",.int 0),("token",.str tok),("filestack",.obj deqO),("source",.none),("_punctuation_chars",.str [])]
section
variable {W₀:Wld} {c:Cx W₀} {σ:St} {Q:AV → St → Prop}
theorem Cx.Room.wA8 {A':Around} {hA:A'.handled = Option.none} {n:Nat} (h:c.Room (n + 1)) (hd:A'.depth ≤ c.A.depth + 1) (hu:A'.units ≤ c.A.units + 4):(c.wA A' hA).Room n:=by
 obtain ⟨a,b⟩:=h
 exact ⟨by show A'.depth + 2 * n < 600;lia,by show A'.units + 20 * n < 9000;lia⟩
theorem sh_init (Lb:ShM W₀) {n:Nat} (hr:c.Room (n + 4)) {x dx:Addr} {l:List Nat} {H:List (Addr × AO)} (hH:σ.H = (x,.inst Lb.C dx) :: (dx,.idict []) :: H)
  (h:∀ ix idx,Q .none { σ with H:=(ix,.inst Lb.aIO idx) :: (idx,.idict (ioKv l 0)) :: (x,.inst Lb.C dx) :: (dx,.idict (shKv ix [35] false (some 32) [])) :: H }) :
  CalC c (.ref Lb.sI) [.ref x,.str l] [("posix",.bool true)] σ Q:=by
 obtain ⟨m0,cl0,H0⟩:=σ
 dsimp only at hH h
 subst hH
 refine call_defC (n:=n + 4) (bas:=[("self",.ref x),("instream",.str l),("infile",.none),("posix",.bool true),("punctuation_chars",.bool false)]) Lb.hsI hr (fun q doc pm code=>?_) (by kernel_rfl) (by kernel_rfl) (by kernel_rfl) [("self",.ref x),("instream",.str l),("infile",.none),("posix",.bool true),("punctuation_chars",.bool false)] [] (by kernel_rfl) (by kernel_rfl) fun q doc pm code hfn L=>?_
 ·refine Bind.dfl rfl Lb.dsI fun b vs kvs r rk=>?_
  obtain ⟨v1,r1,rfl,z1,v2,r2,rfl,z2,e⟩:=r
  obtain ⟨k1,k2⟩:=rk
  rw [show r2 = [] from e]
  obtain ⟨u,rfl⟩:=kv_one k1
  obtain ⟨_,_,e1,z3,e2⟩:=k2
  cases e1
  exact ⟨_,[("self",v1),("instream",v2),("infile",.none),("posix",u),("punctuation_chars",.bool false)],rfl,by kernel_rfl,rfl,⟨_,_,rfl,z1,_,_,rfl,z2,_,_,rfl,rfl,_,_,rfl,z3,_,_,rfl,rfl,rfl⟩⟩
 have hr':(funCx c hfn L).Room (n + 3):=hr.fn hfn L
 have hC:=Lb.scls
 have hno:=Lb.sno
 have bIsi:=Lb.bIsi
 refine Exs.cons ?_
 (refine Ex.ifs ?_;refine Tr.val ?_ (by rfl);refine Ev.cB (by assumption) (by kernel_rfl) (by rfl) (by kernel_rfl) ?_;refine Sps.argC (by rfl) ?_;walk_at "j1";refine Sps.argC (by rfl) ?_)
 refine Ev.blt (a:=.ty "str") (v:=.type "str") (by kernel_rfl) Lb.bStr (fun _=>rfl) ?_ (by kernel_rfl)
 (refine Sps.argN ?_)
 refine Cal.isiStr ?_
 (refine T.bool ?_;refine ite_T (by rfl) ?_;refine Exs.cons ?_;refine Ex.asg1 (by rfl) ?_)
 refine Ev.cF Lb.gIO (Cee.cls Lb.kIO) (by kernel_rfl) (by rfl) (by kernel_rfl) ?_
 (refine Sps.argC (by rfl) ?_;refine Ev.loc (by rfl) (by first | rfl | assumption) ?_ (by kernel_rfl);refine Sps.argN ?_)
 refine Cal.makeN Lb.mkN fun A' hA hd hu=>?_
 refine io_new (n:=n + 1) Lb.toIoM ?_ fun ix idx=>?_
 ·exact hr'.wA8 hd hu
 refine ⟨ix,idx,_,rfl,⟨.head _,.tail _ (.head _)⟩,?_⟩
 refine io_init (n:=n) Lb.toIoM ?_ rfl ?_
 ·exact hr'.wA8 hd hu
 refine ⟨rfl,?_⟩
 (refine Sto.loc1 (by rfl) ?_;refine Exs.nil ?_;refine Exs.cons ?_;refine Ex.ifs ?_;refine Tr.cmp1 (by with_unfolding_all rfl) ?_;walk_at "j1";refine Ev.none ?_;refine O.isNotN (by rfl) ?_;refine T.bool ?_;refine ite_T (by rfl) ?_;refine Exs.cons ?_;refine Ex.asgA (by rfl) ?_;walk_at "j1";walk_at "j1";walk_at "j3";refine Exs.cons ?_;refine Ex.asgA (by rfl) ?_;walk_at "j1";walk_at "j1";walk_at "j3";refine Exs.nil ?_;refine Exs.cons ?_;refine Ex.asgA (by rfl) ?_;walk_at "j1";walk_at "j1";walk_at "j3";refine Exs.cons ?_;refine Ex.ifs ?_;refine Tr.val1 (by rfl) ?_;walk_at "j1";refine T.bool ?_;refine ite_T (by rfl) ?_;refine Exs.cons ?_;refine Ex.asgA (by rfl) ?_;refine Ev.none ?_;walk_at "j1";walk_at "j3";refine Exs.nil ?_;refine Exs.cons ?_;refine Ex.asgA (by rfl) ?_;refine Ev.str1 (by decide +kernel) ?_;walk_at "j1";walk_at "j3";refine Exs.cons ?_;refine Ex.asgA (by rfl) ?_;refine Ev.str1 (by decide +kernel) ?_;walk_at "j1";walk_at "j3";refine Exs.cons ?_;refine Ex.ifs ?_;refine Tr.val ?_ (by rfl);refine Ev.atr ?_;walk_at "j1";refine Atr.o (by assumption) (I:=by first | assumption | exact ⟨by assumption,by assumption⟩ | exact ⟨.head _,.tail _ (.head _)⟩ | exact ⟨.tail _ (.tail _ (.head _)),.tail _ (.tail _ (.tail _ (.head _)))⟩) (noneIn.at (by assumption) (by decide +kernel)) (by rfl) (by rfl) ?_;refine T.bool ?_;refine ite_T (by rfl) ?_;refine Exs.cons ?_;refine Ex.augAtr ?_;walk_at "j1";refine Atr.o (by assumption) (I:=by first | assumption | exact ⟨by assumption,by assumption⟩ | exact ⟨.head _,.tail _ (.head _)⟩ | exact ⟨.tail _ (.tail _ (.head _)),.tail _ (.tail _ (.tail _ (.head _)))⟩) (noneIn.at (by assumption) (by decide +kernel)) (by rfl) (by rfl) ?_;refine Ev.str1 (by decide +kernel) ?_)
 refine O.iaddS (sl _ (by decide +kernel)) ?_
 rw [show (PySem.Str.ofString "abcdfeghijklmnopqrstuvwxyzABCDEFGHIJKLMNOPQRSTUVWXYZ0123456789_").cps.toList ++ (PySem.Str.ofString "ßàáâãäåæçèéêëìíîïðñòóôõöøùúûüýþÿÀÁÂÃÄÅÆÇÈÉÊËÌÍÎÏÐÑÒÓÔÕÖØÙÚÛÜÝÞ").cps.toList = wordL by kernel_rfl]
 refine Sat.rep3 hC rfl (by rfl) (Nat.le_of_ble_eq_true (by rfl)) (noneIn.at hno (by decide +kernel)) (kvs':=[("instream",.ref ix),("infile",.none),("posix",.bool true),("eof",.none),("commenters",.str [35]),("wordchars",.str wordL)]) (by kernel_rfl) ?_
 (refine Exs.nil ?_;refine Exs.cons ?_;refine Ex.asgA (by rfl) ?_;refine Ev.str1 (by decide +kernel) ?_;walk_at "j1";walk_at "j3";refine Exs.cons ?_;refine Ex.asgA (by rfl) ?_;refine Ev.bool1 ?_;walk_at "j1";walk_at "j3";refine Exs.cons ?_;refine Ex.asgA (by rfl) ?_;refine Ev.str1 (by decide +kernel) ?_;walk_at "j1";walk_at "j3";refine Exs.cons ?_;refine Ex.asgA (by rfl) ?_;refine Ev.str1 (by decide +kernel) ?_;walk_at "j1";walk_at "j3";refine Exs.cons ?_;refine Ex.asgA (by rfl) ?_;refine Ev.str1 (by decide +kernel) ?_;walk_at "j1";walk_at "j3";refine Exs.cons ?_;refine Ex.asgA (by rfl) ?_;refine Ev.str1 (by decide +kernel) ?_;walk_at "j1";walk_at "j3";refine Exs.cons ?_;refine Ex.asgA (by rfl) ?_)
 refine Ev.cGT Lb.gDq (by kernel_rfl) (by rfl) (by kernel_rfl) ?_
 (refine Sps.argN ?_)
 refine Cal.deq ?_
 (walk_at "j1";walk_at "j3";refine Exs.cons ?_;refine Ex.asgA (by rfl) ?_;refine Ev.int ?_;walk_at "j1";walk_at "j3";refine Exs.cons ?_;refine Ex.asgA (by rfl) ?_;refine Ev.int ?_;walk_at "j1";walk_at "j3";refine Exs.cons ?_;refine Ex.asgA (by rfl) ?_;refine Ev.str1 (by decide +kernel) ?_;walk_at "j1";walk_at "j3";refine Exs.cons ?_;refine Ex.asgA (by rfl) ?_)
 refine Ev.cGT Lb.gDq (by kernel_rfl) (by rfl) (by kernel_rfl) ?_
 (refine Sps.argN ?_)
 refine Cal.deq ?_
 (walk_at "j1";walk_at "j3";refine Exs.cons ?_;refine Ex.asgA (by rfl) ?_;refine Ev.none ?_;walk_at "j1";walk_at "j3";refine Exs.cons ?_;refine Ex.ifs ?_;refine Tr.neg ?_;refine Tr.val1 (by rfl) ?_;walk_at "j1";refine T.bool ?_;refine ite_T (by rfl) ?_;refine Exs.cons ?_;refine Ex.asg1 (by rfl) ?_;refine Ev.str1 (by decide +kernel) ?_;refine Sto.loc1 (by rfl) ?_;refine Exs.nil ?_;refine Exs.cons ?_;refine Ex.asgA (by rfl) ?_;walk_at "j1";walk_at "j1";walk_at "j3";refine Exs.cons ?_;refine Ex.ifs ?_;refine Tr.val1 (by rfl) ?_;walk_at "j1")
 refine T.str (by decide) ?_
 (refine ite_N (by rfl) ?_;refine Exs.nil ?_;refine Exs.nil ?_)
 exact h ix idx
end
end
section
set_option maxHeartbeats 0
set_option maxRecDepth 20000
noncomputable def outA (o:Option (List Nat)):AV:=match o with | some w=>.str w | none=>.none
noncomputable def finT (q:Bool) (tok:List Nat):Option (List Nat):=if !q && tok == [] then none else some tok
noncomputable def rt (com:List Nat):List Nat → Option Nat → List Nat → Bool → Option (Option (List Nat) × Option Nat × List Nat)
 | [],none,tok,q=>some (finT q [],none,[])
 | x :: r,none,tok,q=>if x = 10 then none else some (finT q [],none,r)
 | [],some y,tok,q=>if y = 32 ∨ y = 97 then some (finT q tok,none,[]) else none
 | x :: r,some y,tok,q=>
  if x = 10 then none
  else if y = 32 then
   if x ∈ [32,9,13] then (if tok ≠ [] ∨ q = true then some (finT q tok,some 32,r) else rt com r (some 32) tok q)
   else if x ∈ com ∨ x = 92 then none
   else if x = 39 ∨ x = 34 then rt com r (some x) tok q
   else rt com r (some 97) [x] q
  else if y = 39 ∨ y = 34 then
   if x = y then rt com r (some 97) tok true
   else if x = 92 ∧ y = 34 then none
   else rt com r (some y) (tok ++ [x]) true
  else if y = 97 then
   if x ∈ [32,9,13] then (if tok ≠ [] ∨ q = true then some (finT q tok,some 32,r) else rt com r (some 32) tok q)
   else if x ∈ com ∨ x = 92 then none
   else if x = 39 ∨ x = 34 then rt com r (some x) tok q
   else rt com r (some 97) (tok ++ [x]) q
  else none
section
variable {W₀:Wld} {c:Cx W₀} {σ:St} {Q:AV → St → Prop}
theorem Sat.rep4 {x C dx:Addr} {kvs kvs':List (PySem.Str × AV)} {name:PySem.Str} {y:AV} {a1 a2 a3:Addr × AO} {post:List (Addr × AO)} {P:Unit → St → Prop} (K:Cls W₀ C) (hH:σ.H = a1 :: a2 :: a3 :: (x,.inst C dx) :: (dx,.idict kvs) :: post) (hz:c.fz = false) (hlen:kvs.length < 900)
  (ha:findIn W₀.K (.ref C) name = some Option.none) (hs:putA name y kvs = kvs') (h:P () { σ with H:=a1 :: a2 :: a3 :: (x,.inst C dx) :: (dx,.idict kvs') :: post }):Sat c name (.ref x) y σ P:=
 Sat.p (pre:=[a1,a2,a3,(x,.inst C dx)]) K hH (by rw [hH];exact .tail _ (.tail _ (.tail _ (.head _)))) hz hlen ha (by rw [hs];exact h)
noncomputable abbrev shL (Lb:ShM W₀) (a0:Addr × AO) (ix idx x dx:Addr) (l:List Nat) (p:Nat) (com:List Nat) (st:Option Nat) (tok:List Nat) (post:List (Addr × AO)):List (Addr × AO):=
 a0 :: (ix,.inst Lb.aIO idx) :: (idx,.idict (ioKv l p)) :: (x,.inst Lb.C dx) :: (dx,.idict (shKv ix com true st tok)) :: post
section
variable {Lb:ShM W₀} {a0:Addr × AO} {ix idx x dx:Addr} {l:List Nat} {p:Nat} {com:List Nat} {st:Option Nat} {tok:List Nat} {post:List (Addr × AO)} {m cl:List (PySem.Str × AV)} {P:Unit → St → Prop}
theorem Sh.satTok {w:List Nat} (hz:c.fz = false) (h:P () ⟨m,cl,shL Lb a0 ix idx x dx l p com st w post⟩):Sat c "token" (.ref x) (.str w) ⟨m,cl,shL Lb a0 ix idx x dx l p com st tok post⟩ P:=
 Sat.rep4 Lb.scls rfl hz (Nat.le_of_ble_eq_true (by rfl)) (noneIn.at Lb.sno (by decide +kernel)) (kvs':=shKv ix com true st w) (by kernel_rfl) h
theorem Sh.satSt {y:Nat} (hz:c.fz = false) (h:P () ⟨m,cl,shL Lb a0 ix idx x dx l p com (some y) tok post⟩):Sat c "state" (.ref x) (.str [y]) ⟨m,cl,shL Lb a0 ix idx x dx l p com st tok post⟩ P:=
 Sat.rep4 Lb.scls rfl hz (Nat.le_of_ble_eq_true (by rfl)) (noneIn.at Lb.sno (by decide +kernel)) (kvs':=shKv ix com true (some y) tok) (by kernel_rfl) h
theorem Sh.satStN (hz:c.fz = false) (h:P () ⟨m,cl,shL Lb a0 ix idx x dx l p com Option.none tok post⟩):Sat c "state" (.ref x) .none ⟨m,cl,shL Lb a0 ix idx x dx l p com st tok post⟩ P:=
 Sat.rep4 Lb.scls rfl hz (Nat.le_of_ble_eq_true (by rfl)) (noneIn.at Lb.sno (by decide +kernel)) (kvs':=shKv ix com true Option.none tok) (by kernel_rfl) h
theorem Sh.pc {n:Nat} (hr:c.Room (n + 2)) {Q:AV → St → Prop} (h:Q (.str []) ⟨m,cl,shL Lb a0 ix idx x dx l p com st tok post⟩):Atr c "punctuation_chars" (.ref x) ⟨m,cl,shL Lb a0 ix idx x dx l p com st tok post⟩ Q:=by
 refine Atr.prop (kvs:=shKv ix com true st tok) ⟨.tail _ (.tail _ (.tail _ (.head _))),.tail _ (.tail _ (.tail _ (.tail _ (.head _))))⟩ (Lb.scls.pg _) Lb.scls.hd Lb.pc Lb.pcn Lb.pct Lb.pcr fun A' hA hF hd hu=>?_
 refine call_defC (n:=n) (bas:=[("self",.ref x)]) Lb.hPc ?_ (fun q doc pm code=>?_) (by kernel_rfl) (by kernel_rfl) (by kernel_rfl) [("self",.ref x)] [] (by kernel_rfl) (by kernel_rfl) fun q doc pm code hfn L=>?_
 ·exact (show c.Room (n + 1) from ⟨by have:=hr.1;lia,by have:=hr.2;lia⟩).wF hd hu
 ·exact Bind.pos (ns:=["self"]) rfl (all1 fun v=>by kernel_rfl)
 have hC:=Lb.scls
 have hno:=Lb.sno
 refine Exs.cons ?_
 (refine Ex.ret ?_;walk_at "j2")
 exact ⟨rfl,h⟩
end
theorem rt_nil (com:List Nat) (y:Nat) (tok:List Nat) (q:Bool):rt com [] (some y) tok q = if y = 32 ∨ y = 97 then some (finT q tok,none,[]) else none:=rfl
theorem rt_none (com:List Nat) (x:Nat) (r tok:List Nat) (q:Bool):rt com (x :: r) none tok q = if x = 10 then none else some (finT q [],none,r):=rfl
theorem rt_cons (com:List Nat) (x:Nat) (r:List Nat) (y:Nat) (tok:List Nat) (q:Bool):rt com (x :: r) (some y) tok q =
  if x = 10 then none
  else if y = 32 then
   if x ∈ [32,9,13] then (if tok ≠ [] ∨ q = true then some (finT q tok,some 32,r) else rt com r (some 32) tok q)
   else if x ∈ com ∨ x = 92 then none
   else if x = 39 ∨ x = 34 then rt com r (some x) tok q
   else rt com r (some 97) [x] q
  else if y = 39 ∨ y = 34 then
   if x = y then rt com r (some 97) tok true
   else if x = 92 ∧ y = 34 then none
   else rt com r (some y) (tok ++ [x]) true
  else if y = 97 then
   if x ∈ [32,9,13] then (if tok ≠ [] ∨ q = true then some (finT q tok,some 32,r) else rt com r (some 32) tok q)
   else if x ∈ com ∨ x = 92 then none
   else if x = 39 ∨ x = 34 then rt com r (some x) tok q
   else rt com r (some 97) (tok ++ [x]) q
  else none:=rfl
theorem nmem10 {ch:Nat} (h:¬ ch ∈ [32,9,13]) (h10:ch ≠ 10):¬ ch ∈ [32,9,13,10]:=fun e=>((List.mem_append (s:=[32,9,13]) (t:=[10])).mp e).elim h fun e=>h10 (List.mem_singleton.mp e)
theorem Ex.opq {s:Stmt} {P:AF → St → Prop} (h:∀ PP:AF → St → Prop,(∀ f σ,P f σ → PP f σ) → Ex c s σ PP):Ex c s σ P:=h P fun _ _ h=>h
theorem rd_spec (Lb:ShM W₀) {n:Nat} (hr:c.Room (n + 4)) {a0:Addr × AO} {ix idx x dx:Addr} {a rest:List Nat} {com:List Nat} {st:Option Nat} {post:List (Addr × AO)} (hH:σ.H = shL Lb a0 ix idx x dx (a ++ rest) a.length com st [] post) (hl:(a ++ rest).length ≤ 1000)
  {out:Option (List Nat)} {st':Option Nat} {rest':List Nat} (hrt:rt com rest st [] false = some (out,st',rest'))
  (h:∀ a',a' ++ rest' = a ++ rest → Q (outA out) { σ with H:=shL Lb a0 ix idx x dx (a ++ rest) a'.length com st' [] post }):Cal c (.ref Lb.sRt) [.ref x] [] σ Q:=by
 obtain ⟨m0,cl0,H0⟩:=σ
 dsimp only at hH h
 subst hH
 refine call_def (bas:=[("self",.ref x)]) Lb.hRt hr (fun q doc pm code=>?_) (by kernel_rfl) (by kernel_rfl) (by kernel_rfl) [("self",.ref x)] [] (by kernel_rfl) (by kernel_rfl) fun q doc pm code hfn L=>?_
 ·exact Bind.pos (ns:=["self"]) rfl (all1 fun v=>by kernel_rfl)
 have hr':(funCx c hfn L).Room (n + 3):=hr.fn hfn L
 have hC:=Lb.scls
 have hno:=Lb.sno
 have fin:∀ (q:Bool) (tok:List Nat) (st₁:Option Nat) (r₁ a₁:List Nat),a₁ ++ r₁ = a ++ rest → some (finT q tok,st₁,r₁) = some (out,st',rest') → ∀ PP:AF → St → Prop,(∀ y σ',Q y { m:=m0,cl:=cl0,H:=σ'.H } → PP (.ret y) σ') →
   Exs (funCx c hfn L) (F_shlex_read_token.body.drop 3) ⟨[("quoted",.bool q),("escapedstate",.str [32]),("self",.ref x)],[],shL Lb a0 ix idx x dx (a ++ rest) a₁.length com st₁ tok post⟩ PP:=by
  intro q tok st₁ r₁ a₁ ha he PP hPP
  injection he with he;injection he with e1 e2;injection e2 with e2 e3
  subst e1 e2 e3
  have h:=h a₁ ha
  refine Exs.cons ?_
  (refine Ex.asg1 (by rfl) ?_;walk_at "j2";refine Sto.loc1 (by rfl) ?_;refine Exs.cons ?_;refine Ex.asgA (by rfl) ?_;refine Ev.str1 (by decide +kernel) ?_;walk_at "j1" ;(first | refine Sh.satTok (by rfl) ?_ | refine Sh.satSt (by rfl) ?_ | refine Sh.satStN (by rfl) ?_);refine Exs.cons ?_;refine Ex.ifs ?_;refine Tr.and3 ?_;refine Tr.val ?_ (by rfl);walk_at "j2";refine T.bool ?_;refine ite_T (by rfl) ?_;refine Tr.neg ?_;refine Tr.val1 (by rfl) ?_;walk_at "j1";refine T.bool ?_)
  cases q with
  | true=>
   (refine ite_N (by rfl) ?_;refine ite_N (by rfl) ?_;refine Exs.nil ?_;refine Exs.cons ?_;refine Ex.ifs ?_;refine Tr.cmp1 (by with_unfolding_all rfl) ?_;walk_at "j2";refine Ev.int ?_;refine O.gtI ?_;refine T.bool ?_;refine ite_N (by rfl) ?_;refine Exs.nil ?_;refine Exs.cons ?_;refine Ex.ret ?_;walk_at "j1")
   exact hPP _ _ h
  | false=>
   (refine ite_T (by rfl) ?_;refine Tr.cmp1 (by with_unfolding_all rfl) ?_;walk_at "j1";refine Ev.str1 (by decide +kernel) ?_;refine O.eqS ?_;refine T.bool ?_)
   cases tok with
   | nil=>
    (refine ite_T (by rw [show (([]:List Nat) == (PySem.Str.ofString "").cps.toList) = true by kernel_rfl] <;> rfl) ?_;refine Exs.cons ?_;refine Ex.asg1 (by rfl) ?_;refine Ev.none ?_;refine Sto.loc1 (by rfl) ?_;refine Exs.nil ?_;refine Exs.cons ?_;refine Ex.ifs ?_;refine Tr.cmp1 (by with_unfolding_all rfl) ?_;walk_at "j2";refine Ev.int ?_;refine O.gtI ?_;refine T.bool ?_;refine ite_N (by rfl) ?_;refine Exs.nil ?_;refine Exs.cons ?_;refine Ex.ret ?_;walk_at "j1")
    exact hPP _ _ h
   | cons y ys=>
    (refine ite_N (by rw [show ((y :: ys:List Nat) == (PySem.Str.ofString "").cps.toList) = false by rfl] <;> rfl) ?_;refine Exs.nil ?_;refine Exs.cons ?_;refine Ex.ifs ?_;refine Tr.cmp1 (by with_unfolding_all rfl) ?_;walk_at "j2";refine Ev.int ?_;refine O.gtI ?_;refine T.bool ?_;refine ite_N (by rfl) ?_;refine Exs.nil ?_;refine Exs.cons ?_;refine Ex.ret ?_;walk_at "j1")
    exact hPP _ _ h
 refine Exs.cons ?_
 (refine Ex.asg1 (by rfl) ?_;refine Ev.bool1 ?_;refine Sto.loc1 (by rfl) ?_;refine Exs.cons ?_;refine Ex.asg1 (by rfl) ?_;refine Ev.str1 (by decide +kernel) ?_;refine Sto.loc1 (by rfl) ?_;refine Exs.cons ?_)
 refine Ex.opq fun PP hPP=>?_
 refine Ex.whilS (α:=List Nat × List Nat × Option Nat × List Nat × Bool) (fun z=>⟨[("quoted",.bool z.2.2.2.2),("escapedstate",.str [32]),("self",.ref x)],[],shL Lb a0 ix idx x dx (a ++ rest) z.1.length com z.2.2.1 z.2.2.2.1 post⟩) (fun z=>z.2.1.length)
  (fun z=>z.1 ++ z.2.1 = a ++ rest ∧ z.2.2.2.1.length ≤ z.1.length ∧ rt com z.2.1 z.2.2.1 z.2.2.2.1 z.2.2.2.2 = some (out,st',rest')) (a,rest,st,[],false) (.of ⟨rfl,rfl,rfl,trivial⟩ trivial rfl) ⟨rfl,Nat.zero_le _,hrt⟩ ?_
 rintro ⟨a₁,r₁,st₁,tok,q⟩ ⟨hx,ht,hrt₁⟩
 dsimp only at hx ht hrt₁ ⊢
 (refine Tr.val ?_ (by rfl);refine Ev.bool1 ?_;refine T.bool ?_;refine ite_T (by rfl) ?_;refine Exs.cons ?_;refine Ex.ifs ?_;refine Tr.and2 ?_;refine Tr.val ?_ (by rfl);refine Ev.atr ?_;walk_at "j1";refine Sh.pc (by assumption) ?_;refine T.str (by exact sl _ (by first | exact Nat.zero_le _ | exact Nat.le_of_ble_eq_true rfl)) ?_;refine ite_N (by rfl) ?_;refine ite_N (by rfl) ?_;refine Exs.cons ?_;refine Ex.asg1 (by rfl) ?_;refine Ev.cI ⟨_,rfl⟩ (by rfl) ?_;walk_at "j2")
 refine ⟨ix,Lb.aIO,idx,_,Lb.fRead,rfl,⟨.tail _ (.head _),.tail _ (.tail _ (.head _))⟩,Lb.mRead,by rfl,Lb.hRead.cee,?_⟩
 (refine Sps.argC (by rfl) ?_;refine Ev.int ?_;refine Sps.argN ?_)
 refine io_read (n:=n + 1) Lb.toIoM hr' (pre:=[a0,(ix,_)]) (.tail _ (.head _)) rfl (by lia) ?_
 have e10:(PySem.Str.ofString "\n").cps.toList = [10]:=by kernel_rfl
 have e32:(PySem.Str.ofString " ").cps.toList = [32]:=by kernel_rfl
 have e97:(PySem.Str.ofString "a").cps.toList = [97]:=by kernel_rfl
 cases r₁ with
 | nil=>
  rw [show (a ++ rest)[a₁.length]? = Option.none by rw [← hx];simp]
  dsimp only
  (refine Sto.loc1 (by rfl) ?_;refine Exs.nil ?_;refine Exs.cons ?_;refine Ex.ifs ?_;refine Tr.cmp1 (by with_unfolding_all rfl) ?_;walk_at "j1";refine Ev.str1 (by decide +kernel) ?_;refine O.eqS ?_;refine T.bool ?_;refine ite_N (by rfl) ?_;refine Exs.nil ?_;refine Exs.cons ?_;refine Ex.ifs ?_;refine Tr.cmp1 (by with_unfolding_all rfl) ?_;walk_at "j2";refine Ev.int ?_;refine O.geI ?_;refine T.bool ?_;refine ite_N (by rfl) ?_;refine Exs.nil ?_;refine Exs.cons ?_;refine Ex.ifs ?_;refine Tr.cmp1 (by with_unfolding_all rfl) ?_;refine Ev.atr ?_;walk_at "j1")
  cases st₁ with
  | none=>
   (refine Atr.o3 (by assumption) (noneIn.at (by assumption) (by decide +kernel)) (by rfl) (by rfl) ?_;refine Ev.none ?_;refine O.isN (by rfl) ?_;refine T.bool ?_;refine ite_T (by rfl) ?_;refine Exs.cons ?_;refine Ex.asgA (by rfl) ?_;refine Ev.str1 (by decide +kernel) ?_;walk_at "j1" ;(first | refine Sh.satTok (by rfl) ?_ | refine Sh.satSt (by rfl) ?_ | refine Sh.satStN (by rfl) ?_);refine Exs.cons ?_;refine Ex.brk ?_)
   refine hPP .next _ ?_
   show Exs _ _ _ _
   refine Go.weakP (Lf.le ?_) (fin q [] Option.none [] a₁ hx hrt₁ _ fun y σ' h=>h)
   exact .of ⟨rfl,rfl,rfl,trivial⟩ trivial rfl
  | some y=>
   have hy:y = 32 ∨ y = 97:=Decidable.byContradiction fun h=>by rw [rt_nil,if_neg h] at hrt₁;cases hrt₁
   rw [rt_nil,if_pos hy] at hrt₁
   rcases hy with rfl | rfl
   ·(refine Atr.o3 (by assumption) (noneIn.at (by assumption) (by decide +kernel)) (by rfl) (by rfl) ?_;refine Ev.none ?_;refine O.isN (by rfl) ?_;refine T.bool ?_;refine ite_N (by rfl) ?_;refine Exs.cons ?_;refine Ex.ifs ?_;refine Tr.cmp1 (by with_unfolding_all rfl) ?_;walk_at "j2";refine Ev.str1 (by decide +kernel) ?_;refine O.eqS ?_;refine T.bool ?_;refine ite_T (by rfl) ?_;refine Exs.cons ?_;refine Ex.ifs ?_;refine Tr.neg ?_;refine Tr.val1 (by rfl) ?_;walk_at "j1";refine T.str (by exact sl _ (by first | exact Nat.zero_le _ | exact Nat.le_of_ble_eq_true rfl)) ?_;refine ite_T (by rfl) ?_;refine Exs.cons ?_;refine Ex.asgA (by rfl) ?_;refine Ev.none ?_;walk_at "j1" ;(first | refine Sh.satTok (by rfl) ?_ | refine Sh.satSt (by rfl) ?_ | refine Sh.satStN (by rfl) ?_);refine Exs.cons ?_;refine Ex.brk ?_)
    refine hPP .next _ ?_
    show Exs _ _ _ _
    refine Go.weakP (Lf.le ?_) (fin q tok Option.none [] a₁ hx hrt₁ _ fun y σ' h=>h)
    exact .of ⟨rfl,rfl,rfl,trivial⟩ trivial rfl
   ·(refine Atr.o3 (by assumption) (noneIn.at (by assumption) (by decide +kernel)) (by rfl) (by rfl) ?_;refine Ev.none ?_;refine O.isN (by rfl) ?_;refine T.bool ?_;refine ite_N (by rfl) ?_;refine Exs.cons ?_;refine Ex.ifs ?_;refine Tr.cmp1 (by with_unfolding_all rfl) ?_;walk_at "j2";refine Ev.str1 (by decide +kernel) ?_;refine O.eqS ?_;refine T.bool ?_;refine ite_N (by rfl) ?_;refine Exs.cons ?_;refine Ex.ifs ?_;refine Tr.cmp1 (by with_unfolding_all rfl) ?_;walk_at "j2";walk_at "j2";refine O.inS ?_;refine T.bool ?_;refine ite_F (by decide +kernel) ?_;refine Exs.cons ?_;refine Ex.ifs ?_;refine Tr.cmp1 (by with_unfolding_all rfl) ?_;walk_at "j2";walk_at "j2";refine O.inS ?_;refine T.bool ?_;refine ite_F (by decide +kernel) ?_;refine Exs.cons ?_;refine Ex.ifs ?_;refine Tr.cmp1 (by with_unfolding_all rfl) ?_;walk_at "j2";refine Ev.tup ?_;refine Sps.argC (by rfl) ?_;refine Ev.str1 (by decide +kernel) ?_;refine Sps.argC (by rfl) ?_;refine Ev.str1 (by decide +kernel) ?_;refine Sps.argN ?_)
    refine ⟨sl _ (Nat.le_of_ble_eq_true rfl),?_⟩
    refine O.inTS (ls:=[[97],[99]]) ?_
    (refine T.bool ?_;refine ite_T (by rfl) ?_;refine Exs.cons ?_;refine Ex.ifs ?_;refine Tr.neg ?_;refine Tr.val1 (by rfl) ?_;walk_at "j1";refine T.str (by exact sl _ (by first | exact Nat.zero_le _ | exact Nat.le_of_ble_eq_true rfl)) ?_;refine ite_T (by rfl) ?_;refine Exs.cons ?_;refine Ex.asgA (by rfl) ?_;refine Ev.none ?_;walk_at "j1" ;(first | refine Sh.satTok (by rfl) ?_ | refine Sh.satSt (by rfl) ?_ | refine Sh.satStN (by rfl) ?_);refine Exs.cons ?_;refine Ex.brk ?_)
    refine hPP .next _ ?_
    show Exs _ _ _ _
    refine Go.weakP (Lf.le ?_) (fin q tok Option.none [] a₁ hx hrt₁ _ fun y σ' h=>h)
    exact .of ⟨rfl,rfl,rfl,trivial⟩ trivial rfl
 | cons ch r=>
  rw [show (a ++ rest)[a₁.length]? = some ch by rw [← hx];simp]
  have hx':(a₁ ++ [ch]) ++ r = a ++ rest:=by rw [← hx];simp
  have hal:(a₁ ++ [ch]).length ≤ 1000:=by have:=congrArg List.length hx';rw [List.length_append] at this;lia
  have hal2:(a₁ ++ [ch]).length = a₁.length + 1:=by simp
  dsimp only
  rw [show a₁.length + 1 = (a₁ ++ [ch]).length by simp]
  (refine Sto.loc1 (by rfl) ?_;refine Exs.nil ?_;refine Exs.cons ?_;refine Ex.ifs ?_;refine Tr.cmp1 (by with_unfolding_all rfl) ?_;walk_at "j1";refine Ev.str1 (by decide +kernel) ?_;refine O.eqS ?_;refine T.bool ?_)
  have h10:ch ≠ 10:=fun h=>by subst h;cases st₁ <;> exact absurd (show (Option.none:Option (Option (List Nat) × Option Nat × List Nat)) = some _ from hrt₁) (fun e=>by cases e)
  (refine ite_N (by rw [show (([ch]:List Nat) == (PySem.Str.ofString "\n").cps.toList) = false by rw [e10];simpa using h10] <;> rfl) ?_;refine Exs.nil ?_;refine Exs.cons ?_;refine Ex.ifs ?_;refine Tr.cmp1 (by with_unfolding_all rfl) ?_;walk_at "j2";refine Ev.int ?_;refine O.geI ?_;refine T.bool ?_;refine ite_N (by rfl) ?_;refine Exs.nil ?_;refine Exs.cons ?_;refine Ex.ifs ?_;refine Tr.cmp1 (by with_unfolding_all rfl) ?_;refine Ev.atr ?_;walk_at "j1")
  cases st₁ with
  | none=>
   rw [rt_none,if_neg h10] at hrt₁
   (refine Atr.o3 (by assumption) (noneIn.at (by assumption) (by decide +kernel)) (by rfl) (by rfl) ?_;refine Ev.none ?_;refine O.isN (by rfl) ?_;refine T.bool ?_;refine ite_T (by rfl) ?_;refine Exs.cons ?_;refine Ex.asgA (by rfl) ?_;refine Ev.str1 (by decide +kernel) ?_;walk_at "j1" ;(first | refine Sh.satTok (by rfl) ?_ | refine Sh.satSt (by rfl) ?_ | refine Sh.satStN (by rfl) ?_);refine Exs.cons ?_;refine Ex.brk ?_)
   refine hPP .next _ ?_
   show Exs _ _ _ _
   refine Go.weakP (Lf.le ?_) (fin q [] Option.none r (a₁ ++ [ch]) hx' hrt₁ _ fun y σ' h=>h)
   exact .of ⟨rfl,rfl,rfl,trivial⟩ trivial rfl
  | some y=>
   rw [rt_cons,if_neg h10] at hrt₁
   by_cases h32:y = 32
   ·subst h32
    rw [if_pos rfl] at hrt₁
    (refine Atr.o3 (by assumption) (noneIn.at (by assumption) (by decide +kernel)) (by rfl) (by rfl) ?_;refine Ev.none ?_;refine O.isN (by rfl) ?_;refine T.bool ?_;refine ite_N (by rfl) ?_;refine Exs.cons ?_;refine Ex.ifs ?_;refine Tr.cmp1 (by with_unfolding_all rfl) ?_;walk_at "j2";refine Ev.str1 (by decide +kernel) ?_;refine O.eqS ?_;refine T.bool ?_;refine ite_T (by rfl) ?_;refine Exs.cons ?_;refine Ex.ifs ?_;refine Tr.neg ?_;refine Tr.val1 (by rfl) ?_;walk_at "j1";refine T.str (by exact sl _ (by first | exact Nat.zero_le _ | exact Nat.le_of_ble_eq_true rfl)) ?_;refine ite_N (by rfl) ?_;refine Exs.cons ?_;refine Ex.ifs ?_;refine Tr.cmp1 (by with_unfolding_all rfl) ?_;walk_at "j1";walk_at "j2";refine O.inS ?_;refine T.bool ?_)
    rw [has_sign]
    by_cases hw:ch ∈ [32,9,13]
    ·rw [if_pos hw] at hrt₁
     (refine ite_T (by rw [decide_eq_true (show ch ∈ [32,9,13,10] from List.mem_append_left [10] hw)] <;> rfl) ?_;refine Exs.cons ?_;refine Ex.ifs ?_;refine Tr.cmp1 (by with_unfolding_all rfl) ?_;walk_at "j2";refine Ev.int ?_;refine O.geI ?_;refine T.bool ?_;refine ite_N (by rfl) ?_;refine Exs.nil ?_;refine Exs.cons ?_;refine Ex.ifs ?_;refine Tr.or2 ?_;refine Tr.val ?_ (by rfl);walk_at "j2")
     refine T.str (sl _ (by lia)) ?_
     cases tok with
     | cons z zs=>
      rw [if_pos (.inl (List.cons_ne_nil _ _))] at hrt₁
      (refine ite_T (by rfl) ?_;refine ite_T (by rfl) ?_;refine Exs.cons ?_;refine Ex.brk ?_)
      refine hPP .next _ ?_
      show Exs _ _ _ _
      refine Go.weakP (Lf.le ?_) (fin q (z :: zs) (some 32) r (a₁ ++ [ch]) hx' hrt₁ _ fun y σ' h=>h)
      exact .of ⟨rfl,rfl,rfl,trivial⟩ trivial rfl
     | nil=>
      (refine ite_N (by rfl) ?_;refine Tr.and2 ?_;refine Tr.val ?_ (by rfl);walk_at "j2";refine T.bool ?_;refine ite_T (by rfl) ?_;refine Tr.val1 (by rfl) ?_;walk_at "j1";refine T.bool ?_)
      cases q with
      | true=>
       rw [if_pos (.inr rfl)] at hrt₁
       (refine ite_T (by rfl) ?_;refine Exs.cons ?_;refine Ex.brk ?_)
       refine hPP .next _ ?_
       show Exs _ _ _ _
       refine Go.weakP (Lf.le ?_) (fin true [] (some 32) r (a₁ ++ [ch]) hx' hrt₁ _ fun y σ' h=>h)
       exact .of ⟨rfl,rfl,rfl,trivial⟩ trivial rfl
      | false=>
       rw [if_neg (by decide)] at hrt₁
       (refine ite_N (by rfl) ?_;refine Exs.cons ?_;refine Ex.con ?_)
       exact ⟨((a₁ ++ [ch]),r,some 32,[],false),⟨hx',Nat.zero_le _,hrt₁⟩,Nat.lt_succ_self _,.of ⟨rfl,rfl,rfl,trivial⟩ trivial rfl⟩
    ·rw [if_neg hw] at hrt₁
     (refine ite_N (by rw [decide_eq_false (show ¬ ch ∈ [32,9,13,10] from nmem10 hw h10)] <;> rfl) ?_;refine Exs.cons ?_;refine Ex.ifs ?_;refine Tr.cmp1 (by with_unfolding_all rfl) ?_;walk_at "j1";walk_at "j2";refine O.inS ?_;refine T.bool ?_)
     have hc:¬ (ch ∈ com ∨ ch = 92):=fun h=>by rw [if_pos h] at hrt₁;cases hrt₁
     rw [if_neg hc] at hrt₁
     rw [not_or] at hc
     (refine ite_N (by rw [has_sign,decide_eq_false hc.1] <;> rfl) ?_;refine Exs.cons ?_;refine Ex.ifs ?_;refine Tr.and2 ?_;refine Tr.val ?_ (by rfl);walk_at "j2";refine T.bool ?_;refine ite_T (by rfl) ?_;refine Tr.cmp1 (by with_unfolding_all rfl) ?_;walk_at "j1";walk_at "j2";refine O.inS ?_;refine T.bool ?_)
     (refine ite_N (by rw [has_sign,decide_eq_false (show ¬ ch ∈ [92] by simpa using hc.2)] <;> rfl) ?_;refine Exs.cons ?_;refine Ex.ifs ?_;refine Tr.cmp1 (by with_unfolding_all rfl) ?_;walk_at "j1";walk_at "j2";refine O.inS ?_;refine T.bool ?_)
     by_cases hq:ch = 39 ∨ ch = 34
     ·rw [if_pos hq] at hrt₁
      (refine ite_N (by rw [has_sign,decide_eq_false (show ¬ ch ∈ wordL by rcases hq with rfl | rfl <;> decide)] <;> rfl) ?_;refine Exs.cons ?_;refine Ex.ifs ?_;refine Tr.cmp1 (by with_unfolding_all rfl) ?_;walk_at "j1";refine Ev.atr ?_;walk_at "j1";refine Sh.pc (by assumption) ?_;refine O.inS ?_;refine T.bool ?_)
      (refine ite_N (by rw [has_sign,decide_eq_false (show ¬ ch ∈ [] by simp)] <;> rfl) ?_;refine Exs.cons ?_;refine Ex.ifs ?_;refine Tr.cmp1 (by with_unfolding_all rfl) ?_;walk_at "j1";walk_at "j2";refine O.inS ?_;refine T.bool ?_)
      (refine ite_T (by rw [has_sign,decide_eq_true (show ch ∈ [39,34] by simpa using hq)] <;> rfl) ?_;refine Exs.cons ?_;refine Ex.ifs ?_;refine Tr.neg ?_;refine Tr.val ?_ (by rfl);walk_at "j2";refine T.bool ?_;refine ite_N (by rfl) ?_;refine Exs.nil ?_;refine Exs.cons ?_;refine Ex.asgA (by rfl) ?_;walk_at "j1";walk_at "j1" ;(first | refine Sh.satTok (by rfl) ?_ | refine Sh.satSt (by rfl) ?_ | refine Sh.satStN (by rfl) ?_);refine Exs.nil ?_;refine Exs.nil ?_;refine Exs.nil ?_;refine Exs.nil ?_;refine Exs.nil ?_;refine Exs.nil ?_;refine Exs.nil ?_;refine Exs.nil ?_;refine Exs.nil ?_;refine Exs.nil ?_)
      exact ⟨((a₁ ++ [ch]),r,some ch,tok,q),⟨hx',(by rw [hal2];exact Nat.le_succ_of_le ht),hrt₁⟩,Nat.lt_succ_self _,.of ⟨rfl,rfl,rfl,trivial⟩ trivial rfl⟩
     ·rw [if_neg hq] at hrt₁
      by_cases hwd:ch ∈ wordL
      ·(refine ite_T (by rw [has_sign,decide_eq_true hwd] <;> rfl) ?_;refine Exs.cons ?_;refine Ex.asgA (by rfl) ?_;walk_at "j1";walk_at "j1" ;(first | refine Sh.satTok (by rfl) ?_ | refine Sh.satSt (by rfl) ?_ | refine Sh.satStN (by rfl) ?_);refine Exs.cons ?_;refine Ex.asgA (by rfl) ?_;refine Ev.str1 (by decide +kernel) ?_;walk_at "j1" ;(first | refine Sh.satTok (by rfl) ?_ | refine Sh.satSt (by rfl) ?_ | refine Sh.satStN (by rfl) ?_);refine Exs.nil ?_;refine Exs.nil ?_;refine Exs.nil ?_;refine Exs.nil ?_;refine Exs.nil ?_;refine Exs.nil ?_;refine Exs.nil ?_;refine Exs.nil ?_)
       exact ⟨((a₁ ++ [ch]),r,some 97,[ch],q),⟨hx',by rw [hal2];simp,hrt₁⟩,Nat.lt_succ_self _,.of ⟨rfl,rfl,rfl,trivial⟩ trivial rfl⟩
      ·(refine ite_N (by rw [has_sign,decide_eq_false hwd] <;> rfl) ?_;refine Exs.cons ?_;refine Ex.ifs ?_;refine Tr.cmp1 (by with_unfolding_all rfl) ?_;walk_at "j1";refine Ev.atr ?_;walk_at "j1";refine Sh.pc (by assumption) ?_;refine O.inS ?_;refine T.bool ?_)
       (refine ite_N (by rw [has_sign,decide_eq_false (show ¬ ch ∈ [] by simp)] <;> rfl) ?_;refine Exs.cons ?_;refine Ex.ifs ?_;refine Tr.cmp1 (by with_unfolding_all rfl) ?_;walk_at "j1";walk_at "j2";refine O.inS ?_;refine T.bool ?_)
       (refine ite_N (by rw [has_sign,decide_eq_false (show ¬ ch ∈ [39,34] by simpa using hq)] <;> rfl) ?_;refine Exs.cons ?_;refine Ex.ifs ?_;refine Tr.val ?_ (by rfl);walk_at "j2";refine T.bool ?_;refine ite_T (by rfl) ?_;refine Exs.cons ?_;refine Ex.asgA (by rfl) ?_;walk_at "j1";walk_at "j1" ;(first | refine Sh.satTok (by rfl) ?_ | refine Sh.satSt (by rfl) ?_ | refine Sh.satStN (by rfl) ?_);refine Exs.cons ?_;refine Ex.asgA (by rfl) ?_;refine Ev.str1 (by decide +kernel) ?_;walk_at "j1" ;(first | refine Sh.satTok (by rfl) ?_ | refine Sh.satSt (by rfl) ?_ | refine Sh.satStN (by rfl) ?_);refine Exs.nil ?_;refine Exs.nil ?_;refine Exs.nil ?_;refine Exs.nil ?_;refine Exs.nil ?_;refine Exs.nil ?_;refine Exs.nil ?_;refine Exs.nil ?_;refine Exs.nil ?_;refine Exs.nil ?_;refine Exs.nil ?_)
       exact ⟨((a₁ ++ [ch]),r,some 97,[ch],q),⟨hx',by rw [hal2];simp,hrt₁⟩,Nat.lt_succ_self _,.of ⟨rfl,rfl,rfl,trivial⟩ trivial rfl⟩
   ·rw [if_neg h32] at hrt₁
    (refine Atr.o3 (by assumption) (noneIn.at (by assumption) (by decide +kernel)) (by rfl) (by rfl) ?_;refine Ev.none ?_;refine O.isN (by rfl) ?_;refine T.bool ?_;refine ite_N (by rfl) ?_;refine Exs.cons ?_;refine Ex.ifs ?_;refine Tr.cmp1 (by with_unfolding_all rfl) ?_;walk_at "j2";refine Ev.str1 (by decide +kernel) ?_;refine O.eqS ?_;refine T.bool ?_)
    (refine ite_N (by rw [show (([y]:List Nat) == (PySem.Str.ofString " ").cps.toList) = false by rw [e32];simpa using h32] <;> rfl) ?_;refine Exs.cons ?_;refine Ex.ifs ?_;refine Tr.cmp1 (by with_unfolding_all rfl) ?_;walk_at "j2";walk_at "j2";refine O.inS ?_;refine T.bool ?_)
    by_cases hq:y = 39 ∨ y = 34
    ·rw [if_pos hq] at hrt₁
     (refine ite_T (by rw [has_sign,decide_eq_true (show y ∈ [39,34] by simpa using hq)] <;> rfl) ?_;refine Exs.cons ?_;refine Ex.asg1 (by rfl) ?_;refine Ev.bool1 ?_;refine Sto.loc1 (by rfl) ?_;refine Exs.cons ?_;refine Ex.ifs ?_;refine Tr.neg ?_;refine Tr.val1 (by rfl) ?_;walk_at "j1";refine T.str (by exact sl _ (by first | exact Nat.zero_le _ | exact Nat.le_of_ble_eq_true rfl)) ?_;refine ite_N (by rfl) ?_;refine Exs.nil ?_;refine Exs.cons ?_;refine Ex.ifs ?_;refine Tr.cmp1 (by with_unfolding_all rfl) ?_;walk_at "j1";walk_at "j2";refine O.eqS ?_;refine T.bool ?_)
     by_cases hcy:ch = y
     ·rw [if_pos hcy] at hrt₁
      (refine ite_T (by rw [show (([ch]:List Nat) == [y]) = true by rw [hcy];simp] <;> rfl) ?_;refine Exs.cons ?_;refine Ex.ifs ?_;refine Tr.neg ?_;refine Tr.val ?_ (by rfl);walk_at "j2";refine T.bool ?_;refine ite_N (by rfl) ?_;refine Exs.cons ?_;refine Ex.asgA (by rfl) ?_;refine Ev.str1 (by decide +kernel) ?_;walk_at "j1" ;(first | refine Sh.satTok (by rfl) ?_ | refine Sh.satSt (by rfl) ?_ | refine Sh.satStN (by rfl) ?_);refine Exs.nil ?_;refine Exs.nil ?_;refine Exs.nil ?_;refine Exs.nil ?_;refine Exs.nil ?_;refine Exs.nil ?_)
      exact ⟨((a₁ ++ [ch]),r,some 97,tok,true),⟨hx',(by rw [hal2];exact Nat.le_succ_of_le ht),hrt₁⟩,Nat.lt_succ_self _,.of ⟨rfl,rfl,rfl,trivial⟩ trivial rfl⟩
     ·rw [if_neg hcy] at hrt₁
      (refine ite_N (by rw [show (([ch]:List Nat) == [y]) = false by simpa using hcy] <;> rfl) ?_;refine Exs.cons ?_;refine Ex.ifs ?_;refine Tr.and3 ?_;refine Tr.val ?_ (by rfl);walk_at "j2";refine T.bool ?_;refine ite_T (by rfl) ?_;refine Tr.cmp1 (by with_unfolding_all rfl) ?_;walk_at "j1";walk_at "j2";refine O.inS ?_;refine T.bool ?_)
      rw [has_sign]
      by_cases h92:ch = 92
      ·have hy:¬ (ch = 92 ∧ y = 34):=fun h=>by rw [if_pos h] at hrt₁;cases hrt₁
       rw [if_neg hy] at hrt₁
       (refine ite_T (by rw [decide_eq_true (show ch ∈ [92] by simpa using h92)] <;> rfl) ?_;refine Tr.cmp1 (by with_unfolding_all rfl) ?_;walk_at "j2";walk_at "j2";refine O.inS ?_;refine T.bool ?_)
       (refine ite_N (by rw [has_sign,decide_eq_false (show ¬ y ∈ [34] by simp only [List.mem_cons,List.not_mem_nil,or_false];lia)] <;> rfl) ?_;refine Exs.cons ?_;refine Ex.augAtr ?_;walk_at "j1";refine Atr.o3 (by assumption) (noneIn.at (by assumption) (by decide +kernel)) (by rfl) (by rfl) ?_;walk_at "j1")
       refine O.iaddS (sl _ (by simp only [List.length_cons,List.length_nil];lia)) ?_
       ((first | refine Sh.satTok (by rfl) ?_ | refine Sh.satSt (by rfl) ?_ | refine Sh.satStN (by rfl) ?_);refine Exs.nil ?_;refine Exs.nil ?_;refine Exs.nil ?_;refine Exs.nil ?_;refine Exs.nil ?_;refine Exs.nil ?_)
       exact ⟨((a₁ ++ [ch]),r,some y,(tok ++ [ch]),true),⟨hx',by rw [hal2,List.length_append];exact Nat.succ_le_succ ht,hrt₁⟩,Nat.lt_succ_self _,.of ⟨rfl,rfl,rfl,trivial⟩ trivial rfl⟩
      ·rw [if_neg (fun h=>h92 h.1)] at hrt₁
       (refine ite_N (by rw [decide_eq_false (show ¬ ch ∈ [92] by simpa using h92)] <;> rfl) ?_;refine ite_N (by rfl) ?_;refine Exs.cons ?_;refine Ex.augAtr ?_;walk_at "j1";refine Atr.o3 (by assumption) (noneIn.at (by assumption) (by decide +kernel)) (by rfl) (by rfl) ?_;walk_at "j1")
       refine O.iaddS (sl _ (by simp only [List.length_cons,List.length_nil];lia)) ?_
       ((first | refine Sh.satTok (by rfl) ?_ | refine Sh.satSt (by rfl) ?_ | refine Sh.satStN (by rfl) ?_);refine Exs.nil ?_;refine Exs.nil ?_;refine Exs.nil ?_;refine Exs.nil ?_;refine Exs.nil ?_;refine Exs.nil ?_)
       exact ⟨((a₁ ++ [ch]),r,some y,(tok ++ [ch]),true),⟨hx',by rw [hal2,List.length_append];exact Nat.succ_le_succ ht,hrt₁⟩,Nat.lt_succ_self _,.of ⟨rfl,rfl,rfl,trivial⟩ trivial rfl⟩
    ·rw [if_neg hq] at hrt₁
     have h97:y = 97:=Decidable.byContradiction fun h=>by rw [if_neg h] at hrt₁;cases hrt₁
     subst h97
     rw [if_pos rfl] at hrt₁
     (refine ite_F (by decide +kernel) ?_;refine Exs.cons ?_;refine Ex.ifs ?_;refine Tr.cmp1 (by with_unfolding_all rfl) ?_;walk_at "j2";walk_at "j2";refine O.inS ?_;refine T.bool ?_;refine ite_F (by decide +kernel) ?_;refine Exs.cons ?_;refine Ex.ifs ?_;refine Tr.cmp1 (by with_unfolding_all rfl) ?_;walk_at "j2";refine Ev.tup ?_;refine Sps.argC (by rfl) ?_;refine Ev.str1 (by decide +kernel) ?_;refine Sps.argC (by rfl) ?_;refine Ev.str1 (by decide +kernel) ?_;refine Sps.argN ?_)
     refine ⟨sl _ (Nat.le_of_ble_eq_true rfl),?_⟩
     refine O.inTS (ls:=[[97],[99]]) ?_
     (refine T.bool ?_;refine ite_T (by rfl) ?_;refine Exs.cons ?_;refine Ex.ifs ?_;refine Tr.neg ?_;refine Tr.val1 (by rfl) ?_;walk_at "j1";refine T.str (by exact sl _ (by first | exact Nat.zero_le _ | exact Nat.le_of_ble_eq_true rfl)) ?_;refine ite_N (by rfl) ?_;refine Exs.cons ?_;refine Ex.ifs ?_;refine Tr.cmp1 (by with_unfolding_all rfl) ?_;walk_at "j1";walk_at "j2";refine O.inS ?_;refine T.bool ?_)
     rw [has_sign]
     by_cases hw:ch ∈ [32,9,13]
     ·rw [if_pos hw] at hrt₁
      (refine ite_T (by rw [decide_eq_true (show ch ∈ [32,9,13,10] from List.mem_append_left [10] hw)] <;> rfl) ?_;refine Exs.cons ?_;refine Ex.ifs ?_;refine Tr.cmp1 (by with_unfolding_all rfl) ?_;walk_at "j2";refine Ev.int ?_;refine O.geI ?_;refine T.bool ?_;refine ite_N (by rfl) ?_;refine Exs.nil ?_;refine Exs.cons ?_;refine Ex.asgA (by rfl) ?_;refine Ev.str1 (by decide +kernel) ?_;walk_at "j1" ;(first | refine Sh.satTok (by rfl) ?_ | refine Sh.satSt (by rfl) ?_ | refine Sh.satStN (by rfl) ?_);refine Exs.cons ?_;refine Ex.ifs ?_;refine Tr.or2 ?_;refine Tr.val ?_ (by rfl);walk_at "j2")
      refine T.str (sl _ (by lia)) ?_
      cases tok with
      | cons z zs=>
       rw [if_pos (.inl (List.cons_ne_nil _ _))] at hrt₁
       (refine ite_T (by rfl) ?_;refine ite_T (by rfl) ?_;refine Exs.cons ?_;refine Ex.brk ?_)
       refine hPP .next _ ?_
       show Exs _ _ _ _
       refine Go.weakP (Lf.le ?_) (fin q (z :: zs) (some 32) r (a₁ ++ [ch]) hx' hrt₁ _ fun y σ' h=>h)
       exact .of ⟨rfl,rfl,rfl,trivial⟩ trivial rfl
      | nil=>
       (refine ite_N (by rfl) ?_;refine Tr.and2 ?_;refine Tr.val ?_ (by rfl);walk_at "j2";refine T.bool ?_;refine ite_T (by rfl) ?_;refine Tr.val1 (by rfl) ?_;walk_at "j1";refine T.bool ?_)
       cases q with
       | true=>
        rw [if_pos (.inr rfl)] at hrt₁
        (refine ite_T (by rfl) ?_;refine Exs.cons ?_;refine Ex.brk ?_)
        refine hPP .next _ ?_
        show Exs _ _ _ _
        refine Go.weakP (Lf.le ?_) (fin true [] (some 32) r (a₁ ++ [ch]) hx' hrt₁ _ fun y σ' h=>h)
        exact .of ⟨rfl,rfl,rfl,trivial⟩ trivial rfl
       | false=>
        rw [if_neg (by decide)] at hrt₁
        (refine ite_N (by rfl) ?_;refine Exs.cons ?_;refine Ex.con ?_)
        exact ⟨((a₁ ++ [ch]),r,some 32,[],false),⟨hx',Nat.zero_le _,hrt₁⟩,Nat.lt_succ_self _,.of ⟨rfl,rfl,rfl,trivial⟩ trivial rfl⟩
     ·rw [if_neg hw] at hrt₁
      (refine ite_N (by rw [decide_eq_false (show ¬ ch ∈ [32,9,13,10] from nmem10 hw h10)] <;> rfl) ?_;refine Exs.cons ?_;refine Ex.ifs ?_;refine Tr.cmp1 (by with_unfolding_all rfl) ?_;walk_at "j1";walk_at "j2";refine O.inS ?_;refine T.bool ?_)
      have hc:¬ (ch ∈ com ∨ ch = 92):=fun h=>by rw [if_pos h] at hrt₁;cases hrt₁
      rw [if_neg hc] at hrt₁
      rw [not_or] at hc
      (refine ite_N (by rw [has_sign,decide_eq_false hc.1] <;> rfl) ?_;refine Exs.cons ?_;refine Ex.ifs ?_;refine Tr.cmp1 (by with_unfolding_all rfl) ?_;walk_at "j2";refine Ev.str1 (by decide +kernel) ?_;refine O.eqS ?_;refine T.bool ?_;refine ite_N (by rfl) ?_;refine Exs.cons ?_;refine Ex.ifs ?_;refine Tr.and2 ?_;refine Tr.val ?_ (by rfl);walk_at "j2";refine T.bool ?_;refine ite_T (by rfl) ?_;refine Tr.cmp1 (by with_unfolding_all rfl) ?_;walk_at "j1";walk_at "j2";refine O.inS ?_;refine T.bool ?_)
      by_cases hq:ch = 39 ∨ ch = 34
      ·rw [if_pos hq] at hrt₁
       (refine ite_T (by rw [has_sign,decide_eq_true (show ch ∈ [39,34] by simpa using hq)] <;> rfl) ?_;refine Exs.cons ?_;refine Ex.asgA (by rfl) ?_;walk_at "j1";walk_at "j1" ;(first | refine Sh.satTok (by rfl) ?_ | refine Sh.satSt (by rfl) ?_ | refine Sh.satStN (by rfl) ?_);refine Exs.nil ?_;refine Exs.nil ?_;refine Exs.nil ?_;refine Exs.nil ?_;refine Exs.nil ?_;refine Exs.nil ?_;refine Exs.nil ?_;refine Exs.nil ?_;refine Exs.nil ?_;refine Exs.nil ?_;refine Exs.nil ?_)
       exact ⟨((a₁ ++ [ch]),r,some ch,tok,q),⟨hx',(by rw [hal2];exact Nat.le_succ_of_le ht),hrt₁⟩,Nat.lt_succ_self _,.of ⟨rfl,rfl,rfl,trivial⟩ trivial rfl⟩
      ·rw [if_neg hq] at hrt₁
       (refine ite_N (by rw [has_sign,decide_eq_false (show ¬ ch ∈ [39,34] by simpa using hq)] <;> rfl) ?_;refine Exs.cons ?_;refine Ex.ifs ?_;refine Tr.and2 ?_;refine Tr.val ?_ (by rfl);walk_at "j2";refine T.bool ?_;refine ite_T (by rfl) ?_;refine Tr.cmp1 (by with_unfolding_all rfl) ?_;walk_at "j1";walk_at "j2";refine O.inS ?_;refine T.bool ?_)
       (refine ite_N (by rw [has_sign,decide_eq_false (show ¬ ch ∈ [92] by simpa using hc.2)] <;> rfl) ?_;refine Exs.cons ?_;refine Ex.ifs ?_)
       refine Tr.bop (All.orC ?_)
       (refine Tr.cmp1 (by with_unfolding_all rfl) ?_;walk_at "j1";walk_at "j2";refine O.inS ?_;refine T.bool ?_)
       by_cases hwd:ch ∈ wordL
       ·(refine ite_T (by rw [has_sign,decide_eq_true hwd] <;> rfl) ?_;refine ite_T (by rfl) ?_;refine Exs.cons ?_;refine Ex.augAtr ?_;walk_at "j1";refine Atr.o3 (by assumption) (noneIn.at (by assumption) (by decide +kernel)) (by rfl) (by rfl) ?_;walk_at "j1")
        refine O.iaddS (sl _ (by simp only [List.length_cons,List.length_nil];lia)) ?_
        ((first | refine Sh.satTok (by rfl) ?_ | refine Sh.satSt (by rfl) ?_ | refine Sh.satStN (by rfl) ?_);refine Exs.nil ?_;refine Exs.nil ?_;refine Exs.nil ?_;refine Exs.nil ?_;refine Exs.nil ?_;refine Exs.nil ?_;refine Exs.nil ?_;refine Exs.nil ?_;refine Exs.nil ?_;refine Exs.nil ?_;refine Exs.nil ?_;refine Exs.nil ?_;refine Exs.nil ?_)
        exact ⟨((a₁ ++ [ch]),r,some 97,(tok ++ [ch]),q),⟨hx',by rw [hal2,List.length_append];exact Nat.succ_le_succ ht,hrt₁⟩,Nat.lt_succ_self _,.of ⟨rfl,rfl,rfl,trivial⟩ trivial rfl⟩
       ·(refine ite_N (by rw [has_sign,decide_eq_false hwd] <;> rfl) ?_)
        refine All.orC ?_
        (refine Tr.cmp1 (by with_unfolding_all rfl) ?_;walk_at "j1";walk_at "j2";refine O.inS ?_;refine T.bool ?_)
        (refine ite_N (by rw [has_sign,decide_eq_false (show ¬ ch ∈ [39,34] by simpa using hq)] <;> rfl) ?_)
        refine All.orC ?_
        (refine Tr.and2 ?_;refine Tr.val ?_ (by rfl);walk_at "j2";refine T.bool ?_;refine ite_T (by rfl) ?_;refine Tr.cmp1 (by with_unfolding_all rfl) ?_;walk_at "j1";refine Ev.atr ?_;walk_at "j1";refine Sh.pc (by assumption) ?_;refine O.niS ?_;refine T.bool ?_)
        (refine ite_T (by rw [has_sign,decide_eq_false (show ¬ ch ∈ [] by simp)] <;> rfl) ?_;refine ite_T (by rfl) ?_;refine Exs.cons ?_;refine Ex.augAtr ?_;walk_at "j1";refine Atr.o3 (by assumption) (noneIn.at (by assumption) (by decide +kernel)) (by rfl) (by rfl) ?_;walk_at "j1")
        refine O.iaddS (sl _ (by simp only [List.length_cons,List.length_nil];lia)) ?_
        ((first | refine Sh.satTok (by rfl) ?_ | refine Sh.satSt (by rfl) ?_ | refine Sh.satStN (by rfl) ?_);refine Exs.nil ?_;refine Exs.nil ?_;refine Exs.nil ?_;refine Exs.nil ?_;refine Exs.nil ?_;refine Exs.nil ?_;refine Exs.nil ?_;refine Exs.nil ?_;refine Exs.nil ?_;refine Exs.nil ?_;refine Exs.nil ?_;refine Exs.nil ?_;refine Exs.nil ?_)
        exact ⟨((a₁ ++ [ch]),r,some 97,(tok ++ [ch]),q),⟨hx',by rw [hal2,List.length_append];exact Nat.succ_le_succ ht,hrt₁⟩,Nat.lt_succ_self _,.of ⟨rfl,rfl,rfl,trivial⟩ trivial rfl⟩
end
end
section
set_option maxHeartbeats 0
set_option maxRecDepth 20000
section
variable {W₀:Wld} {c:Cx W₀} {σ:St} {Q:AV → St → Prop}
theorem gt_spec (Lb:ShM W₀) {n:Nat} (hr:c.Room (n + 5)) {a0:Addr × AO} {ix idx x dx:Addr} {a rest:List Nat} {com:List Nat} {st:Option Nat} {post:List (Addr × AO)} (hH:σ.H = shL Lb a0 ix idx x dx (a ++ rest) a.length com st [] post) (hl:(a ++ rest).length ≤ 1000)
  {out:Option (List Nat)} {st':Option Nat} {rest':List Nat} (hrt:rt com rest st [] false = some (out,st',rest'))
  (h:∀ a',a' ++ rest' = a ++ rest → Q (outA out) { σ with H:=shL Lb a0 ix idx x dx (a ++ rest) a'.length com st' [] post }):Cal c (.ref Lb.sGt) [.ref x] [] σ Q:=by
 obtain ⟨m0,cl0,H0⟩:=σ
 dsimp only at hH h
 subst hH
 refine call_def (bas:=[("self",.ref x)]) Lb.hGt hr (fun q doc pm code=>?_) (by kernel_rfl) (by kernel_rfl) (by kernel_rfl) [("self",.ref x)] [] (by kernel_rfl) (by kernel_rfl) fun q doc pm code hfn L=>?_
 ·exact Bind.pos (ns:=["self"]) rfl (all1 fun v=>by kernel_rfl)
 have hr':(funCx c hfn L).Room (n + 4):=hr.fn hfn L
 have hu:(funCx c hfn L).A.units < 9000:=Nat.lt_of_le_of_lt (Nat.le_add_right _ _) hr'.2
 have hC:=Lb.scls
 have hno:=Lb.sno
 refine Exs.cons ?_
 (refine Ex.ifs ?_;refine Tr.val ?_ (by rfl);walk_at "j2";refine T.deq ?_;refine ite_N (by rfl) ?_;refine Exs.nil ?_;refine Exs.cons ?_;refine Ex.asg1 (by rfl) ?_;refine Ev.cI ⟨_,rfl⟩ (by rfl) ?_;walk_at "j1")
 refine ⟨x,Lb.C,dx,_,Lb.sRt,rfl,⟨.tail _ (.tail _ (.tail _ (.head _))),.tail _ (.tail _ (.tail _ (.tail _ (.head _))))⟩,Lb.mRt,by rfl,Lb.hRt.cee,?_⟩
 (refine Sps.argN ?_)
 refine rd_spec Lb hr' rfl hl hrt fun a' ha'=>?_
 have h:=h a' ha'
 cases out with
 | none=>
  (refine Sto.loc1 (by rfl) ?_;refine Exs.cons ?_;refine Ex.ifs ?_;refine Tr.cmp1 (by with_unfolding_all rfl) ?_;walk_at "j2";refine Ev.none ?_;refine O.isNotN (by rfl) ?_;refine T.bool ?_;refine ite_N (by rfl) ?_;refine Exs.nil ?_;refine Exs.cons ?_)
  refine Ex.whil (fun _ σ'=>σ' = _) 0 rfl ?_
  rintro n' σ' rfl
  (refine Tr.cmp1 (by with_unfolding_all rfl) ?_;walk_at "j1";walk_at "j2")
  refine O.eqP (by rfl) (by rfl) hu ?_
  (refine T.bool ?_;refine ite_T (by rfl) ?_;refine Exs.cons ?_;refine Ex.ifs ?_;refine Tr.neg ?_;refine Tr.val ?_ (by rfl);walk_at "j2";refine T.deq ?_;refine ite_T (by rfl) ?_;refine Exs.cons ?_;refine Ex.ret ?_;walk_at "j2")
  exact h
 | some w=>
  (refine Sto.loc1 (by rfl) ?_;refine Exs.cons ?_;refine Ex.ifs ?_;refine Tr.cmp1 (by with_unfolding_all rfl) ?_;walk_at "j2";refine Ev.none ?_;refine O.isNotN (by rfl) ?_;refine T.bool ?_;refine ite_N (by rfl) ?_;refine Exs.nil ?_;refine Exs.cons ?_)
  refine Ex.whil (fun _ σ'=>σ' = _) 0 rfl ?_
  rintro n' σ' rfl
  (refine Tr.cmp1 (by with_unfolding_all rfl) ?_;walk_at "j1";walk_at "j2")
  refine O.eqP (by rfl) (by rfl) hu ?_
  (refine T.bool ?_;refine ite_N (by rfl) ?_;refine Exs.cons ?_;refine Ex.ifs ?_;refine Tr.cmp1 (by with_unfolding_all rfl) ?_;walk_at "j2";refine Ev.int ?_;refine O.geI ?_;refine T.bool ?_;refine ite_N (by rfl) ?_;refine Exs.nil ?_;refine Exs.cons ?_;refine Ex.ret ?_;walk_at "j1")
  exact h
theorem it_spec (Lb:ShM W₀) {n:Nat} (hr:c.Room (n + 1)) {x:Addr} (h:Q (.ref x) σ):Cal c (.ref Lb.sIt) [.ref x] [] σ Q:=by
 refine call_def (bas:=[("self",.ref x)]) Lb.hIt hr (fun q doc pm code=>?_) (by kernel_rfl) (by kernel_rfl) (by kernel_rfl) [("self",.ref x)] [] (by kernel_rfl) (by kernel_rfl) fun q doc pm code hfn L=>?_
 ·exact Bind.pos (ns:=["self"]) rfl (all1 fun v=>by kernel_rfl)
 refine Exs.cons ?_
 (refine Ex.ret ?_;walk_at "j1")
 exact h
theorem nx_spec (Lb:ShM W₀) {n:Nat} (hr:c.Room (n + 6)) {fs:List Env} (hfs:c.frs = some fs) {X:St → Prop} {a0:Addr × AO} {ix idx x dx:Addr} {a rest:List Nat} {com:List Nat} {st:Option Nat} {post:List (Addr × AO)} (hH:σ.H = shL Lb a0 ix idx x dx (a ++ rest) a.length com st [] post) (hl:(a ++ rest).length ≤ 1000)
  {out:Option (List Nat)} {st':Option Nat} {rest':List Nat} (hrt:rt com rest st [] false = some (out,st',rest'))
  (h:∀ a',a' ++ rest' = a ++ rest → match out with | some w=>Q (.str w) { σ with H:=shL Lb a0 ix idx x dx (a ++ rest) a'.length com st' [] post } | Option.none=>X { σ with H:=shL Lb a0 ix idx x dx (a ++ rest) a'.length com st' [] post }):CalCX c (.ref Lb.sNx) [.ref x] [] σ Q X:=by
 obtain ⟨m0,cl0,H0⟩:=σ
 dsimp only at hH h
 subst hH
 refine call_defCX (bas:=[("self",.ref x)]) Lb.hNx hr (fun q doc pm code=>?_) (by kernel_rfl) (by kernel_rfl) (by kernel_rfl) [("self",.ref x)] [] (by kernel_rfl) (by kernel_rfl) fun q doc pm code hfn L=>?_
 ·exact (Bind.pos (ns:=["self"]) rfl (all1 fun v=>by kernel_rfl)).g
 have hr':(funCx c hfn L).Room (n + 5):=hr.fn hfn L
 have hu:(funCx c hfn L).A.units < 9000:=Nat.lt_of_le_of_lt (Nat.le_add_right _ _) hr'.2
 have hC:=Lb.scls
 have hno:=Lb.sno
 refine ExsX.cons ?_
 (refine Ex.asg1 (by rfl) ?_;refine Ev.cI ⟨_,rfl⟩ (by rfl) ?_;walk_at "j1")
 refine ⟨x,Lb.C,dx,_,Lb.sGt,rfl,⟨.tail _ (.tail _ (.tail _ (.head _))),.tail _ (.tail _ (.tail _ (.tail _ (.head _))))⟩,Lb.mGt,by rfl,Lb.hGt.cee,?_⟩
 (refine Sps.argN ?_)
 refine gt_spec Lb hr' rfl hl hrt fun a' ha'=>?_
 have h:=h a' ha'
 (refine Sto.loc1 (by rfl) ?_)
 refine ExsX.ifRaise Lb.bStop (by kernel_rfl) (show c.frs.map _ = some (_ :: fs) by rw [hfs];rfl) (by rfl) ?_
 cases out with
 | none=>
  (refine Tr.cmp1 (by with_unfolding_all rfl) ?_;walk_at "j1";walk_at "j2")
  refine O.eqP (by rfl) (by rfl) hu ?_
  (refine T.bool ?_;refine ite_T (by rfl) ?_)
  exact h
 | some w=>
  (refine Tr.cmp1 (by with_unfolding_all rfl) ?_;walk_at "j1";walk_at "j2")
  refine O.eqP (by rfl) (by rfl) hu ?_
  (refine T.bool ?_;refine ite_N (by rfl) ?_)
  refine ExsX.of ?_
  (refine Exs.cons ?_;refine Ex.ret ?_;walk_at "j1")
  exact h
noncomputable def spl (com:List Nat):Nat → List Nat → Option Nat → Option (List (List Nat))
 | 0,_,_=>none
 | n + 1,rest,st=>match rt com rest st [] false with
  | none=>none
  | some (none,_,_)=>some []
  | some (some w,st',rest')=>(spl com n rest' st').map (w :: ·)
theorem spl_succ (com:List Nat) (n:Nat) (rest:List Nat) (st:Option Nat):spl com (n + 1) rest st = match rt com rest st [] false with
  | none=>none
  | some (none,_,_)=>some []
  | some (some w,st',rest')=>(spl com n rest' st').map (w :: ·):=rfl
theorem drain_spec (Lb:ShM W₀) {n:Nat} (hr:c.Room (n + 6)) {fs:List Env} (hfs:c.frs = some fs) {S ix idx x dx:Addr} {com:List Nat} {post:List (Addr × AO)} {Qd:List AV → St → Prop} {m cl:List (PySem.Str × AV)} :
  ∀ (k:Nat) (a rest:List Nat) (st:Option Nat) (acc:List AV) (ws:List (List Nat)),(a ++ rest).length ≤ 1000 → spl com k rest st = some ws →
   (∀ a' st',Qd (acc ++ ws.map .str) ⟨m,cl,shL Lb (S,.list (acc ++ ws.map .str)) ix idx x dx (a ++ rest) a' com st' [] post⟩) →
   Drain c Lb.C Lb.sNx x S (ws.map .str) acc ⟨m,cl,shL Lb (S,.list acc) ix idx x dx (a ++ rest) a.length com st [] post⟩ Qd
 | 0,a,rest,st,acc,ws=>fun hl hs h=>by cases hs
 | k + 1,a,rest,st,acc,ws=>fun hl hs h=>by
  rw [spl_succ] at hs
  cases hrt:rt com rest st [] false with
  | none=>rw [hrt] at hs;cases hs
  | some z=>
  obtain ⟨o,st',rest'⟩:=z
  rw [hrt] at hs
  cases o with
  | none=>
   cases hs
   refine nx_spec Lb hr hfs rfl hl hrt fun a' ha'=>?_
   have:=h a'.length st'
   simpa using this
  | some w=>
   obtain ⟨ws',e1,rfl⟩:=Option.map_eq_some_iff.mp hs
   refine nx_spec Lb hr hfs rfl hl hrt fun a' ha'=>⟨rfl,⟨_,rfl⟩,fun H e=>?_⟩
   injection e with _ _ e
   injection e with _ e
   subst e
   refine ⟨⟨dx,_,.tail _ (.tail _ (.tail _ (.head _))),.tail _ (.tail _ (.tail _ (.tail _ (.head _))))⟩,?_⟩
   have:=drain_spec Lb hr hfs k a' rest' st' (acc ++ [.str w]) ws' (by rw [ha'];exact hl) e1 (Qd:=Qd) (m:=m) (cl:=cl) (S:=S) (ix:=ix) (idx:=idx) (x:=x) (dx:=dx) (com:=com) (post:=post) (fun a'' st''=>by
    have:=h a'' st''
    rw [ha']
    simpa using this)
   rw [ha'] at this
   exact this
end
end
section
set_option maxHeartbeats 0
set_option maxRecDepth 20000
section
variable {W₀:Wld} {c:Cx W₀} {σ:St} {Q:AV → St → Prop}
theorem room_lo {m k:Nat} (h:c.Room k) (hm:m ≤ k):c.Room m:=⟨Nat.lt_of_le_of_lt (Nat.add_le_add_left (Nat.mul_le_mul_left 2 hm) _) h.1,Nat.lt_of_le_of_lt (Nat.add_le_add_left (Nat.mul_le_mul_left 20 hm) _) h.2⟩
theorem split_spec (Lb:ShM W₀) {n:Nat} (hr:c.Room (n + 9)) {fs:List Env} (hfs:c.frs = some fs) {l:List Nat} {ws:List (List Nat)} {k:Nat} (hl:l.length ≤ 1000) (hw:ws.length ≤ 1000) (hs:spl [] k l (some 32) = some ws) (h:Q (.lst (ws.map .str)) σ) :
  Cal c (.ref Lb.sSp) [.str l] [] σ Q:=by
 refine Cal.weak ?_
 refine call_def (bas:=[("s",.str l),("comments",.bool false),("posix",.bool true)]) Lb.hSp hr (fun q doc pm code=>?_) (by kernel_rfl) (by kernel_rfl) (by kernel_rfl) [("s",.str l),("comments",.bool false),("posix",.bool true)] [] (by kernel_rfl) (by kernel_rfl) fun q doc pm code hfn L=>?_
 ·refine Bind.dfl rfl Lb.dSp fun b vs kvs r rk=>?_
  obtain ⟨v1,r1,rfl,z1,e⟩:=r
  rw [show r1 = [] from e,show kvs = [] from List.map_eq_nil_iff.mp rk.1]
  exact ⟨_,[("s",v1),("comments",.bool false),("posix",.bool true)],rfl,by kernel_rfl,rfl,⟨_,_,rfl,z1,_,_,rfl,rfl,_,_,rfl,rfl,rfl⟩⟩
 have hr':(funCx c hfn L).Room (n + 8):=hr.fn hfn L
 have hC:=Lb.scls
 have hno:=Lb.sno
 have bList:=Lb.bList
 refine Exs.cons ?_
 (refine Ex.ifs ?_;refine Tr.cmp1 (by with_unfolding_all rfl) ?_;walk_at "j1";refine Ev.none ?_;refine O.isN (by rfl) ?_;refine T.bool ?_;refine ite_N (by rfl) ?_;refine Exs.nil ?_;refine Exs.cons ?_;refine Ex.asg1 (by rfl) ?_)
 refine Ev.cFk ["posix"] Lb.gSh (Cee.cls Lb.kSh) (by kernel_rfl) (by rfl) (by kernel_rfl) (by rfl) (by rfl) ?_
 (refine Sps.argC (by rfl) ?_;refine Ev.loc (by rfl) (by first | rfl | assumption) ?_ (by kernel_rfl);refine Sps.argN ?_)
 refine Kws.cons ?_
 (walk_at "j1")
 refine Kws.nil ⟨rfl,?_⟩
 refine Cal.make Lb.mks Lb.fi Lb.tf fun x dx A' hA hd hu=>?_
 refine sh_init (n:=n + 3) Lb (hr'.wA hd hu) rfl fun ix idx=>⟨rfl,?_⟩
 (refine Sto.loc1 (by rfl) ?_;refine Exs.cons ?_;refine Ex.asgA (by rfl) ?_;refine Ev.bool1 ?_;walk_at "j1")
 refine Sat.rep3 hC rfl (by rfl) (Nat.le_of_ble_eq_true (by rfl)) (noneIn.at hno (by decide +kernel)) (kvs':=shKv ix [35] true (some 32) []) (by kernel_rfl) ?_
 (refine Exs.cons ?_;refine Ex.ifs ?_;refine Tr.neg ?_;refine Tr.val1 (by rfl) ?_;walk_at "j1";refine T.bool ?_;refine ite_T (by rfl) ?_;refine Exs.cons ?_;refine Ex.asgA (by rfl) ?_;refine Ev.str1 (by decide +kernel) ?_;walk_at "j1")
 refine Sat.rep3 hC rfl (by rfl) (Nat.le_of_ble_eq_true (by rfl)) (noneIn.at hno (by decide +kernel)) (kvs':=shKv ix [] true (some 32) []) (by kernel_rfl) ?_
 (refine Exs.nil ?_;refine Exs.cons ?_;refine Ex.ret ?_;refine Ev.cT (by assumption) (by kernel_rfl) (by rfl) (by kernel_rfl) ?_;refine Sps.argC (by rfl) ?_;walk_at "j1";refine Sps.argN ?_)
 refine Cal.listOwn (W:=fun _ _=>True) Lb.own (ys:=ws.map .str) ⟨.tail _ (.tail _ (.head _)),.tail _ (.tail _ (.tail _ (.head _)))⟩ (by rw [List.length_map];exact hw) (fun A' hA hF hd hu S hS=>?_) (fun A' hA hF hd hu S hS=>?_)
 ·exact it_spec (n:=n) Lb ((show (funCx c hfn L).Room (n + 2) from room_lo hr' (Nat.add_le_add_left (by decide) n)).wF hd hu) ⟨rfl,rfl⟩
 ·refine drain_spec (n:=n) Lb ((show (funCx c hfn L).Room (n + 7) from room_lo hr' (Nat.add_le_add_left (by decide) n)).wF hd hu) (fs:=_ :: fs) (show c.frs.map _ = some (_ :: fs) by rw [hfs];rfl) k [] l (some 32) [] ws hl hs fun a' st'=>?_
  refine ⟨_,rfl,?_⟩
  refine ⟨σ,⟨fun _ _ e=>e,fun _ _ e=>e,?_⟩,h⟩
  exact (((List.sublist_cons_self _ _).trans (List.sublist_cons_self _ _)).trans (List.sublist_cons_self _ _)).trans (List.sublist_cons_self _ _)
end
end
section
set_option maxHeartbeats 0
set_option maxRecDepth 20000
structure FnM (W₀:Wld) where
 aTranslate:Addr
 aTr:Addr
 aJtp:Addr
 aEsc:Addr
 dMap:Addr
 hTranslate:Def W₀ aTranslate F_translate .none .none
 hTr:Def W₀ aTr F_tr .none .none
 hJtp:Def W₀ aJtp F_jtp .none .none
 hEsc:Def W₀ aEsc F_escape .none .none
 gTranslate:gN W₀ "translate" (.ref aTranslate)
 gTr:gN W₀ "_translate" (.ref aTr)
 gJtp:gN W₀ "_join_translated_parts" (.ref aJtp)
 gEsc:gN W₀ "escape" (.ref aEsc)
 gMap:gN W₀ "_special_chars_map" (.ref dMap)
 map:EscAt W₀ dMap
 bLen:bN W₀ "len" (.builtin "len")
 bIsi:bN W₀ "isinstance" (.builtin "isinstance")
 bStr:bN W₀ "str" (.type "str")
 bObj:bN W₀ "object" (.type "object")
section
variable {W₀:Wld} {c:Cx W₀} {σ:St} {Q:AV → St → Prop}
theorem escape_spec (Lb:FnM W₀) {n:Nat} (hr:c.Room (n + 1)) {x:Nat} (hx:x < 1114112) (h:Q (.str (esc x)) σ):Cal c (.ref Lb.aEsc) [.str [x]] [] σ Q:=by
 refine call_def (bas:=[("pattern",.str [x])]) Lb.hEsc hr (fun q doc pm code=>?_) (by kernel_rfl) (by kernel_rfl) (by kernel_rfl) [("pattern",.str [x])] [] (by kernel_rfl) (by kernel_rfl) fun q doc pm code hfn L=>?_
 ·exact Bind.pos (ns:=["pattern"]) rfl (all1 fun v=>by kernel_rfl)
 have hr':(funCx c hfn L).Room n:=hr.fn hfn L
 have bIsi:=Lb.bIsi
 refine Exs.cons ?_
 refine Ex.ifs ?_
 refine Tr.val1 (by rfl) ?_
 (refine Ev.cB (by assumption) (by kernel_rfl) (by rfl) (by kernel_rfl) ?_;refine Sps.argC (by rfl) ?_;walk_at "j1";refine Sps.argC (by rfl) ?_)
 refine byG fun Gq kq=>?_
 obtain ⟨mg,mb,g1,g2,g3,g4⟩:=Lb.bStr
 refine kq ?_
 refine Ev.blt (a:=.ty "str") (v:=.type "str") (by kernel_rfl) ⟨mg,mb,g1,g2,g3,g4⟩ (fun _=>rfl) ?_ (by kernel_rfl)
 (refine Sps.argN ?_)
 refine Cal.isiStr ?_
 (refine T.bool ?_)
 show Exs _ _ _ _
 (refine Exs.cons ?_;refine Ex.ret ?_;refine Ev.cM ⟨_,rfl⟩ (by rfl) ?_;walk_at "j1")
 refine ⟨_,HasM.translate,?_⟩
 (refine Sps.argC (by rfl) ?_)
 refine Ev.glb (a:=.ref Lb.dMap) (v:=.ref Lb.dMap) (by kernel_rfl) Lb.gMap (fun _=>rfl) ?_ (by kernel_rfl)
 (refine Sps.argN ?_)
 refine Cal.trans1 Lb.map hx ?_
 exact h
noncomputable def stepT (acc:List (Option (List Nat))) (x:Nat):List (Option (List Nat)):=
 if x = 42 then (if acc.getLast? = some none then acc else acc ++ [none]) else if x = 63 then acc ++ [some [46]] else acc ++ [some (esc x)]
noncomputable def trP (pat:List Nat):List (Option (List Nat)):=pat.foldl stepT []
theorem stepT_len (acc:List (Option (List Nat))) (x:Nat):(stepT acc x).length ≤ acc.length + 1:=by
 unfold stepT;(repeat' split) <;> simp
theorem trP_len (pat:List Nat):(trP pat).length ≤ pat.length:=by
 have key:∀ (pat:List Nat) (acc:List (Option (List Nat))),(pat.foldl stepT acc).length ≤ acc.length + pat.length:=by
  intro pat
  induction pat with
  | nil=>intro acc;simp
  | cons x r ih=>intro acc;have h1:=ih (stepT acc x);have h2:=stepT_len acc x;rw [List.foldl_cons,List.length_cons];lia
 have:=key pat [];simpa [trP] using this
theorem tr_spec (Lb:FnM W₀) {n:Nat} (hr:c.Room (n + 2)) {pat:List Nat} {S:Addr} (hok:okS pat = true) (hb:91 ∉ pat) (hl:pat.length ≤ 1000) (h:Q (.lst ((trP pat).map (prtA S))) σ):Cal c (.ref Lb.aTr) [.str pat,.ref S,.str [46]] [] σ Q:=by
 refine Cal.frz ?_
 refine call_def (bas:=[("pat",.str pat),("STAR",.ref S),("QUESTION_MARK",.str [46])]) Lb.hTr hr (fun q doc pm code=>?_) (by kernel_rfl) (by kernel_rfl) (by kernel_rfl) [("pat",.str pat),("STAR",.ref S),("QUESTION_MARK",.str [46])] [] (by kernel_rfl) (by kernel_rfl) fun q doc pm code hfn L=>?_
 ·exact Bind.pos (ns:=["pat", "STAR", "QUESTION_MARK"]) rfl (all3 fun v v2 v3=>by kernel_rfl)
 have hr':(funCx c hfn L).Room (n + 1):=hr.fn hfn L
 have bLen:=Lb.bLen
 refine Exs.cons ?_
 refine Ex.asg1 (by rfl) ?_
 refine Ev.lstL ?_
 (refine Sps.argN ?_)
 refine ⟨by decide,fun D hD=>?_⟩
 (refine Sto.loc1 (by rfl) ?_;refine Exs.cons ?_;refine Ex.asg1 (by rfl) ?_;refine Ev.atr ?_;walk_at "j1")
 try refine Ev.atr ?_
 skip
 refine Atr.append (xs:=[]) (.head _) ?_
 (refine Sto.loc1 (by rfl) ?_;refine Exs.cons ?_)
 refine Ex.swap2 (n1:="i") (n2:="n") (by rfl) (by rfl) ?_
 refine Ev.tup ?_
 (refine Sps.argC (by rfl) ?_;refine Ev.int ?_;refine Sps.argC (by rfl) ?_;refine Ev.cB (by assumption) (by kernel_rfl) (by rfl) (by kernel_rfl) ?_;refine Sps.argC (by rfl) ?_;walk_at "j1";refine Sps.argN ?_)
 refine Cal.lenS (by have:=hl;lia) ?_
 (refine Sps.argN ?_)
 refine ⟨sl _ (Nat.le_of_lt (by show 2 < 16777216;decide)),_,_,rfl,?_⟩
 (refine Sto.loc1 (by rfl) ?_;refine Sto.loc1 (by rfl) ?_;refine Exs.cons ?_)
 refine Ex.whilS (α:=Nat) (fun k=>⟨[("i",.int k),("n",.int pat.length),("res",.ref D),("add",.obj (bndO "list.append" (.ref D))),("pat",.str pat),("STAR",.ref S),("QUESTION_MARK",.str [46])],[],(D,.list (((pat.take k).foldl stepT []).map (prtA S))) :: σ.H⟩) (fun k=>pat.length - k)
  (fun k=>k ≤ pat.length) 0 (.of ⟨rfl,rfl,rfl,rfl,rfl,rfl,rfl,trivial⟩ trivial rfl) (Nat.zero_le _) ?_
 intro k hk
 (refine Tr.cmp1 (by with_unfolding_all rfl) ?_;walk_at "j1";walk_at "j1";refine O.ltI ?_;refine T.bool ?_)
 by_cases hlt:k < pat.length
 ·refine ite_T (show decide ((k:Int) < (pat.length:Int)) = true from decide_eq_true (by lia)) ?_
  (refine Exs.cons ?_;refine Ex.asg1 (by rfl) ?_;refine Ev.sub ?_;walk_at "j1";walk_at "j1")
  refine I.strN (by intros;with_unfolding_all rfl) (List.getElem?_eq_getElem hlt) (sl _ (by lia)) ?_
  (refine Sto.loc1 (by rfl) ?_;refine Exs.cons ?_;refine Ex.asg1 (by rfl) ?_;refine Ev.binop ?_;walk_at "j1";refine Ev.int ?_;refine O.add ?_;refine Sto.loc1 (by rfl) ?_;refine Exs.cons ?_;refine Ex.ifs ?_;refine Tr.cmp1 (by with_unfolding_all rfl) ?_;walk_at "j1";refine Ev.str1 (by decide +kernel) ?_;refine O.eqS ?_;refine T.bool ?_)
  have hx:pat[k] < 1114112:=of_decide_eq_true (List.all_eq_true.mp hok _ (List.getElem_mem hlt))
  have hst:(pat.take (k + 1)).foldl stepT [] = stepT ((pat.take k).foldl stepT []) pat[k]:=by rw [List.take_succ_eq_append_getElem hlt,List.foldl_append];rfl
  have hacc:(((pat.take k).foldl stepT []).map (prtA S)).length ≤ 1000:=by
   rw [List.length_map]
   have:=trP_len (pat.take k)
   unfold trP at this
   have h2:(pat.take k).length ≤ 1000:=by rw [List.length_take];lia
   lia
  have h91:pat[k] ≠ 91:=fun e=>hb (e ▸ List.getElem_mem hlt)
  rw [show (PySem.Str.ofString "*").cps.toList = [42] by kernel_rfl]
  by_cases h42:pat[k] = 42
  ·refine ite_T (show (([pat[k]]:List Nat) == [42]) = true by rw [h42];rfl) ?_
   (refine Exs.cons ?_;refine Ex.ifs ?_;refine Tr.or2 ?_;refine Tr.neg ?_;refine Tr.val1 (by rfl) ?_;walk_at "j1")
   refine T.list (LA.led D _ (.head _)) (sl _ (by lia)) ?_
   cases hacc0:(pat.take k).foldl stepT [] with
   | nil=>
    refine ite_T (show (!(!(([]:List (Option (List Nat))).map (prtA S)).isEmpty)) = true by rfl) (ite_T rfl ?_)
    (refine Exs.cons ?_;refine Ex.expr (by rfl) (by rfl) ?_)
    refine Ev.addCall (D:=D) ?_ (by rfl)
    (walk_at "j1")
    refine ⟨rfl,?_⟩
    (refine Sps.argC (by rfl) ?_;refine Ev.loc (by rfl) (by first | rfl | assumption) ?_ (by kernel_rfl);refine Sps.argN ?_)
    refine ⟨_,[],_,_,rfl,rfl,sl _ (Nat.zero_le _),?_⟩
    (refine Exs.nil ?_;refine Exs.nil ?_;refine Exs.nil ?_)
    refine ⟨k + 1,by lia,by lia,.of ⟨rfl,rfl,rfl,rfl,rfl,rfl,rfl,trivial⟩ trivial ?_⟩
    show (D,AO.list _) :: σ.H = (D,AO.list (((pat.take (k + 1)).foldl stepT []).map (prtA S))) :: σ.H
    rw [hst,hacc0,show stepT [] pat[k] = [none] by simp [stepT,h42]]
    rfl
   | cons y ys=>
    refine ite_N (show (!(!((y :: ys).map (prtA S)).isEmpty)) = false by rfl) ?_
    (refine Tr.cmp1 (by with_unfolding_all rfl) ?_;refine Ev.sub ?_;walk_at "j1";refine Ev.una ?_;refine Ev.int ?_;refine O.neg ?_)
    obtain ⟨z,hz⟩:∃ z,(y :: ys).getLast? = some z:=⟨_,List.getLast?_eq_some_getLast (by simp)⟩
    refine I.listLast (by intros;with_unfolding_all rfl) (LA.led D _ (.head _)) (y:=prtA S z) (by rw [List.getLast?_map,hz];rfl) ?_
    (walk_at "j1")
    refine O.isNotPrt ?_
    (refine T.bool ?_)
    cases z with
    | none=>
     refine ite_N (show (none:Option (List Nat)).isSome = false from rfl) ?_
     (refine Exs.nil ?_;refine Exs.nil ?_;refine Exs.nil ?_)
     refine ⟨k + 1,by lia,by lia,.of ⟨rfl,rfl,rfl,rfl,rfl,rfl,rfl,trivial⟩ trivial ?_⟩
     show (D,AO.list _) :: σ.H = (D,AO.list (((pat.take (k + 1)).foldl stepT []).map (prtA S))) :: σ.H
     rw [hst,hacc0,show stepT (y :: ys) pat[k] = y :: ys by simp [stepT,h42,hz]]
    | some w=>
     refine ite_T (show (some w:Option (List Nat)).isSome = true from rfl) ?_
     (refine Exs.cons ?_;refine Ex.expr (by rfl) (by rfl) ?_)
     refine Ev.addCall (D:=D) ?_ (by rfl)
     (walk_at "j1")
     refine ⟨rfl,?_⟩
     (refine Sps.argC (by rfl) ?_;refine Ev.loc (by rfl) (by first | rfl | assumption) ?_ (by kernel_rfl);refine Sps.argN ?_)
     refine ⟨_,[],_,_,rfl,rfl,sl _ (by rw [hacc0] at hacc;lia),?_⟩
     (refine Exs.nil ?_;refine Exs.nil ?_;refine Exs.nil ?_)
     refine ⟨k + 1,by lia,by lia,.of ⟨rfl,rfl,rfl,rfl,rfl,rfl,rfl,trivial⟩ trivial ?_⟩
     show (D,AO.list _) :: σ.H = (D,AO.list (((pat.take (k + 1)).foldl stepT []).map (prtA S))) :: σ.H
     rw [hst,hacc0,show stepT (y :: ys) pat[k] = (y :: ys) ++ [none] by simp [stepT,h42,hz]]
     rw [List.map_append];rfl
  ·refine ite_N (show (([pat[k]]:List Nat) == [42]) = false by simpa using h42) ?_
   (refine Exs.cons ?_;refine Ex.ifs ?_;refine Tr.cmp1 (by with_unfolding_all rfl) ?_;walk_at "j1";refine Ev.str1 (by decide +kernel) ?_;refine O.eqS ?_;refine T.bool ?_)
   rw [show (PySem.Str.ofString "?").cps.toList = [63] by kernel_rfl]
   by_cases h63:pat[k] = 63
   ·refine ite_T (show (([pat[k]]:List Nat) == [63]) = true by rw [h63];rfl) ?_
    (refine Exs.cons ?_;refine Ex.expr (by rfl) (by rfl) ?_)
    refine Ev.addCall (D:=D) ?_ (by rfl)
    (walk_at "j1")
    refine ⟨rfl,?_⟩
    (refine Sps.argC (by rfl) ?_;refine Ev.loc (by rfl) (by first | rfl | assumption) ?_ (by kernel_rfl);refine Sps.argN ?_)
    refine ⟨_,[],_,_,rfl,rfl,sl _ (by lia),?_⟩
    (refine Exs.nil ?_;refine Exs.nil ?_;refine Exs.nil ?_)
    refine ⟨k + 1,by lia,by lia,.of ⟨rfl,rfl,rfl,rfl,rfl,rfl,rfl,trivial⟩ trivial ?_⟩
    show (D,AO.list _) :: σ.H = (D,AO.list (((pat.take (k + 1)).foldl stepT []).map (prtA S))) :: σ.H
    rw [hst,show stepT ((pat.take k).foldl stepT []) pat[k] = (pat.take k).foldl stepT [] ++ [some [46]] by simp [stepT,h63],List.map_append]
    rfl
   ·refine ite_N (show (([pat[k]]:List Nat) == [63]) = false by simpa using h63) ?_
    (refine Exs.cons ?_;refine Ex.ifs ?_;refine Tr.cmp1 (by with_unfolding_all rfl) ?_;walk_at "j1";refine Ev.str1 (by decide +kernel) ?_;refine O.eqS ?_;refine T.bool ?_)
    rw [show (PySem.Str.ofString "[").cps.toList = [91] by kernel_rfl]
    refine ite_N (show (([pat[k]]:List Nat) == [91]) = false by simpa using h91) ?_
    (refine Exs.cons ?_;refine Ex.expr (by rfl) (by rfl) ?_)
    refine Ev.addCall (D:=D) ?_ (by rfl)
    (walk_at "j1")
    refine ⟨rfl,?_⟩
    (refine Sps.argC (by rfl) ?_)
    refine Ev.cF Lb.gEsc Lb.hEsc.cee (by kernel_rfl) (by rfl) (by kernel_rfl) ?_
    (refine Sps.argC (by rfl) ?_;refine Ev.loc (by rfl) (by first | rfl | assumption) ?_ (by kernel_rfl);refine Sps.argN ?_)
    refine escape_spec Lb hr' hx ?_
    (refine Sps.argN ?_)
    refine ⟨_,[],_,_,rfl,rfl,sl _ (by lia),?_⟩
    (refine Exs.nil ?_;refine Exs.nil ?_;refine Exs.nil ?_;refine Exs.nil ?_)
    refine ⟨k + 1,by lia,by lia,.of ⟨rfl,rfl,rfl,rfl,rfl,rfl,rfl,trivial⟩ trivial ?_⟩
    show (D,AO.list _) :: σ.H = (D,AO.list (((pat.take (k + 1)).foldl stepT []).map (prtA S))) :: σ.H
    rw [hst,show stepT ((pat.take k).foldl stepT []) pat[k] = (pat.take k).foldl stepT [] ++ [some (esc pat[k])] by simp [stepT,h63,h42],List.map_append]
    rfl
 ·refine ite_N (show decide ((k:Int) < (pat.length:Int)) = false from decide_eq_false (by lia)) ?_
  (refine Exs.cons ?_)
  refine Ex.assert ?_
  (refine Tr.cmp1 (by with_unfolding_all rfl) ?_;refine Ev.loc (by rfl) (by first | rfl | assumption) ?_ (by kernel_rfl);refine Ev.loc (by rfl) (by first | rfl | assumption) ?_ (by kernel_rfl);refine O.eqI ?_;refine T.bool ?_)
  obtain rfl:k = pat.length:=by lia
  refine ⟨by simp,?_⟩
  (refine Exs.cons ?_;refine Ex.ret ?_;walk_at "j1")
  refine Frz.lst D _ [] _ rfl rfl ?_
  rw [List.take_length]
  exact h
end
end
section
set_option maxHeartbeats 0
set_option maxRecDepth 20000
noncomputable def encP (S:Addr) (hd:List (List Nat)) (bs:List (List (List Nat))):List AV:=hd.map .str ++ (bs.map fun f=>AV.ref S :: f.map .str).flatten
noncomputable def BlP:List (List (List Nat)) → Prop
 | []=>True
 | [_]=>True
 | f :: r=>f ≠ [] ∧ BlP r
noncomputable def grpP (w:List Nat):List Nat:=[40,63,62,46,42,63] ++ w ++ [41]
noncomputable def endP:List (List (List Nat)) → List (List Nat)
 | []=>[]
 | [[]]=>[[46,42]]
 | [f]=>[[46,42],f.flatten]
 | f :: r=>grpP f.flatten :: endP r
noncomputable def jtpP (hd:List (List Nat)) (bs:List (List (List Nat))):List Nat:=[40,63,115,58] ++ (hd ++ endP bs).flatten ++ [41,92,90]
theorem at_len {α:Type} (P:List α) (y:α) (T:List α):(P ++ y :: T)[P.length]? = some y:=by simp
theorem at_lenN {α:Type} {P:List α} {y:α} {T:List α} {n:Nat} (h:P.length = n):(P ++ y :: T)[n]? = some y:=by subst h;simp
theorem BlP.tail {f:List (List Nat)} {r:List (List (List Nat))} (h:BlP (f :: r)):BlP r:=by
 cases r with
 | nil=>trivial
 | cons g r=>exact h.2
theorem BlP.last {r:List (List (List Nat))} (h:BlP ([] :: r)):r = []:=by
 cases r with
 | nil=>rfl
 | cons g r=>exact absurd rfl h.1
theorem endP_cons (p x:List (List Nat)) (r:List (List (List Nat))):endP (p :: x :: r) = grpP p.flatten :: endP (x :: r):=by cases p <;> rfl
theorem endP_snoc (f:List (List Nat)):∀ pre:List (List (List Nat)),endP (pre ++ [f]) = pre.map (fun f=>grpP f.flatten) ++ endP [f]
 | []=>rfl
 | p :: pre=>by
  have ih:=endP_snoc f pre
  cases pre with
  | nil=>exact endP_cons p f []
  | cons q pre=>
   rw [List.cons_append,List.cons_append,endP_cons]
   rw [List.cons_append] at ih
   rw [ih];rfl
noncomputable def resP (pre rest:List (List (List Nat))):List (List Nat):=match rest with
 | []=>endP pre
 | _=>pre.map fun f=>grpP f.flatten
theorem encP_app (S:Addr) (hd:List (List Nat)) (a b:List (List (List Nat))):encP S hd (a ++ b) = encP S hd a ++ (b.map fun f=>AV.ref S :: f.map .str).flatten:=by simp [encP]
theorem flat_sub {f:List (List Nat)}:∀ {bs:List (List (List Nat))},f ∈ bs → f.flatten.length ≤ (endP bs).flatten.length
 | [g],h=>by
  obtain rfl:=List.mem_singleton.mp h
  cases f with
  | nil=>simp
  | cons w f=>simp [endP];lia
 | g :: x :: r,h=>by
  rw [endP_cons]
  rcases List.mem_cons.mp h with rfl | h
  ·simp [grpP];lia
  ·have:=flat_sub h
   simp only [List.flatten_cons,List.length_append];lia
theorem sum_flat (l:List (List Nat)):(l.map List.length).sum = l.flatten.length:=by simp [List.length_flatten]
section
variable {W₀:Wld} {c:Cx W₀} {σ:St} {Q:AV → St → Prop}
theorem jtp_spec (Lb:FnM W₀) {n:Nat} (hr:c.Room (n + 1)) {S:Addr} {hd:List (List Nat)} {bs:List (List (List Nat))} (hB:BlP bs) (hl:(encP S hd bs).length ≤ 1000) (hlw:(jtpP hd bs).length ≤ 10000) (hok:okS (jtpP hd bs) = true) (h:Q (.str (jtpP hd bs)) σ) :
  Cal c (.ref Lb.aJtp) [.lst (encP S hd bs),.ref S] [] σ Q:=by
 refine Cal.weak ?_
 generalize hQ':kQw Q = Q'
 refine call_def (bas:=[("inp",.lst (encP S hd bs)),("STAR",.ref S)]) Lb.hJtp hr (fun q doc pm code=>?_) (by kernel_rfl) (by kernel_rfl) (by kernel_rfl) [("inp",.lst (encP S hd bs)),("STAR",.ref S)] [] (by kernel_rfl) (by kernel_rfl) fun q doc pm code hfn L=>?_
 ·exact Bind.pos (ns:=["inp", "STAR"]) rfl (all2 fun v v2=>by kernel_rfl)
 have hr':(funCx c hfn L).Room n:=hr.fn hfn L
 have bLen:=Lb.bLen
 refine Exs.cons ?_
 refine Ex.asg1 (by rfl) ?_
 refine Ev.lstL ?_
 (refine Sps.argN ?_)
 refine ⟨sl _ (Nat.zero_le _),fun D hD=>?_⟩
 (refine Sto.loc1 (by rfl) ?_;refine Exs.cons ?_;refine Ex.asg1 (by rfl) ?_;refine Ev.atr ?_;walk_at "j1")
 try refine Ev.atr ?_
 skip
 refine Atr.append (xs:=[]) (.head _) ?_
 (refine Sto.loc1 (by rfl) ?_;refine Exs.cons ?_)
 refine Ex.swap2 (n1:="i") (n2:="n") (by rfl) (by rfl) ?_
 refine Ev.tup ?_
 (refine Sps.argC (by rfl) ?_;refine Ev.int ?_;refine Sps.argC (by rfl) ?_;refine Ev.cB (by assumption) (by kernel_rfl) (by rfl) (by kernel_rfl) ?_;refine Sps.argC (by rfl) ?_;walk_at "j1";refine Sps.argN ?_)
 refine Cal.lenL (LA.frz _) (by lia) ?_
 (refine Sps.argN ?_)
 refine ⟨sl _ (Nat.le_of_lt (by show 2 < 16777216;decide)),_,_,rfl,?_⟩
 (refine Sto.loc1 (by rfl) ?_;refine Sto.loc1 (by rfl) ?_;refine Exs.cons ?_)
 have flat1:(hd ++ endP bs).flatten.length ≤ 10000:=by
  have:(jtpP hd bs).length = 4 + (hd ++ endP bs).flatten.length + 3:=by simp [jtpP];lia
  lia
 have flatf:∀ f ∈ bs,f.flatten.length ≤ 10000:=fun f hf=>by
  have h1:=flat_sub hf
  rw [List.flatten_append,List.length_append] at flat1
  lia
 have lenB:hd.length + bs.length ≤ 1000:=by
  have:∀ l:List (List (List Nat)),l.length ≤ ((l.map fun f=>AV.ref S :: f.map .str).flatten).length:=by
   intro l
   induction l with
   | nil=>simp
   | cons f r ih=>simp only [List.map_cons,List.flatten_cons,List.length_append,List.length_cons];lia
  have h2:=this bs
  unfold encP at hl
  rw [List.length_append,List.length_map] at hl
  lia
 have cont2:∀ m:List (PySem.Str × AV),(m.lookup ("i" : PySem.Str) = some (AV.int (encP S hd bs).length)) → (m.lookup ("n" : PySem.Str) = some (AV.int (encP S hd bs).length)) → (m.lookup ("res" : PySem.Str) = some (AV.ref D)) → Exs (funCx c hfn L) (F_jtp.body.drop 5) ⟨m,[],(D,.list ((hd ++ endP bs).map .str)) :: σ.H⟩ ((kFn σ Q')):=fun m h1 h2 h3=>by
  refine Exs.cons ?_
  refine Ex.assert ?_
  (refine Tr.cmp1 (by with_unfolding_all rfl) ?_;refine Ev.loc (by rfl) (by first | rfl | assumption) ?_ (by kernel_rfl);refine Ev.loc (by rfl) (by first | rfl | assumption) ?_ (by kernel_rfl);refine O.eqI ?_;refine T.bool ?_)
  refine ⟨by simp,?_⟩
  (refine Exs.cons ?_;refine Ex.asg1 (by rfl) ?_;refine Ev.cM ⟨_,rfl⟩ (by rfl) ?_;refine Ev.str1 (by decide +kernel) ?_)
  refine ⟨_,HasM.join,?_⟩
  (refine Sps.argC (by rfl) ?_;refine Ev.loc (by rfl) (by first | rfl | assumption) ?_ (by kernel_rfl);refine Sps.argN ?_)
  have ee:(PySem.Str.ofString "").cps.toList = []:=by kernel_rfl
  rw [ee]
  refine Cal.join (LA.led D ((hd ++ endP bs).map .str) (.head _)) (joinOk_of (by rw [sum_flat];simp only [List.length_nil,Nat.mul_zero];lia)) ?_
  rw [jn_nil]
  (refine Sto.loc1 (by rfl) ?_;refine Exs.cons ?_;refine Ex.ret ?_;refine Ev.jstr ?_;refine Jp.cons ?_;refine Ev.str1 (by decide +kernel) ?_;refine ⟨_,rfl,?_⟩)
  refine ⟨sl _ (by decide +kernel),?_⟩
  (refine Jp.cons ?_;refine Ev.fmt ?_;walk_at "j1";refine ⟨_,rfl,?_⟩)
  refine ⟨sl _ (by lia),?_⟩
  (refine ⟨_,rfl,?_⟩)
  have e4:(PySem.Str.ofString "(?s:").cps.toList = [40,63,115,58]:=by kernel_rfl
  have e5:(PySem.Str.ofString ")\\Z").cps.toList = [41,92,90]:=by kernel_rfl
  rw [e4]
  refine ⟨sl _ (by simp only [List.length_append,List.length_nil,List.length_cons] at flat1 ⊢;lia),?_⟩
  (refine Jp.cons ?_;refine Ev.str1 (by decide +kernel) ?_;refine ⟨_,rfl,?_⟩)
  rw [e5]
  refine ⟨sl _ (by simp only [List.length_append,List.length_nil,List.length_cons] at flat1 ⊢;lia),?_⟩
  refine Jp.nil (sl _ (by simp only [List.length_append,List.length_nil,List.length_cons] at flat1 ⊢;lia)) ?_
  subst hQ'
  exact ⟨σ,Le.drop,h⟩
 have cont1:Exs (funCx c hfn L) (F_jtp.body.drop 4) ⟨[("i",.int hd.length),("n",.int (encP S hd bs).length),("res",.ref D),("add",.obj (bndO "list.append" (.ref D))),("inp",.lst (encP S hd bs)),("STAR",.ref S)],[],(D,.list (hd.map .str)) :: σ.H⟩ ((kFn σ Q')):=by
  refine Exs.cons ?_
  refine Ex.whilS (α:=List (List (List Nat)) × List (List (List Nat))) (fun x=>⟨[("i",.int (encP S hd x.1).length),("n",.int (encP S hd bs).length),("res",.ref D),("add",.obj (bndO "list.append" (.ref D))),("inp",.lst (encP S hd bs)),("STAR",.ref S)],[],(D,.list ((hd ++ resP x.1 x.2).map .str)) :: σ.H⟩) (fun x=>x.2.length)
   (fun x=>bs = x.1 ++ x.2 ∧ BlP x.2) ([],bs) (.of ⟨by simp [encP],rfl,rfl,rfl,rfl,rfl,trivial⟩ trivial (by cases bs <;> simp [resP,endP])) ⟨rfl,hB⟩ ?_
  rintro ⟨pre,rest⟩ ⟨hx,hBl⟩
  dsimp only at hx hBl
  (refine Tr.cmp1 (by with_unfolding_all rfl) ?_;walk_at "j1";walk_at "j1";refine O.ltI ?_;refine T.bool ?_)
  cases rest with
  | nil=>
   rw [List.append_nil] at hx
   subst hx
   refine ite_N (show decide (((encP S hd bs).length:Int) < ((encP S hd bs).length:Int)) = false by simp) ?_
   exact cont2 _ rfl rfl rfl
  | cons f r=>
   have henc:encP S hd bs = encP S hd pre ++ AV.ref S :: (f.map .str ++ (r.map fun f=>AV.ref S :: f.map .str).flatten):=by rw [hx,encP_app];rfl
   have hlt:(encP S hd pre).length < (encP S hd bs).length:=by rw [henc,List.length_append,List.length_cons];lia
   refine ite_T (show decide (((encP S hd pre).length:Int) < ((encP S hd bs).length:Int)) = true from decide_eq_true (by lia)) ?_
   (refine Exs.cons ?_)
   refine Ex.assert ?_
   (refine Tr.cmp1 (by with_unfolding_all rfl) ?_;refine Ev.sub ?_;walk_at "j1";walk_at "j1")
   refine I.listN (by intros;with_unfolding_all rfl) (LA.frz _) (y:=.ref S) (by rw [henc];exact at_len _ _ _) (sl _ (by lia)) ?_
   (walk_at "j1")
   refine O.isRR ?_
   (refine T.bool ?_)
   refine ⟨rfl,?_⟩
   (refine Exs.cons ?_;refine Ex.aug ?_;refine Ld.loc (by rfl) (by rfl) ?_;refine Ev.int ?_;refine O.iadd ?_;refine Sto.loc1 (by rfl) ?_;refine Exs.cons ?_;refine Ex.ifs ?_;refine Tr.cmp1 (by with_unfolding_all rfl) ?_;walk_at "j1";walk_at "j1";refine O.eqI ?_;refine T.bool ?_)
   cases f with
   | nil=>
    obtain rfl:=hBl.last
    have e1:((encP S hd bs).length:Int) = (encP S hd pre).length + 1:=by rw [henc];simp
    refine ite_T (show (((encP S hd pre).length:Int) + 1 == ((encP S hd bs).length:Int)) = true from beq_iff_eq.mpr e1.symm) ?_
    (refine Exs.cons ?_;refine Ex.expr (by rfl) (by rfl) ?_)
    refine Ev.addCall (D:=D) ?_ (by rfl)
    (walk_at "j1")
    refine ⟨rfl,?_⟩
    (refine Sps.argC (by rfl) ?_;refine Ev.str1 (by decide +kernel) ?_;refine Sps.argN ?_)
    refine ⟨_,[],_,_,rfl,rfl,sl _ (by rw [List.length_map,List.length_append];have:=congrArg List.length hx;simp only [resP,List.length_map,List.length_append,List.length_cons] at this ⊢;lia),?_⟩
    refine Exs.cons ?_
    refine Ex.brk ?_
    have e2:(hd ++ resP pre [[]]).map AV.str ++ [AV.str (PySem.Str.ofString ".*").cps.toList] = (hd ++ endP bs).map .str:=by
     rw [hx,endP_snoc]
     simp only [resP,List.map_append,List.append_assoc]
     rfl
    have z:∀ m:List (PySem.Str × AV),(m.lookup ("i" : PySem.Str) = some (AV.int (encP S hd bs).length)) → (m.lookup ("n" : PySem.Str) = some (AV.int (encP S hd bs).length)) → (m.lookup ("res" : PySem.Str) = some (AV.ref D)) → Exs (funCx c hfn L) (F_jtp.body.drop 5) ⟨m,[],(D,.list ((hd ++ resP pre [[]]).map AV.str ++ [AV.str (PySem.Str.ofString ".*").cps.toList])) :: σ.H⟩ ((kFn σ Q')):=by
     rw [e2];exact cont2
    exact z _ (by rw [e1];rfl) rfl rfl
   | cons w f=>
    have e1:¬ (((encP S hd pre).length:Int) + 1 = ((encP S hd bs).length:Int)):=by rw [henc];simp;lia
    refine ite_N (show (((encP S hd pre).length:Int) + 1 == ((encP S hd bs).length:Int)) = false from beq_eq_false_iff_ne.mpr e1) ?_
    (refine Exs.nil ?_;refine Exs.cons ?_)
    refine Ex.assert ?_
    (refine Tr.cmp1 (by with_unfolding_all rfl) ?_;refine Ev.sub ?_;walk_at "j1";walk_at "j1")
    have hget1:(encP S hd bs)[(encP S hd pre).length + 1]? = some (.str w):=by
     have:=at_len (encP S hd pre ++ [AV.ref S]) (AV.str w) (f.map .str ++ (r.map fun f=>AV.ref S :: f.map .str).flatten)
     rw [henc];simpa using this
    refine I.listN (i:=(encP S hd pre).length + 1) (by intros;with_unfolding_all rfl) (LA.frz _) hget1 (sl _ (by lia)) ?_
    (walk_at "j1")
    refine O.isNotSR ?_
    (refine T.bool ?_)
    refine ⟨rfl,?_⟩
    refine Exs.cons ?_
    refine Ex.asg1 (by rfl) ?_
    refine Ev.lstL ?_
    (refine Sps.argN ?_)
    refine ⟨sl _ (Nat.zero_le _),fun E hE=>?_⟩
    (refine Sto.loc1 (by rfl) ?_;refine Exs.cons ?_)
    refine Ex.whilS (α:=List (List Nat) × List (List Nat)) (fun x=>⟨[("i",.int ((encP S hd pre).length + 1 + x.1.length:Nat)),("n",.int (encP S hd bs).length),("res",.ref D),("fixed",.ref E),("add",.obj (bndO "list.append" (.ref D))),("inp",.lst (encP S hd bs)),("STAR",.ref S)],[],(E,.list (x.1.map .str)) :: (D,.list ((hd ++ resP pre ((w :: f) :: r)).map .str)) :: σ.H⟩) (fun x=>x.2.length)
     (fun x=>w :: f = x.1 ++ x.2) ([],w :: f) (.of ⟨rfl,rfl,rfl,rfl,rfl,rfl,rfl,trivial⟩ trivial rfl) rfl ?_
    have cont3:∀ (PP:AF → St → Prop),(∀ σ',Lf σ' ⟨[("i",.int (encP S hd (pre ++ [w :: f])).length),("n",.int (encP S hd bs).length),("res",.ref D),("add",.obj (bndO "list.append" (.ref D))),("inp",.lst (encP S hd bs)),("STAR",.ref S)],[],(D,.list ((hd ++ resP (pre ++ [w :: f]) r).map .str)) :: σ.H⟩ → PP .next σ') →
      Exs (funCx c hfn L) (((F_jtp.body[4]?.map whileBody).getD []).drop 6) ⟨[("i",.int ((encP S hd pre).length + 1 + (w :: f).length:Nat)),("n",.int (encP S hd bs).length),("res",.ref D),("fixed",.ref E),("add",.obj (bndO "list.append" (.ref D))),("inp",.lst (encP S hd bs)),("STAR",.ref S)],[],(E,.list ((w :: f).map .str)) :: (D,.list ((hd ++ resP pre ((w :: f) :: r)).map .str)) :: σ.H⟩ PP:=fun PP hPP=>by
     refine Go.frzL (pre:=[]) "fixed" rfl rfl ?_
     refine Exs.cons ?_
     (refine Ex.asg1 (by rfl) ?_;refine Ev.cM ⟨_,rfl⟩ (by rfl) ?_;refine Ev.str1 (by decide +kernel) ?_)
     refine ⟨_,HasM.join,?_⟩
     (refine Sps.argC (by rfl) ?_;refine Ev.loc (by rfl) (by first | rfl | assumption) ?_ (by kernel_rfl);refine Sps.argN ?_)
     have ee:(PySem.Str.ofString "").cps.toList = []:=by kernel_rfl
     rw [ee]
     have hfl:(w :: f).flatten.length ≤ 10000:=flatf _ (by rw [hx];simp)
     refine Cal.join (LA.frz ((w :: f).map .str)) (joinOk_of (by rw [sum_flat];simp only [List.length_nil,Nat.mul_zero];lia)) ?_
     rw [jn_nil]
     (refine Sto.loc1 (by rfl) ?_;refine Exs.cons ?_;refine Ex.ifs ?_;refine Tr.cmp1 (by with_unfolding_all rfl) ?_;walk_at "j1";walk_at "j1";refine O.eqI ?_;refine T.bool ?_)
     have e6:(encP S hd (pre ++ [w :: f])).length = (encP S hd pre).length + 1 + (w :: f).length:=by rw [encP_app];simp;lia
     cases r with
     | nil=>
      have e3:((encP S hd bs).length:Int) = ((encP S hd pre).length + 1 + (w :: f).length:Nat):=by rw [henc];simp;lia
      refine ite_T (show ((((encP S hd pre).length + 1 + (w :: f).length:Nat):Int) == ((encP S hd bs).length:Int)) = true from beq_iff_eq.mpr e3.symm) ?_
      (refine Exs.cons ?_;refine Ex.expr (by rfl) (by rfl) ?_)
      refine Ev.addCall (D:=D) ?_ (by rfl)
      (walk_at "j1")
      refine ⟨rfl,?_⟩
      (refine Sps.argC (by rfl) ?_;refine Ev.str1 (by decide +kernel) ?_;refine Sps.argN ?_)
      have e7:(hd ++ resP pre [w :: f]).length ≤ 2000:=by rw [List.length_append];have:=congrArg List.length hx;simp only [resP,List.length_map,List.length_append,List.length_cons] at this ⊢;lia
      refine ⟨_,[],_,_,rfl,rfl,sl _ (by rw [List.length_map];lia),?_⟩
      (refine Exs.cons ?_;refine Ex.expr (by rfl) (by rfl) ?_)
      refine Ev.addCall (D:=D) ?_ (by rfl)
      (walk_at "j1")
      refine ⟨rfl,?_⟩
      (refine Sps.argC (by rfl) ?_;refine Ev.loc (by rfl) (by first | rfl | assumption) ?_ (by kernel_rfl);refine Sps.argN ?_)
      refine ⟨_,[],_,_,rfl,rfl,sl _ (by rw [List.length_append,List.length_map];simp only [List.length_cons,List.length_nil];lia),?_⟩
      (refine Exs.nil ?_;refine Exs.nil ?_)
      refine hPP _ (.of ⟨?_,rfl,rfl,rfl,rfl,rfl,trivial⟩ trivial ?_)
      ·rw [e6];rfl
      ·show (D,AO.list _) :: σ.H = (D,AO.list _) :: σ.H
       have e8:(PySem.Str.ofString ".*").cps.toList = [46,42]:=by kernel_rfl
       rw [e8]
       simp only [resP,endP_snoc,List.map_append,List.append_assoc]
       rfl
     | cons g r=>
      have e3:¬ ((((encP S hd pre).length + 1 + (w :: f).length:Nat):Int) = ((encP S hd bs).length:Int)):=by rw [henc];simp;lia
      refine ite_N (show ((((encP S hd pre).length + 1 + (w :: f).length:Nat):Int) == ((encP S hd bs).length:Int)) = false from beq_eq_false_iff_ne.mpr e3) ?_
      (refine Exs.cons ?_;refine Ex.expr (by rfl) (by rfl) ?_)
      refine Ev.addCall (D:=D) ?_ (by rfl)
      (walk_at "j1")
      refine ⟨rfl,?_⟩
      (refine Sps.argC (by rfl) ?_;refine Ev.jstr ?_;refine Jp.cons ?_;refine Ev.str1 (by decide +kernel) ?_;refine ⟨_,rfl,?_⟩)
      have e9:(PySem.Str.ofString "(?>.*?").cps.toList = [40,63,62,46,42,63]:=by kernel_rfl
      have e10:(PySem.Str.ofString ")").cps.toList = [41]:=by kernel_rfl
      rw [e9]
      refine ⟨sl _ (by simp),?_⟩
      (refine Jp.cons ?_;refine Ev.fmt ?_;walk_at "j1";refine ⟨_,rfl,?_⟩)
      refine ⟨sl _ (by lia),?_⟩
      (refine ⟨_,rfl,?_⟩)
      refine ⟨sl _ (by simp only [List.length_append,List.length_nil,List.length_cons] at hfl ⊢;lia),?_⟩
      (refine Jp.cons ?_;refine Ev.str1 (by decide +kernel) ?_;refine ⟨_,rfl,?_⟩)
      rw [e10]
      refine ⟨sl _ (by simp only [List.length_append,List.length_nil,List.length_cons] at hfl ⊢;lia),?_⟩
      refine Jp.nil (sl _ (by simp only [List.length_append,List.length_nil,List.length_cons] at hfl ⊢;lia)) ?_
      (refine Sps.argN ?_)
      have e7:(hd ++ resP pre ((w :: f) :: g :: r)).length ≤ 2000:=by rw [List.length_append];have:=congrArg List.length hx;simp only [resP,List.length_map,List.length_append,List.length_cons] at this ⊢;lia
      refine ⟨_,[],_,_,rfl,rfl,sl _ (by rw [List.length_map];lia),?_⟩
      (refine Exs.nil ?_;refine Exs.nil ?_)
      refine hPP _ (.of ⟨?_,rfl,rfl,rfl,rfl,rfl,trivial⟩ trivial ?_)
      ·rw [e6];rfl
      ·show (D,AO.list _) :: σ.H = (D,AO.list _) :: σ.H
       simp only [resP,List.map_append,List.append_assoc]
       rfl
    rintro ⟨p2,r2⟩ hx2
    dsimp only at hx2
    (refine Tr.and2 ?_;refine Tr.cmp1 (by with_unfolding_all rfl) ?_;walk_at "j1";walk_at "j1";refine O.ltI ?_;refine T.bool ?_)
    cases r2 with
    | nil=>
     rw [List.append_nil] at hx2
     subst hx2
     cases r with
     | nil=>
      have e3:(encP S hd bs).length = (encP S hd pre).length + 1 + (w :: f).length:=by rw [henc];simp;lia
      refine ite_N (show decide ((((encP S hd pre).length + 1 + (w :: f).length:Nat):Int) < ((encP S hd bs).length:Int)) = false from decide_eq_false (by lia)) ?_
      exact cont3 _ fun σ' l=>⟨(pre ++ [w :: f],[]),⟨by rw [hx];simp,hBl.tail⟩,Nat.lt_succ_self _,l⟩
     | cons g r=>
      have hg:(encP S hd bs)[(encP S hd pre).length + 1 + (w :: f).length]? = some (.ref S):=by
       rw [henc,show encP S hd pre ++ AV.ref S :: ((w :: f).map .str ++ ((g :: r).map fun f=>AV.ref S :: f.map .str).flatten) = (encP S hd pre ++ AV.ref S :: (w :: f).map AV.str) ++ AV.ref S :: (g.map .str ++ (r.map fun f=>AV.ref S :: f.map .str).flatten) by simp]
       exact at_lenN (by simp;lia)
      have hlt2:=(List.getElem?_eq_some_iff.mp hg).1
      refine ite_T (show decide ((((encP S hd pre).length + 1 + (w :: f).length:Nat):Int) < ((encP S hd bs).length:Int)) = true from decide_eq_true (by lia)) ?_
      (refine Tr.cmp1 (by with_unfolding_all rfl) ?_;refine Ev.sub ?_;walk_at "j1";walk_at "j1")
      refine I.listN (by intros;with_unfolding_all rfl) (LA.frz _) hg (sl _ (by lia)) ?_
      (walk_at "j1")
      refine O.isNotRR ?_
      (refine T.bool ?_)
      exact cont3 _ fun σ' l=>⟨(pre ++ [w :: f],g :: r),⟨by rw [hx];simp,hBl.tail⟩,Nat.lt_succ_self _,l⟩
    | cons v r2=>
     have hg:(encP S hd bs)[(encP S hd pre).length + 1 + p2.length]? = some (.str v):=by
      rw [henc,hx2,show encP S hd pre ++ AV.ref S :: ((p2 ++ v :: r2).map .str ++ (r.map fun f=>AV.ref S :: f.map .str).flatten) = (encP S hd pre ++ AV.ref S :: p2.map AV.str) ++ AV.str v :: (r2.map .str ++ (r.map fun f=>AV.ref S :: f.map .str).flatten) by simp]
      exact at_lenN (by simp;lia)
     have hlt2:=(List.getElem?_eq_some_iff.mp hg).1
     refine ite_T (show decide ((((encP S hd pre).length + 1 + p2.length:Nat):Int) < ((encP S hd bs).length:Int)) = true from decide_eq_true (by lia)) ?_
     (refine Tr.cmp1 (by with_unfolding_all rfl) ?_;refine Ev.sub ?_;walk_at "j1";walk_at "j1")
     refine I.listN (by intros;with_unfolding_all rfl) (LA.frz _) hg (sl _ (by lia)) ?_
     (walk_at "j1")
     refine O.isNotSR ?_
     (refine T.bool ?_)
     refine ite_T rfl ?_
     (refine Exs.cons ?_;refine Ex.expr (by rfl) (by rfl) ?_;refine Ev.cM ⟨_,rfl⟩ (by rfl) ?_;walk_at "j1")
     refine ⟨_,HasM.append (.head _),?_⟩
     (refine Sps.argC (by rfl) ?_;refine Ev.sub ?_;walk_at "j1";walk_at "j1")
     refine I.listN (by intros;with_unfolding_all rfl) (LA.frz _) hg (sl _ (by lia)) ?_
     (refine Sps.argN ?_)
     refine Cal.append (pre:=[]) rfl (sl _ (by rw [List.length_map];dsimp only;lia)) ?_
     (refine Exs.cons ?_;refine Ex.aug ?_;refine Ld.loc (by rfl) (by rfl) ?_;refine Ev.int ?_;refine O.iadd ?_;refine Sto.loc1 (by rfl) ?_;refine Exs.nil ?_)
     refine ⟨(p2 ++ [v],r2),by rw [hx2];simp,Nat.lt_succ_self _,.of ⟨?_,rfl,rfl,rfl,rfl,rfl,rfl,trivial⟩ trivial ?_⟩
     ·show some (AV.int _) = some (AV.int _)
      simp;lia
     ·show (E,AO.list _) :: _ = (E,AO.list _) :: _
      simp
 refine Ex.whilS (α:=List (List Nat) × List (List Nat)) (fun x=>⟨[("i",.int x.1.length),("n",.int (encP S hd bs).length),("res",.ref D),("add",.obj (bndO "list.append" (.ref D))),("inp",.lst (encP S hd bs)),("STAR",.ref S)],[],(D,.list (x.1.map .str)) :: σ.H⟩) (fun x=>x.2.length)
  (fun x=>hd = x.1 ++ x.2) ([],hd) (.of ⟨rfl,rfl,rfl,rfl,rfl,rfl,trivial⟩ trivial rfl) rfl ?_
 rintro ⟨pre,rest⟩ hx
 dsimp only at hx
 (refine Tr.and2 ?_;refine Tr.cmp1 (by with_unfolding_all rfl) ?_;walk_at "j1";walk_at "j1";refine O.ltI ?_;refine T.bool ?_)
 cases rest with
 | nil=>
  rw [List.append_nil] at hx
  subst hx
  cases bs with
  | nil=>
   refine ite_N (show decide ((hd.length:Int) < ((encP S hd []).length:Int)) = false from decide_eq_false (by simp [encP])) ?_
   exact cont1
  | cons b bs=>
   have henc:encP S hd (b :: bs) = hd.map .str ++ AV.ref S :: (b.map .str ++ (bs.map fun f=>AV.ref S :: f.map .str).flatten):=rfl
   refine ite_T (show decide ((hd.length:Int) < ((encP S hd (b :: bs)).length:Int)) = true from decide_eq_true (by rw [henc];simp;lia)) ?_
   (refine Tr.cmp1 (by with_unfolding_all rfl) ?_;refine Ev.sub ?_;walk_at "j1";walk_at "j1")
   refine I.listN (by intros;with_unfolding_all rfl) (LA.frz _) (y:=.ref S) (by rw [henc];have:=at_len (hd.map AV.str) (AV.ref S) (b.map .str ++ (bs.map fun f=>AV.ref S :: f.map .str).flatten);rwa [List.length_map] at this) (sl _ (by lia)) ?_
   (walk_at "j1")
   refine O.isNotRR ?_
   (refine T.bool ?_)
   exact cont1
 | cons w rest=>
  have henc:encP S hd bs = pre.map .str ++ AV.str w :: (rest.map .str ++ (bs.map fun f=>AV.ref S :: f.map .str).flatten):=by rw [hx];simp [encP]
  have hget:(encP S hd bs)[pre.length]? = some (.str w):=by rw [henc];have:=at_len (pre.map AV.str) (AV.str w) (rest.map .str ++ (bs.map fun f=>AV.ref S :: f.map .str).flatten);rwa [List.length_map] at this
  have hlt:pre.length < (encP S hd bs).length:=(List.getElem?_eq_some_iff.mp hget).1
  refine ite_T (show decide ((pre.length:Int) < ((encP S hd bs).length:Int)) = true from decide_eq_true (by lia)) ?_
  (refine Tr.cmp1 (by with_unfolding_all rfl) ?_;refine Ev.sub ?_;walk_at "j1";walk_at "j1")
  refine I.listN (by intros;with_unfolding_all rfl) (LA.frz _) hget (sl _ (by lia)) ?_
  (walk_at "j1")
  refine O.isNotSR ?_
  (refine T.bool ?_)
  refine ite_T rfl ?_
  (refine Exs.cons ?_;refine Ex.expr (by rfl) (by rfl) ?_)
  refine Ev.addCall (D:=D) ?_ (by rfl)
  (walk_at "j1")
  refine ⟨rfl,?_⟩
  (refine Sps.argC (by rfl) ?_;refine Ev.sub ?_;walk_at "j1";walk_at "j1")
  refine I.listN (by intros;with_unfolding_all rfl) (LA.frz _) hget (sl _ (by lia)) ?_
  (refine Sps.argN ?_)
  refine ⟨_,[],_,_,rfl,rfl,sl _ (by rw [List.length_map];dsimp only;lia),?_⟩
  (refine Exs.cons ?_;refine Ex.aug ?_;refine Ld.loc (by rfl) (by rfl) ?_;refine Ev.int ?_;refine O.iadd ?_;refine Sto.loc1 (by rfl) ?_;refine Exs.nil ?_)
  refine ⟨(pre ++ [w],rest),by rw [hx];simp,Nat.lt_succ_self _,.of ⟨?_,rfl,rfl,rfl,rfl,rfl,trivial⟩ trivial ?_⟩
  ·show some (AV.int _) = some (AV.int _)
   simp
  ·show (D,AO.list _) :: σ.H = (D,AO.list _) :: σ.H
   simp
noncomputable def splitP:List (Option (List Nat)) → List (List Nat) × List (List (List Nat))
 | []=>([],[])
 | none :: r=>let (h,b):=splitP r;([],h :: b)
 | some w :: r=>let (h,b):=splitP r;(w :: h,b)
theorem splitP_enc (S:Addr):∀ ps:List (Option (List Nat)),ps.map (prtA S) = encP S (splitP ps).1 (splitP ps).2
 | []=>rfl
 | none :: r=>by rw [List.map_cons,splitP_enc S r];simp [splitP,encP,prtA]
 | some w :: r=>by rw [List.map_cons,splitP_enc S r];simp [splitP,encP,prtA]
noncomputable def translateP (pat:List Nat):List Nat:=jtpP (splitP (trP pat)).1 (splitP (trP pat)).2
structure PatOk (pat:List Nat):Prop where
 ok:okS pat = true
 br:91 ∉ pat
 len:pat.length ≤ 1000
 bl:BlP (splitP (trP pat)).2
 outLen:(translateP pat).length ≤ 10000
 outOk:okS (translateP pat) = true
theorem translate_spec (Lb:FnM W₀) {n:Nat} (hr:c.Room (n + 3)) {pat:List Nat} (hp:PatOk pat) (h:Q (.str (translateP pat)) σ):Cal c (.ref Lb.aTranslate) [.str pat] [] σ Q:=by
 refine call_def (bas:=[("pat",.str pat)]) Lb.hTranslate hr (fun q doc pm code=>?_) (by kernel_rfl) (by kernel_rfl) (by kernel_rfl) [("pat",.str pat)] [] (by kernel_rfl) (by kernel_rfl) fun q doc pm code hfn L=>?_
 ·exact Bind.pos (ns:=["pat"]) rfl (all1 fun v=>by kernel_rfl)
 have hr':(funCx c hfn L).Room (n + 2):=hr.fn hfn L
 have bObj:=Lb.bObj
 refine Exs.cons ?_
 (refine Ex.asg1 (by rfl) ?_;refine Ev.cT (by assumption) (by kernel_rfl) (by rfl) (by kernel_rfl) ?_;refine Sps.argN ?_)
 refine Cal.obj fun S hS=>?_
 (refine Sto.loc1 (by rfl) ?_;refine Exs.cons ?_;refine Ex.asg1 (by rfl) ?_)
 refine Ev.cF Lb.gTr Lb.hTr.cee (by kernel_rfl) (by rfl) (by kernel_rfl) ?_
 (refine Sps.argC (by rfl) ?_;walk_at "j1";refine Sps.argC (by rfl) ?_;walk_at "j1";refine Sps.argC (by rfl) ?_;refine Ev.str1 (by decide +kernel) ?_;refine Sps.argN ?_)
 rw [show (PySem.Str.ofString ".").cps.toList = [46] by kernel_rfl]
 refine tr_spec Lb hr' hp.ok hp.br hp.len ?_
 (refine Sto.loc1 (by rfl) ?_;refine Exs.cons ?_;refine Ex.ret ?_)
 refine Ev.cF Lb.gJtp Lb.hJtp.cee (by kernel_rfl) (by rfl) (by kernel_rfl) ?_
 (refine Sps.argC (by rfl) ?_;walk_at "j1";refine Sps.argC (by rfl) ?_;walk_at "j1";refine Sps.argN ?_)
 rw [splitP_enc]
 refine jtp_spec (n:=n + 1) Lb hr' hp.bl ?_ hp.outLen hp.outOk ?_
 ·rw [← splitP_enc,List.length_map];exact Nat.le_trans (trP_len pat) hp.len
 ·exact h
end
end
section
set_option maxHeartbeats 0
set_option maxRecDepth 100000
noncomputable def strokes:List Nat:=[124,46,45,33,94,126,35,92,39,34]
noncomputable def rp (s n:Nat):List Nat:=List.replicate n s
noncomputable def inn (s n:Nat):List Nat:=if s = 39 then (List.replicate n [39,34,39,34,39]).flatten else rp s n
noncomputable def safeS (s:Nat):Bool:=s == 46 || s == 45
noncomputable def qw (s n:Nat):List Nat:=if safeS s then rp s n else [39] ++ inn s n ++ [39]
noncomputable def ns5:List Nat:=[1,2,3,4,5]
noncomputable def nms:List Nat:=[112,113,114,80,81,82]
theorem a2:∀ s ∈ strokes,∀ n ∈ ns5,srch cdQ (rp s n) 100 = some (!safeS s):=by decide +kernel
theorem a3:∀ s ∈ strokes,∀ n ∈ ns5,Txt.replace (mkS (rp s n)) (mkS [39]) (mkS [39,34,39,34,39]) = mkS (inn s n) ∧ okS (inn s n) = true:=by decide +kernel
theorem a4:∀ s ∈ strokes,∀ n ∈ ns5,rt [] (qw s n) (some 32) [] false = some (some (rp s n),none,[]) ∧ (okS (qw s n) = true ∧ (qw s n).length ≤ 27):=by decide +kernel
theorem a5:∀ s ∈ strokes,∀ n ∈ ns5,(srch cdNm (rp s n) 100 = some false ∧ srch cdVal (rp s n) 100 = some false) ∧ okS (rp s n) = true:=by decide +kernel
theorem a6:∀ c ∈ nms,((srch cdNm [c] 100 = some false ∧ srch cdVal [c] 100 = some false) ∧ (srch cdQ [c] 100 = some false ∧ rt [] [c] (some 32) [] false = some (some [c],none,[]))) ∧ (loL [c] = [lo1 c] ∧ (okS [lo1 c] = true ∧ (lo1 c ∈ nms ∧ okS [c] = true))):=by decide +kernel
theorem quot_row {s n:Nat} (hs:s ∈ strokes) (hn:n ∈ ns5):Quot cdQ (rp s n) (qw s n):=by
 have h2:=a2 s hs n hn
 obtain ⟨h3,h4⟩:=a3 s hs n hn
 have hne:rp s n ≠ []:=by
  have:n ≠ 0:=by intro e;subst e;exact absurd hn (by decide)
  cases n with
  | zero=>exact absurd rfl this
  | succ n=>exact List.cons_ne_nil _ _
 unfold qw
 cases hz:safeS s with
 | true=>
  rw [hz] at h2
  rw [if_pos rfl]
  exact .safe _ 100 (by decide) hne h2
 | false=>
  rw [hz] at h2
  rw [if_neg Bool.false_ne_true]
  exact .rep _ _ 100 (by decide) hne h2 h3 h4 (by have:=(a4 s hs n hn).2.2;unfold qw at this;rw [hz,if_neg Bool.false_ne_true] at this;simp only [List.length_append] at this;lia)
theorem quot_nm {c:Nat} (hc:c ∈ nms):Quot cdQ [c] [c]:=.safe _ 100 (by decide) (by simp) (a6 c hc).1.2.1
theorem hdOk_row {s n:Nat} (hs:s ∈ strokes) (hn:n ∈ ns5):HdOk (rp s n):=⟨100,by decide,(a5 s hs n hn).1.1,(a5 s hs n hn).1.2⟩
theorem hdOk_nm {c:Nat} (hc:c ∈ nms):HdOk [c]:=⟨100,by decide,(a6 c hc).1.1.1,(a6 c hc).1.1.2⟩
theorem rt_tail {u t:List Nat}:∀ {w:List Nat} {y:Nat} {tok:List Nat} {q:Bool},rt [] w (some y) tok q = some (some u,none,[]) → rt [] (w ++ 32 :: t) (some y) tok q = some (some u,some 32,t)
 | [],y,tok,q,h=>by
  rw [rt_nil] at h
  split at h
  ·rename_i hy
   simp only [Option.some.injEq,Prod.mk.injEq,and_true] at h
   have hc:tok ≠ [] ∨ q = true:=by
    unfold finT at h
    split at h
    ·cases h
    ·rename_i hn
     cases q with
     | true=>exact .inr rfl
     | false=>exact .inl fun e=>hn (by rw [e];rfl)
   rw [List.nil_append,rt_cons]
   rcases hy with rfl | rfl
   ·rw [if_neg (by decide),if_pos rfl,if_pos (by decide),if_pos hc,h]
   ·rw [if_neg (by decide),if_neg (by decide),if_neg (by decide),if_pos rfl,if_pos (by decide),if_pos hc,h]
  ·cases h
 | x :: w,y,tok,q,h=>by
  rw [rt_cons] at h
  rw [List.cons_append,rt_cons]
  by_cases h10:x = 10
  ·rw [if_pos h10] at h;cases h
  rw [if_neg h10] at h ⊢
  by_cases hy:y = 32
  ·rw [if_pos hy] at h ⊢
   by_cases hs:x ∈ [32,9,13]
   ·rw [if_pos hs] at h ⊢
    by_cases ht:tok ≠ [] ∨ q = true
    ·rw [if_pos ht] at h;simp at h
    ·rw [if_neg ht] at h ⊢;exact rt_tail h
   ·rw [if_neg hs] at h ⊢
    by_cases hc:x ∈ ([]:List Nat) ∨ x = 92
    ·rw [if_pos hc] at h;cases h
    rw [if_neg hc] at h ⊢
    by_cases hq:x = 39 ∨ x = 34
    ·rw [if_pos hq] at h ⊢;exact rt_tail h
    ·rw [if_neg hq] at h ⊢;exact rt_tail h
  rw [if_neg hy] at h ⊢
  by_cases hy2:y = 39 ∨ y = 34
  ·rw [if_pos hy2] at h ⊢
   by_cases hxy:x = y
   ·rw [if_pos hxy] at h ⊢;exact rt_tail h
   rw [if_neg hxy] at h ⊢
   by_cases hc:x = 92 ∧ y = 34
   ·rw [if_pos hc] at h;cases h
   ·rw [if_neg hc] at h ⊢;exact rt_tail h
  rw [if_neg hy2] at h ⊢
  by_cases hy3:y = 97
  ·rw [if_pos hy3] at h ⊢
   by_cases hs:x ∈ [32,9,13]
   ·rw [if_pos hs] at h ⊢
    by_cases ht:tok ≠ [] ∨ q = true
    ·rw [if_pos ht] at h;simp at h
    ·rw [if_neg ht] at h ⊢;exact rt_tail h
   ·rw [if_neg hs] at h ⊢
    by_cases hc:x ∈ ([]:List Nat) ∨ x = 92
    ·rw [if_pos hc] at h;cases h
    rw [if_neg hc] at h ⊢
    by_cases hq:x = 39 ∨ x = 34
    ·rw [if_pos hq] at h ⊢;exact rt_tail h
    ·rw [if_neg hq] at h ⊢;exact rt_tail h
  ·rw [if_neg hy3] at h;cases h
theorem spl_line:∀ (l:List (List Nat × List Nat)) (k:Nat),(∀ p ∈ l,rt [] p.2 (some 32) [] false = some (some p.1,none,[])) → l ≠ [] → l.length < k → spl [] k (jn [32] (l.map (·.2))) (some 32) = some (l.map (·.1))
 | [p],k + 2,h,_,_=>by
  rw [spl_succ]
  show (match rt [] p.2 (some 32) [] false with | none=>none | some (none,_,_)=>some [] | some (some w,st',rest')=>(spl [] (k + 1) rest' st').map (w :: ·)) = _
  rw [h p (.head _)]
  rfl
 | p :: p2 :: l,k + 1,h,_,hk=>by
  have ih:=spl_line (p2 :: l) k (fun q hq=>h q (.tail _ hq)) (by simp) (by simp at hk ⊢;lia)
  rw [spl_succ]
  show (match rt [] (p.2 ++ [32] ++ jn [32] ((p2 :: l).map (·.2))) (some 32) [] false with | none=>none | some (none,_,_)=>some [] | some (some w,st',rest')=>(spl [] k rest' st').map (w :: ·)) = _
  rw [List.append_assoc]
  show (match rt [] (p.2 ++ 32 :: jn [32] ((p2 :: l).map (·.2))) (some 32) [] false with | none=>none | some (none,_,_)=>some [] | some (some w,st',rest')=>(spl [] k rest' st').map (w :: ·)) = _
  rw [rt_tail (h p (.head _))]
  dsimp only
  rw [ih];rfl
end
section
set_option maxHeartbeats 0
set_option maxRecDepth 20000
local macro_rules | `(tactic| walk_at "ln")=>`(tactic| refine Ev.lcN (by rfl) ?_ (by kernel_rfl) (by kernel_rfl) (by rfl) (by intro _;rfl))
noncomputable def encT (s:Nat) (t:Tab):List (List Nat × List Nat):=t.map fun q=>([q.1],rp s q.2)
noncomputable abbrev mlA (s:Nat) (t:Tab):AV:=.lst (encI (encT s t))
structure TabOk (t:Tab):Prop where
 nd:Nd t
 ok:∀ q ∈ t,q.1 ∈ nms ∧ q.2 ∈ ns5
theorem TabOk.len {t:Tab} (h:TabOk t):t.length ≤ 3:=by
 have:=List.Nodup.length_le_of_subset (l₂:=[112,113,114]) h.nd fun x hx=>by
  obtain ⟨q,hq,rfl⟩:=List.mem_map.mp hx
  have key:∀ c ∈ nms,lo1 c ∈ [112,113,114]:=by decide
  exact key _ (h.ok q hq).1
 rw [List.length_map] at this
 exact this
theorem TabOk.set {t:Tab} (h:TabOk t) {c v:Nat} (hc:c ∈ nms) (hv:v ∈ ns5):TabOk (setT t c v) where
 nd:=nd_set h.nd _ _
 ok:=fun q hq=>by
  rcases List.mem_append.mp hq with hq | hq
  ·exact h.ok q (List.mem_filter.mp hq).1
  ·rw [List.mem_singleton.mp hq];exact ⟨hc,hv⟩
theorem TabOk.upd {t:Tab} (h:TabOk t) {q:Nat × Nat} (hq:q.1 ∈ nms ∧ q.2 ∈ ns5):TabOk (updT t q):=by
 unfold updT
 split
 ·exact h.set hq.1 hq.2
 ·exact h
theorem TabOk.fold:∀ {l t:Tab},TabOk t → (∀ q ∈ l,q.1 ∈ nms ∧ q.2 ∈ ns5) → TabOk (l.foldl updT t)
 | [],t,h,_=>h
 | q :: l,t,h,hl=>TabOk.fold (l:=l) (h.upd (hl q (.head _))) fun r hr=>hl r (.tail _ hr)
theorem TabOk.get {t:Tab} (h:TabOk t) (c:Nat):getT t c ≤ 5:=by
 unfold getT
 split
 ·rename_i q hq
  have:=(h.ok q (List.mem_of_find?_eq_some hq)).2
  have key:∀ n ∈ ns5,n ≤ 5:=by decide
  exact key _ this
 ·exact Nat.zero_le _
theorem lo_one {c:Nat} (h:c ∈ nms):loL [c] = [lo1 c]:=(a6 c h).2.1
theorem one_eq (a b:Nat):([a] == [b]) = (a == b):=by
 rw [Bool.eq_iff_iff,beq_iff_eq,beq_iff_eq]
 exact ⟨fun e=>List.head_eq_of_cons_eq e,fun e=>by rw [e]⟩
theorem get_enc {s:Nat} {t:Tab} (h:TabOk t) {c:Nat} (hc:c ∈ nms):getP (encT s t) [c] (.str []) = .str (rp s (getT t c)):=by
 have key:∀ t:Tab,(∀ q ∈ t,q.1 ∈ nms) → (encT s t).find? (fun p=>loL p.1 == loL [c]) = (t.find? fun q=>lo1 q.1 == lo1 c).map fun q=>([q.1],rp s q.2):=by
  intro t ht
  unfold encT
  rw [List.find?_map]
  congr 1
  induction t with
  | nil=>rfl
  | cons q t ih=>
   rw [List.find?_cons,List.find?_cons]
   rw [show ((fun p:List Nat × List Nat=>loL p.1 == loL [c]) ∘ fun q:Nat × Nat=>([q.1],rp s q.2)) q = (lo1 q.1 == lo1 c) by
    show (loL [q.1] == loL [c]) = _
    rw [lo_one (ht q (.head _)),lo_one hc,one_eq]]
   rw [ih fun r hr=>ht r (.tail _ hr)]
 unfold getP getT
 rw [key t fun q hq=>(h.ok q hq).1]
 cases t.find? fun q=>lo1 q.1 == lo1 c <;> rfl
theorem set_enc {s:Nat} {t:Tab} (h:TabOk t) {c v:Nat} (hc:c ∈ nms):setP (encT s t) [c] (rp s v) = encT s (setT t c v):=by
 unfold setP delP setT encT
 rw [List.map_append,List.filter_map]
 congr 1
 refine congrArg _ (List.filter_congr fun q hq=>?_)
 show (loL [q.1] != loL [c]) = (lo1 q.1 != lo1 c)
 unfold bne
 rw [lo_one (h.ok q hq).1,lo_one hc,one_eq]
theorem enc_ok {s:Nat} {t:Tab} (h:TabOk t):∀ p ∈ encT s t,okS (loL p.1) = true ∧ (loL p.1).length ≤ 1000:=fun p hp=>by
 obtain ⟨q,hq,rfl⟩:=List.mem_map.mp hp
 have h6:=a6 _ (h.ok q hq).1
 dsimp only
 rw [h6.2.1]
 exact ⟨h6.2.2.1,Nat.le_of_ble_eq_true rfl⟩
theorem enc_len (s:Nat) (t:Tab):(encT s t).length = t.length:=List.length_map _
theorem rp1 {s n z:Nat} (h:n ≤ 5):(rp s n).length + [z].length ≤ sizeLine:=by unfold rp;rw [List.length_replicate];exact s1k (Nat.le_trans (Nat.succ_le_succ h) (by decide))
theorem rp0 {s n:Nat} (h:n ≤ 5):(rp s n).length + ([]:List Nat).length ≤ sizeLine:=by unfold rp;rw [List.length_replicate];exact s5 h
theorem irp {s n:Nat} (h:n ≤ 5):((rp s n).length:Int) < 2 ^ 63:=by unfold rp;rw [List.length_replicate];exact i63 (Nat.le_trans h (by decide))
theorem enc1000 {s:Nat} {t:Tab} (h:TabOk t):(encT s t).length ≤ 1000:=by rw [enc_len];exact Nat.le_trans h.len (by decide)
theorem rp_add (s n:Nat):rp s n ++ [s] = rp s (n + 1):=(List.replicate_succ').symm
noncomputable def wds (s:Nat) (t:Tab):List (List Nat × List Nat):=t.flatMap fun q=>[([q.1],[q.1]),(rp s q.2,qw s q.2)]
theorem wds_rt {s:Nat} (hs:s ∈ strokes) {t:Tab} (h:TabOk t):∀ p ∈ wds s t,rt [] p.2 (some 32) [] false = some (some p.1,none,[]):=fun p hp=>by
 obtain ⟨q,hq,hp⟩:=List.mem_flatMap.mp hp
 obtain ⟨h1,h2⟩:=h.ok q hq
 simp only [List.mem_cons,List.not_mem_nil,or_false] at hp
 rcases hp with rfl | rfl
 ·exact (a6 _ h1).1.2.2
 ·exact (a4 s hs _ h2).1
theorem wds_len (s:Nat) (t:Tab):(wds s t).length = 2 * t.length:=by
 unfold wds
 induction t with
 | nil=>rfl
 | cons q t ih=>
  rw [List.flatMap_cons,List.length_append,ih]
  show 2 + 2 * t.length = 2 * (t.length + 1)
  lia
noncomputable def tupF (a:AV):List AV:=match a with
 | .tup xs=>xs
 | _=>[]
theorem tup_all (s:Nat) (t:Tab):(encI (encT s t)).flatMap tupF = ((wds s t).map (·.1)).map .str:=by
 unfold encI encT wds
 rw [List.map_map,List.map_map,List.flatMap_map,List.map_flatMap]
 rfl
theorem wds_w {s:Nat} {t:Tab} (h:TabOk t):∀ p ∈ wds s t,p.1.length ≤ 5 ∧ p.1.length ≤ 5:=fun p hp=>by
 obtain ⟨q,hq,hp⟩:=List.mem_flatMap.mp hp
 obtain ⟨h1,h2⟩:=h.ok q hq
 have key:∀ n ∈ ns5,n ≤ 5:=by decide
 simp only [List.mem_cons,List.not_mem_nil,or_false] at hp
 rcases hp with rfl | rfl
 ·exact ⟨by show 1 ≤ 5;decide,by show 1 ≤ 5;decide⟩
 ·have:=key _ h2
  unfold rp
  rw [List.length_replicate]
  exact ⟨this,this⟩
theorem wds_q {s:Nat} (hs:s ∈ strokes) {t:Tab} (h:TabOk t):∀ p ∈ wds s t,okS p.2 = true ∧ p.2.length ≤ 27:=fun p hp=>by
 obtain ⟨q,hq,hp⟩:=List.mem_flatMap.mp hp
 obtain ⟨h1,h2⟩:=h.ok q hq
 simp only [List.mem_cons,List.not_mem_nil,or_false] at hp
 rcases hp with rfl | rfl
 ·exact ⟨(a6 _ h1).2.2.2.2,by show 1 ≤ 27;decide⟩
 ·exact (a4 s hs _ h2).2
theorem wds_quot {s:Nat} (hs:s ∈ strokes) {t:Tab} (h:TabOk t):∀ p ∈ wds s t,Quot cdQ p.1 p.2:=fun p hp=>by
 obtain ⟨q,hq,hp⟩:=List.mem_flatMap.mp hp
 obtain ⟨h1,h2⟩:=h.ok q hq
 simp only [List.mem_cons,List.not_mem_nil,or_false] at hp
 rcases hp with rfl | rfl
 ·exact quot_nm h1
 ·exact quot_row hs h2
section
variable {W₀:Wld} {c:Cx W₀} {σ:St} {Q:AV → St → Prop}
theorem send_spec (M:QtM W₀) (Hd:HdM W₀) (It:HdI W₀ Hd) {f:Addr} {n:Nat} (hf:Def W₀ f F_send .none .none) (hr:c.Room (n + 12)) (hgz:c.gz = Option.none) (bLen:bN W₀ "len" (.builtin "len")) {x dx D P:Addr} {H:List (Addr × AO)} {s:Nat} (hs:s ∈ strokes) {t:Tab} {L:List Tab} {nm:Nat}
  (ht:TabOk t) (hL:∀ M ∈ L,TabOk M) (hL5:L.length ≤ 5) (hn:nm ∈ nms) (h5:getT (L.flatten.foldl updT t) nm < 5) (hH:σ.H = hdL Hd x dx D (encI (encT s t)) H) (hP:(P,.text M.cc) ∈ H)
  (h:Q (.str (jn [32] ((wds s (sendT t L nm)).map (·.2)))) { σ with H:=hdL Hd x dx D (encI (encT s (sendT t L nm))) H }):Cal c (.ref f) [.ref x,.lst (L.map (mlA s)),.str [nm],.str [s]] [] σ Q:=by
 refine call_def (bas:=[("table",.ref x),("mails",.lst (L.map (mlA s))),("name",.str [nm]),("stroke",.str [s])]) hf hr (fun q doc pm code=>?_) (by kernel_rfl) (by kernel_rfl) (by kernel_rfl) [("table",.ref x),("mails",.lst (L.map (mlA s))),("name",.str [nm]),("stroke",.str [s])] [] (by kernel_rfl) (by kernel_rfl) fun q doc pm code hfn LL=>?_
 ·exact Bind.pos (ns:=["table", "mails", "name", "stroke"]) rfl (all4 fun v v2 v3 v4=>by kernel_rfl)
 have hr':(funCx c hfn LL).Room (n + 11):=hr.fn hfn LL
 obtain ⟨m0,cl0,H0⟩:=σ
 dsimp only at hH h ⊢
 subst hH
 refine Exs.cons ?_
 (refine Ex.forsG ?_ (by intro _;rfl);walk_at "j1")
 have hT:∀ k,TabOk ((L.take k).flatten.foldl updT t):=fun k=>ht.fold fun q hq=>by
  obtain ⟨M,hM,hq⟩:=List.mem_flatten.mp hq
  exact (hL M (List.mem_of_mem_take hM)).ok q hq
 refine .mk _ _ (Itb.lst _) (fun pre σ'=>Lf σ' ⟨[("table",.ref x),("name",.str [nm]),("stroke",.str [s])],[],hdL Hd x dx D (encI (encT s ((L.take pre.length).flatten.foldl updT t))) H⟩) (.of ⟨rfl,rfl,rfl,trivial⟩ trivial rfl) (fun pre y post σ' e l=>?_) (fun σ' l=>?_) (fun _ _ _=>trivial)
 ·obtain ⟨M1,eM,rfl,_⟩:=at_pre e
  have hMm:M1 ∈ L:=by rw [eM];exact List.mem_append_right _ (.head _)
  have hM:=hL M1 hMm
  have hk2:pre.length < L.length:=by have:=congrArg List.length e;rw [List.length_map,List.length_append,List.length_cons] at this;lia
  have eN:L.take (pre.length + 1) = L.take pre.length ++ [M1]:=by
   rw [List.take_add_one,show L[pre.length]? = some M1 by rw [eM,List.getElem?_append_right (List.length_take_le _ _),List.length_take_of_le (Nat.le_of_lt hk2),Nat.sub_self];rfl];rfl
  have h0:=hT pre.length
  refine Op1.weakP l ?_
  rw [show (pre ++ [mlA s M1]).length = pre.length + 1 from List.length_append,eN,List.flatten_append,List.foldl_append,show [M1].flatten = M1 by simp]
  generalize (L.take pre.length).flatten.foldl updT t = t0 at h0 ⊢
  (refine Asn.name ?_;refine Sto.loc1 (by rfl) ?_;refine Exs.cons ?_;refine Ex.forsG ?_ (by intro _;rfl);walk_at "j1")
  refine .mk _ _ (Itb.lst _) (fun pre2 σ'=>Lf σ' ⟨[("table",.ref x),("name",.str [nm]),("stroke",.str [s])],[],hdL Hd x dx D (encI (encT s ((M1.take pre2.length).foldl updT t0))) H⟩) (.of ⟨rfl,rfl,rfl,trivial⟩ trivial rfl) (fun pre2 y post2 σ' e2 l2=>?_) (fun σ' l2=>?_) (fun _ _ _=>trivial)
  ·have e2:(M1.map fun q=>AV.tup [.str [q.1],.str (rp s q.2)]) = pre2 ++ y :: post2:=by
    have:encI (encT s M1) = M1.map fun q=>AV.tup [.str [q.1],.str (rp s q.2)]:=by unfold encI encT;rw [List.map_map];rfl
    rw [← this];exact e2
   obtain ⟨q,eq,rfl,_⟩:=at_pre e2
   have hqm:q ∈ M1:=by rw [eq];exact List.mem_append_right _ (.head _)
   have hq:=hM.ok q hqm
   have hk3:pre2.length < M1.length:=by have:=congrArg List.length e2;rw [List.length_map,List.length_append,List.length_cons] at this;lia
   have eN2:M1.take (pre2.length + 1) = M1.take pre2.length ++ [q]:=by
    rw [List.take_add_one,show M1[pre2.length]? = some q by rw [eq,List.getElem?_append_right (List.length_take_le _ _),List.length_take_of_le (Nat.le_of_lt hk3),Nat.sub_self];rfl];rfl
   have h1:TabOk ((M1.take pre2.length).foldl updT t0):=h0.fold fun q hq=>hM.ok q (List.mem_of_mem_take hq)
   refine Op1.weakP l2 ?_
   rw [show (pre2 ++ [AV.tup [.str [q.1],.str (rp s q.2)]]).length = pre2.length + 1 from List.length_append,eN2,List.foldl_append]
   generalize (M1.take pre2.length).foldl updT t0 = t1 at h1 ⊢
   obtain ⟨qc,qv⟩:=q
   dsimp only at hq
   have h6:=a6 _ hq.1
   have hg5:=h1.get qc
   have hv5:qv ≤ 5:=by
    have key:∀ n ∈ ns5,n ≤ 5:=by decide
    exact key _ hq.2
   refine Asn.tup rfl ?_
   refine Ord.cons ?_
   (refine Asn.name ?_;refine Sto.loc1 (by rfl) ?_)
   refine Ord.cons ?_
   (refine Asn.name ?_;refine Sto.loc1 (by rfl) ?_)
   refine Ord.nil ?_
   (refine Exs.cons ?_;refine Ex.ifs ?_;refine Tr.cmp1 (by with_unfolding_all rfl) ?_;refine Ev.cB (by assumption) (by kernel_rfl) (by rfl) (by kernel_rfl) ?_;refine Sps.argC (by rfl) ?_;walk_at "j1";refine Sps.argN ?_)
   refine Cal.lenS (irp hv5) ?_
   (refine Ev.cB (by assumption) (by kernel_rfl) (by rfl) (by kernel_rfl) ?_;refine Sps.argC (by rfl) ?_;refine Ev.cI ⟨_,rfl⟩ (by rfl) ?_;walk_at "j1")
   refine ⟨x,Hd.C,dx,_,Hd.fGe,rfl,⟨.tail _ (.head _),.tail _ (.tail _ (.head _))⟩,Hd.mGe,by rfl,Hd.hGe.cee,?_⟩
   (refine Sps.argC (by rfl) ?_;walk_at "j1";refine Sps.argC (by rfl) ?_;refine Ev.str1 (by decide +kernel) ?_;refine Sps.argN ?_)
   rw [show (PySem.Str.ofString "").cps.toList = [] by kernel_rfl]
   refine hd_get2 (n:=n + 8) Hd hr' (items:=encT s t1) (D:=D) ⟨.tail _ (.head _),.tail _ (.tail _ (.head _))⟩ (.head _) ?_ ?_ ?_ ?_ (enc_ok h1) ?_
   ·rw [h6.2.1];exact hdOk_nm h6.2.2.2.1
   ·rw [h6.2.1];exact h6.2.2.1
   ·rw [h6.2.1];exact Nat.le_of_ble_eq_true rfl
   ·exact enc1000 h1
   rw [get_enc h1 hq.1]
   (refine Sps.argN ?_)
   refine Cal.lenS (irp (h1.get qc)) ?_
   (refine O.gtI ?_;refine T.bool ?_)
   rw [show (decide (((rp s qv).length:Int) > ((rp s (getT t1 qc)).length:Int))) = decide (getT t1 qc < qv) by
    unfold rp;rw [List.length_replicate,List.length_replicate];exact decide_eq_decide.mpr ⟨fun h=>by lia,fun h=>by lia⟩]
   have hlq:loL [qc] = [lo1 qc]:=h6.2.1
   by_cases hlt:getT t1 qc < qv
   ·(refine ite_T (by rw [decide_eq_true hlt] <;> rfl) ?_;refine Exs.cons ?_;refine Ex.asgSub1 (by rfl) ?_;walk_at "j1";walk_at "j1";walk_at "j1")
    refine Put.own (I:=⟨.tail _ (.head _),.tail _ (.tail _ (.head _))⟩) Hd.nq Hd.sSe Hd.iSe ?_
    refine hd_set (n:=n + 7) Hd hr' (items:=encT s t1) rfl (by rw [hlq];exact hdOk_nm h6.2.2.2.1) (hdOk_nm hq.1) (hdOk_row hs hq.2) (by rw [hlq];exact h6.2.2.1) (by rw [hlq];exact Nat.le_of_ble_eq_true rfl) (enc1000 h1) (enc_ok h1) fun y=>?_
    rw [set_enc h1 hq.1]
    (refine Exs.nil ?_;refine Exs.nil ?_)
    refine .of ⟨rfl,rfl,rfl,trivial⟩ trivial ?_
    show _ = hdL Hd x dx D (encI (encT s (updT t1 (qc,qv)))) H
    unfold updT
    rw [if_pos hlt]
   ·(refine ite_N (by rw [decide_eq_false hlt] <;> rfl) ?_;refine Exs.nil ?_;refine Exs.nil ?_)
    refine .of ⟨rfl,rfl,rfl,trivial⟩ trivial ?_
    show _ = hdL Hd x dx D (encI (encT s (updT t1 (qc,qv)))) H
    unfold updT
    rw [if_neg hlt]
  ·have e3:(encI (encT s M1)).length = M1.length:=by unfold encI;rw [List.length_map,enc_len]
   rw [e3,List.take_length] at l2
   refine Go.weakP (Lf.le l2) ?_
   (refine Exs.nil ?_)
   exact .of ⟨rfl,rfl,rfl,trivial⟩ trivial rfl
 ·rw [List.length_map,List.take_length] at l
  have h0:=hT L.length
  rw [List.take_length] at h0
  refine Go.weakP (Lf.le l) ?_
  have es:sendT t L nm = setT (L.flatten.foldl updT t) nm (getT (L.flatten.foldl updT t) nm + 1):=rfl
  generalize sendT t L nm = R at es h
  generalize L.flatten.foldl updT t = T at h0 h5 es ⊢
  have h6:=a6 _ hn
  have hlq:loL [nm] = [lo1 nm]:=h6.2.1
  have hv5:getT T nm + 1 ∈ ns5:=by
   have key:∀ n < 5,n + 1 ∈ ns5:=by decide
   exact key _ h5
  have hR:TabOk R:=by rw [es];exact h0.set hn hv5
  (refine Exs.cons ?_;refine Ex.asgSub1 (by rfl) ?_;refine Ev.binop ?_;refine Ev.cI ⟨_,rfl⟩ (by rfl) ?_;walk_at "j1")
  refine ⟨x,Hd.C,dx,_,Hd.fGe,rfl,⟨.tail _ (.head _),.tail _ (.tail _ (.head _))⟩,Hd.mGe,by rfl,Hd.hGe.cee,?_⟩
  (refine Sps.argC (by rfl) ?_;walk_at "j1";refine Sps.argC (by rfl) ?_;refine Ev.str1 (by decide +kernel) ?_;refine Sps.argN ?_)
  rw [show (PySem.Str.ofString "").cps.toList = [] by kernel_rfl]
  refine hd_get2 (n:=n + 8) Hd hr' (items:=encT s T) (D:=D) ⟨.tail _ (.head _),.tail _ (.tail _ (.head _))⟩ (.head _) ?_ ?_ ?_ ?_ (enc_ok h0) ?_
  ·rw [hlq];exact hdOk_nm h6.2.2.2.1
  ·rw [hlq];exact h6.2.2.1
  ·rw [hlq];exact Nat.le_of_ble_eq_true rfl
  ·exact enc1000 h0
  rw [get_enc h0 hn]
  (walk_at "j1")
  refine O.addS (rp1 (Nat.le_of_lt h5)) ?_
  rw [rp_add]
  (walk_at "j1";walk_at "j1")
  refine Put.own (I:=⟨.tail _ (.head _),.tail _ (.tail _ (.head _))⟩) Hd.nq Hd.sSe Hd.iSe ?_
  refine hd_set (n:=n + 7) Hd hr' (items:=encT s T) rfl (by rw [hlq];exact hdOk_nm h6.2.2.2.1) (hdOk_nm hn) (hdOk_row hs hv5) (by rw [hlq];exact h6.2.2.1) (by rw [hlq];exact Nat.le_of_ble_eq_true rfl) (enc1000 h0) (enc_ok h0) fun y=>?_
  rw [set_enc h0 hn,← es]
  (refine Exs.cons ?_;refine Ex.ret ?_)
  refine Ev.cF M.gJ M.hJ.cee (by kernel_rfl) (by rfl) (by kernel_rfl) ?_
  (refine Sps.argC (by rfl) ?_)
  walk_at "ln"
  (refine Ev.cI ⟨_,rfl⟩ (by rfl) ?_;walk_at "j1")
  refine ⟨x,Hd.C,dx,_,It.fIt,rfl,⟨.tail _ (.head _),.tail _ (.tail _ (.head _))⟩,It.mIt,by rfl,It.hIt.cee,?_⟩
  (refine Sps.argN ?_)
  refine hd_items (n:=n + 10) Hd It hr' (items:=encT s R) (x:=x) (dx:=dx) (D:=D) ⟨.tail _ (.head _),.tail _ (.tail _ (.head _))⟩ (.head _) (enc1000 hR) ?_
  refine .mk _ (fun _=>True) tupF 2 (Itb.lst _) (fun u hu=>?_) (fun _ _ _ _ _=>trivial) (fun E C acc u hE hu hacc=>?_) fun E hE=>?_
  ·obtain ⟨p,hp,rfl⟩:=List.mem_map.mp hu
   exact Nat.le_refl _
  ·obtain ⟨p,hp,rfl⟩:=List.mem_map.mp hu
   have hl3:=hR.len
   have hel:(encI (encT s R)).length = R.length:=by unfold encI;rw [List.length_map,enc_len]
   rw [hel] at hacc
   (refine Asn.name ?_;refine Sto.loc1 (by rfl) ?_;refine Ifs.nil ?_;refine ite_T (by rfl) ?_)
   refine Emi.nestS (.lst _ _ _ _) rfl (by rfl) (by intro _;rfl) ?_
   (walk_at "j1")
   refine .mk _ (fun v=>[v]) 1 (Itb.tup _) (Lf.refl _) (fun _ _ e=>by cases e) (fun _ _ e=>e) (fun _ _=>Nat.le_refl _) (by rfl) (fun acc2 v hv hacc2=>?_)
   obtain ⟨w,rfl⟩:∃ w,v = .str w:=by
    simp only [List.mem_cons,List.not_mem_nil,or_false] at hv
    rcases hv with rfl | rfl <;> exact ⟨_,rfl⟩
   have ha2:acc2.length ≤ 100:=by
    have:([AV.str p.1,AV.str p.2]:List AV).length = 2:=rfl
    lia
   (refine Asn.name ?_;refine Sto.loc1 (by rfl) ?_;refine Ifs.nil ?_;refine ite_T (by rfl) ?_)
   refine Emi.leaf rfl (sl _ (by lia)) ?_
   (walk_at "j1")
   exact ⟨rfl,.mm ⟨rfl,trivial⟩ rfl rfl⟩
  refine .lst E _ [] _ rfl rfl ?_
  rw [tup_all]
  (refine Sps.argN ?_)
  have hl3:=hR.len
  have hwl:=wds_len s R
  refine join_spec (n:=n + 8) (xs:=(wds s R).map (·.1)) (rs:=(wds s R).map (·.2)) M.hJ M.hcc M.hQ hr' hgz M.hB M.gq M.gfu M.bu M.pp ?_ (by rw [List.length_map];lia) (by rw [List.length_map,List.length_map]) (fun i a r h1 h2=>?_) (joinOk_of ?_) ?_ (P:=P) ?_ ?_
  ·refine List.all_eq_true.mpr fun y hy=>?_
   obtain ⟨p,hp,rfl⟩:=List.mem_map.mp hy
   exact decide_eq_true (Nat.le_trans (wds_w hR p hp).1 (by decide))
  ·rw [List.getElem?_map] at h1 h2
   cases e:(wds s R)[i]? with
   | none=>rw [e] at h1;cases h1
   | some p=>
    rw [e] at h1 h2
    cases h1;cases h2
    exact wds_quot hs hR p (List.mem_of_getElem? e)
  ·have key:∀ l:List (List Nat × List Nat),(∀ p ∈ l,p.2.length ≤ 27) → ((l.map (·.2)).map List.length).sum ≤ 27 * l.length:=by
    intro l
    induction l with
    | nil=>intro _;exact Nat.le_refl _
    | cons p l ih=>
     intro h
     have h1:=h p (.head _)
     have h2:=ih fun q hq=>h q (.tail _ hq)
     rw [List.map_cons,List.map_cons,List.sum_cons,List.length_cons]
     lia
   have:=key (wds s R) fun p hp=>(wds_q hs hR p hp).2
   rw [List.length_map]
   show _ + (wds s R).length * 1 ≤ _
   lia
  ·refine okS_jn (by decide) (List.all_eq_true.mpr fun y hy=>?_)
   obtain ⟨p,hp,rfl⟩:=List.mem_map.mp hy
   exact (wds_q hs hR p hp).1
  ·exact .tail _ (.tail _ (.tail _ hP))
  skip
  exact h
end
end
section
set_option maxHeartbeats 0
set_option maxRecDepth 20000
theorem nm_nms (ds:List Nat) (k:Nat):nmC ds k ∈ nms:=by
 have w:=who_lt ds k
 unfold nmC
 have key:∀ w < 3,80 + w ∈ nms ∧ 112 + w ∈ nms:=by decide
 split
 ·exact (key _ w).1
 ·exact (key _ w).2
theorem cntW_le (ds:List Nat) (m x:Nat):cntW ds m x ≤ m:=Nat.le_trans (List.length_filter_le _ _) (Nat.le_of_eq List.length_range)
theorem own_lt {ds:List Nat} {k:Nat} (hk:k < 5):getT ((heardM ds (mst ds k).ms k).flatten.foldl updT ((mst ds k).tab (who ds k))) (nmC ds k) < 5:=by
 have I:=mi_all ds (k + 1)
 have h1:=I.mle k (Nat.lt_succ_self k) _ (who_lt ds k)
 have e1:(mst ds (k + 1)).ms.getD k [] = sendT ((mst ds k).tab (who ds k)) (heardM ds (mst ds k).ms k) (nmC ds k):=by
  show ((mst ds k).ms ++ [_]).getD k [] = _
  have:=(mi_all ds k).len
  rw [List.getD_eq_getElem?_getD,List.getElem?_append_right (by lia),this,Nat.sub_self];rfl
 rw [e1] at h1
 unfold sendT at h1
 rw [get_set,lo_nm,lo_hand (who_lt ds k),if_pos rfl] at h1
 have:=cntW_le ds (k + 1) (who ds k)
 exact Nat.lt_of_le_of_lt (Nat.le_of_succ_le_succ (Nat.le_trans h1 this)) hk
theorem ti_all (ds:List Nat):∀ k ≤ 5,(∀ h,TabOk ((mst ds k).tab h)) ∧ ∀ M ∈ (mst ds k).ms,TabOk M
 | 0,_=>⟨fun h=>⟨List.nodup_nil,fun q hq=>by cases hq⟩,fun M hM=>by cases hM⟩
 | k + 1,hk=>by
  obtain ⟨h1,h2⟩:=ti_all ds k (Nat.le_of_succ_le hk)
  have h5:=own_lt (ds:=ds) (k:=k) hk
  have hM:∀ M ∈ heardM ds (mst ds k).ms k,TabOk M:=fun M hM=>by
   obtain ⟨j,hj,rfl⟩:=List.mem_map.mp hM
   have hjk:j < k:=List.mem_range.mp (List.mem_filter.mp hj).1
   have hl:=(mi_all ds k).len
   rw [List.getD_eq_getElem?_getD,List.getElem?_eq_getElem (by lia)]
   exact h2 _ (List.getElem_mem _)
  have hv:getT ((heardM ds (mst ds k).ms k).flatten.foldl updT ((mst ds k).tab (who ds k))) (nmC ds k) + 1 ∈ ns5:=by
   have key:∀ n < 5,n + 1 ∈ ns5:=by decide
   exact key _ h5
  have hS:TabOk (sendT ((mst ds k).tab (who ds k)) (heardM ds (mst ds k).ms k) (nmC ds k)):=by
   refine TabOk.set (TabOk.fold (h1 _) fun q hq=>?_) (nm_nms ds k) hv
   obtain ⟨M,hm,hq⟩:=List.mem_flatten.mp hq
   exact (hM M hm).ok q hq
  constructor
  ·intro h
   show TabOk (if h = who ds k then _ else _)
   split
   ·rename_i e
    rw [e];exact hS
   ·exact h1 h
  ·intro M hm
   rcases List.mem_append.mp hm with hm | hm
   ·exact h2 M hm
   ·rw [List.mem_singleton.mp hm];exact hS
theorem ml_at {s:Nat} {L:List Tab} {j:Nat} (h:j < L.length):(L.map (mlA s))[j]? = some (mlA s (L.getD j [])):=by
 rw [List.getElem?_map,List.getElem?_eq_getElem h,List.getD_eq_getElem?_getD,List.getElem?_eq_getElem h];rfl
section
variable {W₀:Wld} {c:Cx W₀} {σ:St} {Q:AV → St → Prop}
theorem Cal.lp {f:Value} {as:List AV} {kw:List (PySem.Str × AV)} {τ:St} (l:Lp σ τ) (h:Cal c f as kw τ Q):Cal c f as kw σ Q:=fun b k s vs kvs S r rk=>h b k s vs kvs (l.sim S) r rk
theorem ife_via {b:Bool} {x y:Expr} (a:AV) (h:if b = true then Ev c x σ (fun y τ=>y = a ∧ τ = σ) else Ev c y σ (fun y τ=>y = a ∧ τ = σ)) (k:Q a σ):if b = true then Ev c x σ Q else Ev c y σ Q:=by
 have key:∀ e:Expr,Ev c e σ (fun y τ=>y = a ∧ τ = σ) → Ev c e σ Q:=fun e h b k' s S=>gst (h b k' s S) fun b' y' σ' v s' st S' r q=>by
  obtain ⟨rfl,rfl⟩:=q
  exact ⟨b',_,_,st,S',r,k⟩
 cases b with
 | true=>exact key _ h
 | false=>exact key _ h
noncomputable def mjF (s:Nat) (L:List Tab) (a:AV):Option AV:=match a with
 | .int j=>some (mlA s (L.getD j.toNat []))
 | _=>none
theorem mj_all (s:Nat) (ds:List Nat) (L:List Tab) (k:Nat):((heard ds k).map fun (i:Nat)=>AV.int (i:Int)).filterMap (mjF s L) = (heardM ds L k).map (mlA s):=by
 unfold heardM
 rw [List.filterMap_map,List.map_map,← List.filterMap_eq_map]
 rfl
theorem jn_wds:∀ {l:List (List Nat × List Nat)},(∀ p ∈ l,okS p.2 = true ∧ p.2.length ≤ 27) → l.length ≤ 6 → (jn [32] (l.map (·.2))).length ≤ 1000:=fun {l} h hl=>by
 have key:∀ l:List (List Nat × List Nat),(∀ p ∈ l,okS p.2 = true ∧ p.2.length ≤ 27) → (jn [32] (l.map (·.2))).length ≤ 28 * l.length:=by
  intro l
  induction l with
  | nil=>intro _;exact Nat.le_refl _
  | cons p l ih=>
   intro h
   have h1:=(h p (.head _)).2
   cases l with
   | nil=>
    show p.2.length ≤ 28 * 1
    lia
   | cons q l=>
    have h2:=ih fun r hr=>h r (.tail _ hr)
    show (p.2 ++ [32] ++ jn [32] ((q :: l).map fun x:List Nat × List Nat=>x.2)).length ≤ _
    rw [List.length_append,List.length_append,show (p :: q :: l).length = (q :: l).length + 1 from rfl]
    have h0:([32]:List Nat).length = 1:=rfl
    lia
 exact Nat.le_trans (key l h) (Nat.le_trans (Nat.mul_le_mul_left 28 hl) (by decide))
theorem smallT {n:Nat} (hn:n ≤ 3):Builtin.Range.small 0 ((2 * n:Nat):Int) 2 = true:=by
 have key:∀ n < 4,Builtin.Range.small 0 ((2 * n:Nat):Int) 2 = true:=by decide
 exact key n (Nat.lt_succ_of_le hn)
theorem rsT {n:Nat} (h:n ≤ 3):(Builtin.Range.rangeSize 0 ((2 * n:Nat):Int) 2).toNat = n:=by
 have key:∀ n < 4,(Builtin.Range.rangeSize 0 ((2 * n:Nat):Int) 2).toNat = n:=by decide
 exact key n (Nat.lt_succ_of_le h)
theorem wds_at (s:Nat):∀ {R:Tab} {j:Nat} (h:j < R.length),(((wds s R).map (·.1)).map AV.str)[2 * j]? = some (.str [(R[j]).1]) ∧ (((wds s R).map (·.1)).map AV.str)[2 * j + 1]? = some (.str (rp s (R[j]).2))
 | q :: R,0,_=>⟨rfl,rfl⟩
 | q :: R,j + 1,h=>wds_at s (R:=R) (j:=j) (Nat.lt_of_succ_lt_succ h)
noncomputable def prF (s:Nat) (R:Tab) (a:AV):Option AV:=match a with
 | .int i=>(R[i.toNat / 2]?).map fun q=>.tup [.str [q.1],.str (rp s q.2)]
 | _=>none
theorem pr_all (s:Nat) (R:Tab) (h3:R.length ≤ 3):((List.range (Builtin.Range.rangeSize 0 ((2 * R.length:Nat):Int) 2).toNat).map fun (j:Nat)=>AV.int (0 + j * 2)).filterMap (prF s R) = encI (encT s R):=by
 rw [rsT h3,List.filterMap_map]
 have key:∀ R:Tab,(List.range R.length).filterMap (fun j=>(R[j]?).map fun q=>AV.tup [.str [q.1],.str (rp s q.2)]) = encI (encT s R):=by
  intro R
  induction R with
  | nil=>rfl
  | cons q R ih=>
   rw [List.length_cons,List.range_succ_eq_map,List.filterMap_cons_some (f:=fun j=>((q :: R)[j]?).map fun q:Nat × Nat=>AV.tup [.str [q.1],.str (rp s q.2)]) (a:=0) (b:=AV.tup [.str [q.1],.str (rp s q.2)]) rfl,List.filterMap_map]
   exact congrArg _ ih
 rw [← key R]
 refine congrArg (fun f=>List.filterMap f _) (funext fun j=>?_)
 show (R[((0:Int) + (j:Int) * 2).toNat / 2]?).map _ = _
 rw [show ((0:Int) + (j:Int) * 2).toNat / 2 = j from (by rw [Int.zero_add];exact Nat.mul_div_cancel j (by decide))]
noncomputable def aF (x0 d0 D0 x1 d1 D1 x2 d2 D2:Addr):Nat → Addr × Addr × Addr
 | 0=>(x0,d0,D0)
 | 1=>(x1,d1,D1)
 | _=>(x2,d2,D2)
noncomputable def blk (Hd:HdM W₀) (s:Nat) (a:Nat → Addr × Addr × Addr) (T:Nat → Tab) (h:Nat):List (Addr × AO):=[((a h).2.2,.list (encI (encT s (T h)))),((a h).1,.inst Hd.C (a h).2.1),((a h).2.1,.idict [("_headers",.ref (a h).2.2)])]
theorem blk_perm (Hd:HdM W₀) (s:Nat) (a:Nat → Addr × Addr × Addr) (T:Nat → Tab) (G:List (Addr × AO)) (x:Addr × AO) {w:Nat} (hw:w < 3):(x :: ([2,1,0].flatMap (blk Hd s a T) ++ G)).Perm (blk Hd s a T w ++ (x :: (([2,1,0].erase w).flatMap (blk Hd s a T) ++ G))):=by
 refine List.Perm.trans ?_ List.perm_middle.symm
 refine List.Perm.cons _ ?_
 rw [← List.append_assoc]
 refine List.Perm.append_right _ ?_
 rw [← List.flatMap_cons]
 refine List.Perm.flatMap_right _ (List.perm_cons_erase ?_)
 have key:∀ w < 3,w ∈ [2,1,0]:=by decide
 exact key w hw
theorem blk_back (Hd:HdM W₀) (s:Nat) (a:Nat → Addr × Addr × Addr) {T T':Nat → Tab} (G:List (Addr × AO)) (x:Addr × AO) {w:Nat} (hw:w < 3) (h:∀ h,h ≠ w → T' h = T h):(blk Hd s a T' w ++ (x :: (([2,1,0].erase w).flatMap (blk Hd s a T) ++ G))).Perm (x :: ([2,1,0].flatMap (blk Hd s a T') ++ G)):=by
 have e:([2,1,0].erase w).flatMap (blk Hd s a T) = ([2,1,0].erase w).flatMap (blk Hd s a T'):=by
  have key:∀ l:List Nat,w ∉ l → l.flatMap (blk Hd s a T) = l.flatMap (blk Hd s a T'):=by
   intro l
   induction l with
   | nil=>intro _;rfl
   | cons y l ih=>
    intro hn
    rw [List.flatMap_cons,List.flatMap_cons,ih fun hm=>hn (.tail _ hm)]
    congr 1
    unfold blk
    rw [h y fun e=>hn (by rw [e];exact .head _)]
  have k3:∀ w < 3,w ∉ [2,1,0].erase w:=by decide
  exact key _ (k3 w hw)
 rw [e]
 exact (blk_perm Hd s a T' G x hw).symm
theorem mails_spec (M:QtM W₀) (Hd:HdM W₀) (It:HdI W₀ Hd) (Sh:ShM W₀) {f fH fS:Addr} {n:Nat} (hf:Def W₀ f F_mails .none .none) (hH:Def W₀ fH F_heard .none .none) (gH:gN W₀ "_law_heard" (.ref fH)) (hS:Def W₀ fS F_send .none .none) (gS:gN W₀ "_law_send" (.ref fS)) (hr:c.Room (n + 13)) (hgz:c.gz = Option.none) {fs:List Env} (hfs:c.frs = some fs)
  (bLen:bN W₀ "len" (.builtin "len")) (bRange:bN W₀ "range" (.type "range")) {P:Addr} (hP:(P,.text M.cc) ∈ σ.H) {s:Nat} (hs:s ∈ strokes) {ds:List Nat} (h5:ds.length ≤ 5)
  (h:Q (.lst ((mst ds ds.length).ms.map (mlA s))) σ):Cal c (.ref f) [drawsA ds,.str [s]] [] σ Q:=by
 refine Cal.weak ?_
 refine call_def (bas:=[("draws",drawsA ds),("stroke",.str [s])]) hf hr (fun q doc pm code=>?_) (by kernel_rfl) (by kernel_rfl) (by kernel_rfl) [("draws",drawsA ds),("stroke",.str [s])] [] (by kernel_rfl) (by kernel_rfl) fun q doc pm code hfn L=>?_
 ·exact Bind.pos (ns:=["draws", "stroke"]) rfl (all2 fun v v2=>by kernel_rfl)
 have hr':(funCx c hfn L).Room (n + 12):=hr.fn hfn L
 refine Exs.cons ?_
 (refine Ex.asg1 (by rfl) ?_)
 refine Ev.lstF ?_
 (refine Sps.argC (by rfl) ?_)
 refine Ev.cF Hd.gHd (Cee.cls Hd.kHd) (by kernel_rfl) (by rfl) (by kernel_rfl) ?_
 (refine Sps.argN ?_)
 refine hd_new (n:=n + 9) Hd hr' fun x0 d0 D0=>?_
 (refine Sps.argC (by rfl) ?_)
 refine Ev.cF Hd.gHd (Cee.cls Hd.kHd) (by kernel_rfl) (by rfl) (by kernel_rfl) ?_
 (refine Sps.argN ?_)
 refine hd_new (n:=n + 9) Hd hr' fun x1 d1 D1=>?_
 (refine Sps.argC (by rfl) ?_)
 refine Ev.cF Hd.gHd (Cee.cls Hd.kHd) (by kernel_rfl) (by rfl) (by kernel_rfl) ?_
 (refine Sps.argN ?_)
 refine hd_new (n:=n + 9) Hd hr' fun x2 d2 D2=>?_
 (refine Sps.argN ?_)
 refine ⟨sl _ (Nat.le_of_ble_eq_true rfl),?_⟩
 (refine Sto.loc1 (by rfl) ?_;refine Exs.cons ?_;refine Ex.asg1 (by rfl) ?_)
 refine Ev.lstL ?_
 (refine Sps.argN ?_)
 refine ⟨sl _ (Nat.zero_le _),fun ML hML=>?_⟩
 (refine Sto.cel1 (by rfl) (by rfl) (by kernel_rfl) ?_;refine Exs.cons ?_;refine Ex.forsG ?_ (by intro _;rfl);refine Ev.cT (by assumption) (by kernel_rfl) (by rfl) (by kernel_rfl) ?_;refine Sps.argC (by rfl) ?_;refine Ev.cB (by assumption) (by kernel_rfl) (by rfl) (by kernel_rfl) ?_;refine Sps.argC (by rfl) ?_;walk_at "j1";refine Sps.argN ?_)
 refine Cal.lenL (.frz _) (i5m h5) ?_
 rw [List.length_map]
 (refine Sps.argN ?_)
 refine Cal.range1 ?_
 have eA:∀ h < 3,([AV.ref x0,AV.ref x1,AV.ref x2]:List AV)[h]? = some (.ref (aF x0 d0 D0 x1 d1 D1 x2 d2 D2 h).1):=by
  intro h hh
  match h,hh with
  | 0,_=>rfl
  | 1,_=>rfl
  | 2,_=>rfl
 refine .mk _ _ (Itb.rngN (n:=ds.length) (n62 h5)) (fun pre σ'=>Lf σ' ⟨[("tables",.lst [.ref x0,.ref x1,.ref x2]),("draws",drawsA ds),("stroke",.str [s])],[("mails",.ref ML)],(ML,.list ((mst ds pre.length).ms.map (mlA s))) :: ([2,1,0].flatMap (blk Hd s (aF x0 d0 D0 x1 d1 D1 x2 d2 D2) (mst ds pre.length).tab) ++ σ.H)⟩) (.of ⟨rfl,rfl,rfl,trivial⟩ ⟨rfl,trivial⟩ rfl) (fun pre y post σ' e l=>?_) (fun σ' l=>?_) (fun _ _ _=>trivial)
 ·obtain ⟨rfl,hk⟩:=rng_pre e
  rw [show (pre ++ [AV.int (pre.length:Int)]).length = pre.length + 1 from List.length_append]
  generalize pre.length = k at hk l ⊢
  have hw:=who_lt ds k
  have hms:=(mi_all ds k).len
  obtain ⟨t1,t2⟩:=ti_all ds k (Nat.le_trans (Nat.le_of_lt hk) h5)
  generalize aF x0 d0 D0 x1 d1 D1 x2 d2 D2 = a at eA l ⊢
  refine Op1.weakP l ?_
  (refine Asn.name ?_;refine Sto.loc1 (by rfl) ?_;refine Exs.cons ?_;refine Ex.asg1 (by rfl) ?_;refine Ev.binop ?_;refine Ev.sub ?_;walk_at "j1";walk_at "j1")
  refine I.listN (by intros;with_unfolding_all rfl) (.frz _) (dg_at hk) (s5m h5) ?_
  (refine Ev.int ?_)
  refine O.fmodN (k:=3) rfl (by decide) ?_
  (refine Sto.loc1 (by rfl) ?_;refine Exs.cons ?_;refine Ex.asg1 (by rfl) ?_;refine Ev.ife ?_;refine Tr.cmp1 (by with_unfolding_all rfl) ?_;refine Ev.binop ?_;walk_at "j1";refine Ev.int ?_)
  refine O.fmodN (k:=2) rfl (by decide) ?_
  (refine Ev.int ?_;refine O.eqI ?_;refine T.bool ?_)
  rw [show (((k % 2:Nat):Int) == (1:Int)) = (k % 2 == 1) from intEq _ 1]
  refine ife_via (.str [nmC ds k]) ?_ ?_
  ·by_cases h2:k % 2 = 1
   ·refine ite_T (beq_iff_eq.mpr h2) ?_
    (refine Ev.sub ?_;refine Ev.str1 (by decide +kernel) ?_;walk_at "j1")
    refine I.strN (y:=80 + who ds k) (by intros;with_unfolding_all rfl) ?_ (sl _ (by decide +kernel)) ?_
    ·rw [show (PySem.Str.ofString "PQR").cps.toList = [80,81,82] by kernel_rfl]
     have key:∀ w < 3,([80,81,82]:List Nat)[w]? = some (80 + w):=by decide
     exact key _ hw
    refine ⟨?_,rfl⟩
    unfold nmC
    rw [if_pos h2]
   ·refine ite_N (beq_eq_false_iff_ne.mpr h2) ?_
    (refine Ev.sub ?_;refine Ev.str1 (by decide +kernel) ?_;walk_at "j1")
    refine I.strN (y:=112 + who ds k) (by intros;with_unfolding_all rfl) ?_ (sl _ (by decide +kernel)) ?_
    ·rw [show (PySem.Str.ofString "pqr").cps.toList = [112,113,114] by kernel_rfl]
     have key:∀ w < 3,([112,113,114]:List Nat)[w]? = some (112 + w):=by decide
     exact key _ hw
    refine ⟨?_,rfl⟩
    unfold nmC
    rw [if_neg h2]
  (refine Sto.loc1 (by rfl) ?_;refine Exs.cons ?_;refine Ex.asg1 (by rfl) ?_)
  refine Ev.cF Sh.gSp Sh.hSp.cee (by kernel_rfl) (by rfl) (by kernel_rfl) ?_
  (refine Sps.argC (by rfl) ?_)
  refine Ev.cF gS hS.cee (by kernel_rfl) (by rfl) (by kernel_rfl) ?_
  (refine Sps.argC (by rfl) ?_;refine Ev.sub ?_;walk_at "j1";walk_at "j1")
  refine I.listN (by intros;with_unfolding_all rfl) (.frz _) (eA _ hw) (sl _ (Nat.le_of_ble_eq_true rfl)) ?_
  (refine Sps.argC (by rfl) ?_)
  refine Ev.lc (by rfl) ?_ (by kernel_rfl) (by kernel_rfl) (by rfl) (by intro _;rfl)
  skip
  refine Ev.cF gH hH.cee (by kernel_rfl) (by rfl) (by kernel_rfl) ?_
  (refine Sps.argC (by rfl) ?_;walk_at "j1";refine Sps.argC (by rfl) ?_;walk_at "j1";refine Sps.argN ?_)
  refine heard_spec (n:=n + 11) hH hr' bRange hk h5 ?_
  have hhl:(heard ds k).length ≤ 5:=Nat.le_trans (List.length_filter_le _ _) (by rw [List.length_range];exact Nat.le_trans (Nat.le_of_lt hk) h5)
  refine ⟨_,Itb.lst _,Turns.lst (mjF s (mst ds k).ms) ?_ ?_ ?_⟩
  ·intro C G acc y hy
   obtain ⟨j,hj,rfl⟩:=List.mem_map.mp hy
   have hjk:j < (mst ds k).ms.length:=by rw [hms];exact List.mem_range.mp (List.mem_filter.mp hj).1
   (refine Asn.name ?_;refine Sto.loc1 (by rfl) ?_;refine Ifs.nil ?_;refine ite_T (by rfl) ?_;refine Ev.sub ?_;refine Ev.cel (by rfl) (by rfl) (by rfl) ?_ (by kernel_rfl);walk_at "j1")
   refine I.listN (by intros;with_unfolding_all rfl) (.led _ _ (.tail _ (.head _))) (ml_at hjk) (s5m (by rw [hms];exact Nat.le_trans (Nat.le_of_lt hk) h5)) ?_
   exact ⟨rfl,.mm trivial rfl rfl⟩
  ·exact s5m hhl
  intro G
  refine .lst G _ [] _ rfl rfl ?_
  rw [mj_all]
  (refine Sps.argC (by rfl) ?_;walk_at "j1";refine Sps.argC (by rfl) ?_;walk_at "j1";refine Sps.argN ?_)
  have hL5:∀ M ∈ heardM ds (mst ds k).ms k,TabOk M:=fun M hM=>by
   obtain ⟨j,hj,rfl⟩:=List.mem_map.mp hM
   have hjk:j < k:=List.mem_range.mp (List.mem_filter.mp hj).1
   rw [List.getD_eq_getElem?_getD,List.getElem?_eq_getElem (by rw [hms];exact hjk)]
   exact t2 _ (List.getElem_mem _)
  have h5':=own_lt (ds:=ds) (k:=k) (Nat.le_trans hk h5)
  have hR:TabOk (sendT ((mst ds k).tab (who ds k)) (heardM ds (mst ds k).ms k) (nmC ds k)):=by
   have:=(ti_all ds (k + 1) (Nat.le_trans hk h5)).1 (who ds k)
   unfold mst mstep at this
   dsimp only at this
   rw [if_pos rfl] at this
   exact this
  have eM:(mst ds (k + 1)).ms = (mst ds k).ms ++ [sendT ((mst ds k).tab (who ds k)) (heardM ds (mst ds k).ms k) (nmC ds k)]:=rfl
  have eT:(mst ds (k + 1)).tab (who ds k) = sendT ((mst ds k).tab (who ds k)) (heardM ds (mst ds k).ms k) (nmC ds k):=by
   show (if who ds k = who ds k then _ else _) = _
   rw [if_pos rfl]
  have eO:∀ h,h ≠ who ds k → (mst ds (k + 1)).tab h = (mst ds k).tab h:=fun h hne=>if_neg hne
  generalize (mst ds (k + 1)).tab = T' at eT eO ⊢
  refine Cal.perm (Cal.lp (τ:=⟨[("tables",.lst [.ref x0,.ref x1,.ref x2]),("draws",drawsA ds),("stroke",.str [s])],[("mails",.ref ML)],blk Hd s a (mst ds k).tab (who ds k) ++ ((ML,.list ((mst ds k).ms.map (mlA s))) :: (([2,1,0].erase (who ds k)).flatMap (blk Hd s a (mst ds k).tab) ++ σ.H))⟩) (.of ⟨rfl,rfl,rfl,trivial⟩ ⟨rfl,trivial⟩ (G:=[]) (by rw [List.append_nil];exact blk_perm _ _ _ _ _ _ hw)) ?_)
  have hhm:(heardM ds (mst ds k).ms k).length ≤ 5:=by unfold heardM;rw [List.length_map];exact hhl
  refine send_spec M Hd It (n:=n) hS hr' hgz bLen hs (t1 _) hL5 hhm (nm_nms ds k) h5' rfl (.tail _ (List.mem_append_right _ hP)) ?_
  rw [eM]
  have hRne:sendT ((mst ds k).tab (who ds k)) (heardM ds (mst ds k).ms k) (nmC ds k) ≠ []:=by unfold sendT setT;simp
  generalize sendT ((mst ds k).tab (who ds k)) (heardM ds (mst ds k).ms k) (nmC ds k) = R at hR eT hRne ⊢
  refine .mk _ (.trans (.of_eq (by rw [← eT];rfl)) (blk_back Hd s a (T:=(mst ds k).tab) (T':=T') σ.H (ML,.list ((mst ds k).ms.map (mlA s))) hw eO)) ?_
  (refine Sps.argN ?_)
  have hl3:=hR.len
  have hwl:=wds_len s R
  have hwn:wds s R ≠ []:=fun e=>by
   rw [e] at hwl
   have:=List.length_pos_iff.mpr hRne
   have h0:([]:List (List Nat × List Nat)).length = 0:=rfl
   lia
  refine split_spec Sh (n:=n + 3) hr' (fs:=_ :: fs) (by show c.frs.map _ = some (_ :: fs);rw [hfs];rfl) (k:=10) (ws:=(wds s R).map (·.1)) (jn_wds (wds_q hs hR) (by lia)) (by rw [List.length_map];lia) (spl_line _ _ (wds_rt hs hR) hwn (by lia)) ?_
  (refine Sto.cel1 (by rfl) (by rfl) (by kernel_rfl) ?_;refine Exs.cons ?_;refine Ex.expr (by rfl) (by rfl) ?_;refine Ev.cM ⟨_,rfl⟩ (by rfl) ?_;refine Ev.cel (by rfl) (by rfl) (by rfl) ?_ (by kernel_rfl))
  refine ⟨_,HasM.append (.head _),?_⟩
  (refine Sps.argC (by rfl) ?_)
  refine Ev.lc (by rfl) ?_ (by kernel_rfl) (by kernel_rfl) (by rfl) (by intro _;rfl)
  (refine Ev.cT (by assumption) (by kernel_rfl) (by rfl) (by kernel_rfl) ?_;refine Sps.argC (by rfl) ?_;refine Ev.int ?_;refine Sps.argC (by rfl) ?_;refine Ev.cB (by assumption) (by kernel_rfl) (by rfl) (by kernel_rfl) ?_;refine Sps.argC (by rfl) ?_;refine Ev.cel (by rfl) (by rfl) (by rfl) ?_ (by kernel_rfl);refine Sps.argN ?_)
  have hWl:(((wds s R).map (·.1)).map AV.str).length = 2 * R.length:=by rw [List.length_map,List.length_map,hwl]
  refine Cal.lenL (.frz _) (by rw [hWl];lia) ?_
  rw [hWl]
  (refine Sps.argC (by rfl) ?_;refine Ev.int ?_;refine Sps.argN ?_)
  refine Cal.range3 (by decide) (PyProof.noPylong_small (by decide)) ?_
  refine ⟨_,Itb.rng _ _ _ (smallT hl3),Turns.lst (prF s R) ?_ ?_ ?_⟩
  ·intro C G2 acc y hy
   obtain ⟨j,hj,rfl⟩:=List.mem_map.mp hy
   rw [List.mem_range,rsT hl3] at hj
   obtain ⟨w1,w2⟩:=wds_at s hj
   rw [show (0:Int) + (j:Int) * 2 = ((2 * j:Nat):Int) by lia]
   (refine Asn.name ?_;refine Sto.loc1 (by rfl) ?_;refine Ifs.nil ?_;refine ite_T (by rfl) ?_)
   refine Ev.tup ?_
   (refine Sps.argC (by rfl) ?_;refine Ev.sub ?_;refine Ev.cel (by rfl) (by rfl) (by rfl) ?_ (by kernel_rfl);walk_at "j1")
   refine I.listN (by intros;with_unfolding_all rfl) (.frz _) w1 (sl _ (by rw [hWl];lia)) ?_
   (refine Sps.argC (by rfl) ?_;refine Ev.sub ?_;refine Ev.cel (by rfl) (by rfl) (by rfl) ?_ (by kernel_rfl);refine Ev.binop ?_;walk_at "j1";refine Ev.int ?_;refine O.add ?_)
   rw [show ((2 * j:Nat):Int) + 1 = ((2 * j + 1:Nat):Int) from rfl]
   refine I.listN (by intros;with_unfolding_all rfl) (.frz _) w2 (sl _ (by rw [hWl];lia)) ?_
   (refine Sps.argN ?_)
   refine ⟨Nat.le_of_ble_eq_true rfl,?_,.mm trivial rfl rfl⟩
   show (R[((2 * j:Nat):Int).toNat / 2]?).map _ = _
   rw [Int.toNat_natCast,Nat.mul_div_cancel_left j (by decide),List.getElem?_eq_getElem hj]
   rfl
  ·exact sl _ (by rw [List.length_map,List.length_range,rsT hl3];exact Nat.le_trans hl3 (by decide))
  intro G2
  refine .lst G2 _ [] _ rfl rfl ?_
  rw [pr_all s R hl3]
  (refine Sps.argN ?_)
  refine Cal.append (pre:=[]) rfl (s5m (by rw [hms];exact Nat.le_trans (Nat.le_of_lt hk) h5)) ?_
  (refine Exs.nil ?_)
  refine .of ⟨rfl,rfl,rfl,trivial⟩ ⟨rfl,trivial⟩ ?_
  rw [List.map_append]
  rfl
 ·rw [List.length_map,List.length_range] at l
  refine Go.weakP (Lf.le l) ?_
  refine Go.frzLc "mails" rfl (pre:=[]) rfl ?_
  (refine Exs.cons ?_;refine Ex.ret ?_;refine Ev.cel (by rfl) (by rfl) (by rfl) ?_ (by kernel_rfl))
  exact .mk σ ⟨fun _ _ e=>e,fun _ _ e=>e,List.sublist_append_right _ _⟩ h
end
end
section
set_option maxRecDepth 100000
noncomputable def sg01:List Nat:=44 :: strokes
noncomputable def spec7:List Nat:=[46,94,36,42,43,63,123,125,91,93,124,40,41]
noncomputable def E1 (l:List Nat):List Nat:=l.flatMap esc
theorem b1:∀ x ∈ sg01,(x ≠ 42 ∧ x ≠ 63 ∧ x ≠ 91) ∧ (okS [x] = true ∧ okS (esc x) = true) ∧ ((esc x = [x] ∧ x ≠ 92 ∧ x ∉ spec7) ∨ esc x = [92,x]) ∧ (62 ∉ esc x ∧ 42 ∉ esc x ∧ (esc x).length ≤ 2):=by decide +kernel
noncomputable def Sg (l:List Nat):Prop:=∀ x ∈ l,x ∈ sg01
theorem sg_app {a b:List Nat} (h:Sg a) (h2:Sg b):Sg (a ++ b):=fun x hx=>(List.mem_append.mp hx).elim (h x) (h2 x)
theorem sg_rp {s n:Nat} (h:s ∈ strokes):Sg (rp s n):=fun x hx=>by rw [(List.mem_replicate.mp hx).2];exact .tail _ h
theorem sg_co:Sg [44]:=fun x hx=>by rw [List.mem_singleton.mp hx];exact .head _
theorem tr_plain:∀ {l:List Nat} (acc:List (Option (List Nat))),Sg l → l.foldl stepT acc = acc ++ l.map fun x=>some (esc x)
 | [],acc,_=>(List.append_nil _).symm
 | x :: l,acc,h=>by
  have hx:=(b1 x (h x (.head _))).1
  rw [List.foldl_cons,tr_plain _ fun y hy=>h y (.tail _ hy)]
  unfold stepT
  rw [if_neg hx.1,if_neg hx.2.1,List.append_assoc];rfl
theorem last_plain {acc:List (Option (List Nat))} {l:List Nat} (h:acc.getLast? ≠ some none):(acc ++ l.map fun x=>some (esc x)).getLast? ≠ some none:=by
 rw [List.getLast?_append]
 intro e
 cases hl:(l.map fun x=>some (esc x)).getLast? with
 | none=>rw [hl] at e;exact h e
 | some y=>
  rw [hl] at e
  obtain ⟨x,_,rfl⟩:=List.mem_map.mp (List.mem_of_getLast? hl)
  cases e
theorem tr3 {P R T:List Nat} (hP:Sg P) (hR:Sg R) (hT:Sg T) (hne:R ≠ []):trP (P ++ [42] ++ R ++ [42] ++ T) = (P.map fun x=>some (esc x)) ++ none :: ((R.map fun x=>some (esc x)) ++ none :: (T.map fun x=>some (esc x))):=by
 unfold trP
 rw [List.foldl_append,List.foldl_append,List.foldl_append,List.foldl_append,tr_plain _ hP]
 have s1:[42].foldl stepT ([] ++ P.map fun x=>some (esc x)) = ([] ++ P.map fun x=>some (esc x)) ++ [none]:=by
  show stepT _ 42 = _
  unfold stepT
  rw [if_pos rfl,if_neg (last_plain (fun h=>by cases h))]
 rw [s1,tr_plain _ hR]
 have s2:[42].foldl stepT ((([] ++ P.map fun x=>some (esc x)) ++ [none]) ++ R.map fun x=>some (esc x)) = ((([] ++ P.map fun x=>some (esc x)) ++ [none]) ++ R.map fun x=>some (esc x)) ++ [none]:=by
  show stepT _ 42 = _
  unfold stepT
  rw [if_pos rfl,if_neg ?_]
  cases hr:R with
  | nil=>exact absurd hr hne
  | cons x r=>
   intro e
   rw [List.getLast?_append] at e
   cases hl:((x :: r).map fun x=>some (esc x)).getLast? with
   | none=>rw [List.getLast?_eq_none_iff] at hl;cases hl
   | some y=>
    rw [hl] at e
    obtain ⟨x,_,rfl⟩:=List.mem_map.mp (List.mem_of_getLast? hl)
    cases e
 rw [s2,tr_plain _ hT]
 simp
theorem split_app (r:List (Option (List Nat))):∀ l:List Nat,splitP ((l.map fun x=>some (esc x)) ++ r) = (l.map esc ++ (splitP r).1,(splitP r).2)
 | []=>rfl
 | x :: l=>by
  show (let (h,b):=splitP ((l.map fun x=>some (esc x)) ++ r);(esc x :: h,b)) = _
  rw [split_app r l];rfl
theorem split3 (P R T:List Nat):splitP ((P.map fun x=>some (esc x)) ++ none :: ((R.map fun x=>some (esc x)) ++ none :: (T.map fun x=>some (esc x)))) = (P.map esc,[R.map esc,T.map esc]):=by
 have hT:splitP (T.map fun x=>some (esc x)) = (T.map esc,[]):=by
  have:=split_app [] T
  rw [List.append_nil] at this
  rw [this]
  show (T.map esc ++ [],_) = _
  rw [List.append_nil];rfl
 have hN:splitP (none :: (T.map fun x=>some (esc x))) = ([],[T.map esc]):=by
  show (let (h,b):=splitP (T.map fun x=>some (esc x));([],h :: b)) = _
  rw [hT]
 have hR:splitP (none :: ((R.map fun x=>some (esc x)) ++ none :: (T.map fun x=>some (esc x)))) = ([],[R.map esc,T.map esc]):=by
  show (let (h,b):=splitP ((R.map fun x=>some (esc x)) ++ none :: (T.map fun x=>some (esc x)));([],h :: b)) = _
  rw [split_app,hN]
  show ([],(R.map esc ++ []) :: _) = _
  rw [List.append_nil]
 rw [split_app,hR]
 show (P.map esc ++ [],_) = _
 rw [List.append_nil]
noncomputable def txt01 (P R T:List Nat):List Nat:=([40,63,115,58] ++ E1 P) ++ [40,63,62,46,42,63] ++ ((E1 R) ++ [41,46,42] ++ (E1 T ++ [41,92,90]))
noncomputable def pat01 (P R T:List Nat):List Nat:=P ++ [42] ++ R ++ [42] ++ T
theorem e1_flat (l:List Nat):(l.map esc).flatten = E1 l:=rfl
theorem trans3 {P R T:List Nat} (hP:Sg P) (hR:Sg R) (hT:Sg T) (hne:R ≠ []):translateP (pat01 P R T) = txt01 P R T:=by
 unfold translateP pat01
 rw [tr3 hP hR hT hne,split3]
 show jtpP (P.map esc) [R.map esc,T.map esc] = _
 unfold jtpP
 rw [endP_cons]
 have hE:(endP [T.map esc]).flatten = [46,42] ++ E1 T:=by
  cases T with
  | nil=>rfl
  | cons x T=>
   show ([46,42] ++ (((x :: T).map esc).flatten ++ [])) = _
   rw [List.append_nil];rfl
 rw [List.flatten_append,List.flatten_cons,hE,e1_flat,e1_flat]
 unfold grpP txt01
 simp
theorem e1_len {l:List Nat} (h:Sg l):(E1 l).length ≤ 2 * l.length:=by
 unfold E1
 induction l with
 | nil=>exact Nat.le_refl _
 | cons x l ih=>
  have h1:=(b1 x (h x (.head _))).2.2.2.2.2
  have h2:=ih fun y hy=>h y (.tail _ hy)
  rw [List.flatMap_cons,List.length_append,List.length_cons]
  lia
theorem ok_app {a b:List Nat} (h:okS a = true) (h2:okS b = true):okS (a ++ b) = true:=by
 unfold okS at *
 rw [List.all_append,h,h2];rfl
theorem e1_ok {l:List Nat} (h:Sg l):okS (E1 l) = true:=by
 unfold E1
 induction l with
 | nil=>rfl
 | cons x l ih=>
  rw [List.flatMap_cons]
  exact ok_app (b1 x (h x (.head _))).2.1.2 (ih fun y hy=>h y (.tail _ hy))
theorem sg_ok {l:List Nat} (h:Sg l):okS l = true:=by
 induction l with
 | nil=>rfl
 | cons x l ih=>exact ok_app (a:=[x]) (b1 x (h x (.head _))).2.1.1 (ih fun y hy=>h y (.tail _ hy))
theorem txt_ok {P R T:List Nat} (hP:Sg P) (hR:Sg R) (hT:Sg T):okS (txt01 P R T) = true:=
 ok_app (ok_app (ok_app (by decide) (e1_ok hP)) (by decide)) (ok_app (ok_app (e1_ok hR) (by decide)) (ok_app (e1_ok hT) (by decide)))
theorem txt_len {P R T:List Nat} (hP:Sg P) (hR:Sg R) (hT:Sg T):(txt01 P R T).length ≤ 2 * (P.length + R.length + T.length) + 20:=by
 have h1:=e1_len hP
 have h2:=e1_len hR
 have h3:=e1_len hT
 unfold txt01
 simp only [List.length_append,List.length_cons,List.length_nil]
 lia
theorem patOk3 {P R T:List Nat} (hP:Sg P) (hR:Sg R) (hT:Sg T) (hne:R ≠ []) (hl:P.length + R.length + T.length ≤ 100):PatOk (pat01 P R T) where
 ok:=ok_app (ok_app (ok_app (ok_app (sg_ok hP) (by decide)) (sg_ok hR)) (by decide)) (sg_ok hT)
 br:=fun h=>by
  unfold pat01 at h
  simp only [List.mem_append,List.mem_singleton] at h
  rcases h with (((h | h) | h) | h) | h
  ·exact (b1 _ (hP _ h)).1.2.2 rfl
  ·exact absurd h (by decide)
  ·exact (b1 _ (hR _ h)).1.2.2 rfl
  ·exact absurd h (by decide)
  ·exact (b1 _ (hT _ h)).1.2.2 rfl
 len:=by unfold pat01;simp only [List.length_append,List.length_cons,List.length_nil];lia
 bl:=by
  unfold pat01
  rw [tr3 hP hR hT hne,split3]
  exact ⟨fun e=>hne (List.map_eq_nil_iff.mp e),trivial⟩
 outLen:=by rw [trans3 hP hR hT hne];have:=txt_len hP hR hT;lia
 outOk:=by rw [trans3 hP hR hT hne];exact txt_ok hP hR hT
theorem e1_no {l:List Nat} (h:Sg l):62 ∉ E1 l ∧ 42 ∉ E1 l:=by
 constructor
 ·intro hm
  obtain ⟨x,hx,hm⟩:=List.mem_flatMap.mp hm
  exact (b1 x (h x hx)).2.2.2.1 hm
 ·intro hm
  obtain ⟨x,hx,hm⟩:=List.mem_flatMap.mp hm
  exact (b1 x (h x hx)).2.2.2.2.1 hm
theorem one_place {A y1 y2 B:List Nat} {z:Nat} (hA:z ∉ A) (hB:z ∉ B) (h1:z ∉ y1) (h2:z ∉ y2):∀ i,i + (y1 ++ z :: y2).length ≤ (A ++ (y1 ++ z :: y2) ++ B).length → (((A ++ (y1 ++ z :: y2) ++ B).drop i).take (y1 ++ z :: y2).length = y1 ++ z :: y2 ↔ i = A.length):=by
 intro i hi
 constructor
 ·intro h
  have hz:(A ++ (y1 ++ z :: y2) ++ B)[i + y1.length]? = some z:=by
   have:=congrArg (fun l=>l[y1.length]?) h
   rw [List.getElem?_take,if_pos (by simp),List.getElem?_drop] at this
   rw [this,List.getElem?_append_right (Nat.le_refl _),Nat.sub_self];rfl
  rw [show A ++ (y1 ++ z :: y2) ++ B = (A ++ y1) ++ z :: (y2 ++ B) by simp] at hz
  rcases Nat.lt_trichotomy (i + y1.length) (A ++ y1).length with hlt | he | hgt
  ·rw [List.getElem?_append_left hlt] at hz
   rcases List.mem_append.mp (List.mem_of_getElem? hz) with h | h
   ·exact absurd h hA
   ·exact absurd h h1
  ·rw [List.length_append] at he;lia
  ·rw [List.getElem?_append_right (Nat.le_of_lt hgt)] at hz
   obtain ⟨m,hm⟩:∃ m,i + y1.length - (A ++ y1).length = m + 1:=⟨_,(Nat.sub_add_cancel (Nat.sub_pos_of_lt hgt)).symm⟩
   rw [hm,List.getElem?_cons_succ] at hz
   rcases List.mem_append.mp (List.mem_of_getElem? hz) with h | h
   ·exact absurd h h2
   ·exact absurd h hB
 ·rintro rfl
  rw [List.append_assoc,List.drop_left,List.take_left]
noncomputable def plS (st:List Nat × Bool) (x:Nat):Option (List Nat × Bool):=if st.2 = true ∧ x = 92 then some (st.1,false) else if st.2 = true ∧ x ∈ spec7 then none else some (st.1 ++ [x],true)
noncomputable def plR:List Nat → List Nat × Bool → Option (List Nat × Bool)
 | [],st=>some st
 | x :: l,st=>(plS st x).bind (plR l)
theorem plR_app:∀ (a b:List Nat) (st:List Nat × Bool),plR (a ++ b) st = (plR a st).bind (plR b)
 | [],b,st=>rfl
 | x :: a,b,st=>by
  rw [List.cons_append,plR,plR]
  cases plS st x with
  | none=>rfl
  | some s=>exact plR_app a b s
theorem plR_len:∀ (l:List Nat) (st u:List Nat × Bool),plR l st = some u → u.1.length ≤ st.1.length + l.length:=by
  intro l
  induction l with
  | nil=>intro st u h;cases h;simp
  | cons x l ih=>
   intro st u h
   rw [plR] at h
   unfold plS at h
   split at h
   ·exact Nat.le_trans (ih _ _ h) (Nat.add_le_add_left (Nat.le_succ _) _)
   ·split at h
    ·cases h
    ·have:=ih _ _ h
     rw [List.length_append,List.length_singleton,Nat.add_assoc,Nat.add_comm 1] at this
     exact this
theorem take_succ_of {α:Type} {l:List α} {n:Nat} {x:α} {r:List α} (h:l = l.take n ++ x :: r):l.take (n + 1) = l.take n ++ [x]:=by
 rw [List.take_add_one]
 congr 1
 have hn:n ≤ l.length:=Decidable.byContradiction fun hh=>by
  have h2:=congrArg List.length h
  rw [List.take_of_length_le (by lia)] at h2
  simp at h2
 have h3:=congrArg (fun k=>k[n]?) h
 rw [List.getElem?_append_right (by rw [List.length_take];exact Nat.min_le_left _ _),List.length_take,Nat.min_eq_left hn,Nat.sub_self] at h3
 rw [h3];rfl
theorem plR_E:∀ {l:List Nat} (acc:List Nat),Sg l → plR (E1 l) (acc,true) = some (acc ++ l,true)
 | [],acc,_=>by rw [List.append_nil];rfl
 | x :: l,acc,h=>by
  have hx:=b1 x (h x (.head _))
  have ih:=plR_E (l:=l) (acc ++ [x]) fun y hy=>h y (.tail _ hy)
  show plR (esc x ++ E1 l) _ = _
  rw [plR_app]
  have e:plR (esc x) (acc,true) = some (acc ++ [x],true):=by
   rcases hx.2.2.1 with ⟨e,n1,n2⟩ | e
   ·rw [e]
    show (if true = true ∧ x = 92 then _ else if true = true ∧ x ∈ spec7 then _ else _:Option _).bind _ = _
    rw [if_neg fun h=>n1 h.2,if_neg fun h=>n2 h.2];rfl
   ·rw [e];rfl
  rw [e]
  show plR (E1 l) (acc ++ [x],true) = _
  rw [ih,List.append_assoc];rfl
noncomputable def tP (s w a b c:Nat):List Nat:=if w = 0 then rp s a ++ [44] ++ rp s b else rp s a
noncomputable def tR (s w a b c:Nat):List Nat:=if w = 0 then [44] ++ rp s c else if w = 1 then [44] ++ rp s b ++ [44] ++ rp s c else [44] ++ rp s b
noncomputable def tT (s w a b c:Nat):List Nat:=if w = 2 then [44] ++ rp s c else []
noncomputable def ptx (s w x n:Nat):List Nat:=rp s n ++ if x = w then [] else [42]
theorem jn3 (x y z:List Nat):jn [44] [x,y,z] = x ++ [44] ++ (y ++ [44] ++ z):=rfl
theorem pat_eq {s w a b c:Nat} (hw:w < 3):jn [44] [ptx s w 0 a,ptx s w 1 b,ptx s w 2 c] = pat01 (tP s w a b c) (tR s w a b c) (tT s w a b c):=by
 rw [jn3]
 unfold pat01 tP tR tT ptx
 match w,hw with
 | 0,_=>simp
 | 1,_=>simp
 | 2,_=>simp
theorem tR_ne (s w a b c:Nat):tR s w a b c ≠ []:=by
 unfold tR
 split
 ·exact List.cons_ne_nil _ _
 ·split <;> exact List.cons_ne_nil _ _
theorem sg_t {s:Nat} (hs:s ∈ strokes) (w a b c:Nat):Sg (tP s w a b c) ∧ Sg (tR s w a b c) ∧ Sg (tT s w a b c):=by
 have h:∀ n,Sg (rp s n):=fun n=>sg_rp hs
 unfold tP tR tT
 refine ⟨?_,?_,?_⟩
 ·split
  ·exact sg_app (sg_app (h _) sg_co) (h _)
  ·exact h _
 ·split
  ·exact sg_app sg_co (h _)
  ·split
   ·exact sg_app (sg_app (sg_app sg_co (h _)) sg_co) (h _)
   ·exact sg_app sg_co (h _)
 ·split
  ·exact sg_app sg_co (h _)
  ·intro x hx;cases hx
theorem t_len {s w a b c:Nat} (ha:a ≤ 5) (hb:b ≤ 5) (hc:c ≤ 5):(tP s w a b c).length ≤ 11 ∧ (tR s w a b c).length ≤ 12 ∧ (tT s w a b c).length ≤ 6:=by
 have h:∀ n,(rp s n).length = n:=fun n=>List.length_replicate
 unfold tP tR tT
 refine ⟨?_,?_,?_⟩
 ·split <;> simp only [List.length_append,List.length_cons,List.length_nil,h] <;> lia
 ·split
  ·simp only [List.length_append,List.length_cons,List.length_nil,h];lia
  ·split <;> simp only [List.length_append,List.length_cons,List.length_nil,h] <;> lia
 ·split <;> simp only [List.length_append,List.length_cons,List.length_nil,h] <;> lia
theorem tk10 {α:Type} {l:List α} {k:Nat} (h:l.length ≤ 5):(l.take k).length ≤ 10:=Nat.le_trans (List.length_take_le' _ _) (Nat.le_trans h (by decide))
theorem z3:∀ z ∈ ([112,113,114]:List Nat),z ∈ nms ∧ 112 ≤ z:=by decide
theorem z112 {z w:Nat} (h:112 ≤ z):z = 112 + w ↔ z - 112 = w:=(Nat.sub_eq_iff_eq_add' h).symm
theorem e1a {l:List Nat} {k:Nat} (h:l.length ≤ k) (hk:k ≤ 100):(l ++ [41,92,90]).length ≤ sizeLine:=by
 rw [List.length_append]
 exact s1k (Nat.le_trans (Nat.add_le_add_right (Nat.le_trans h hk) 3) (by decide))
theorem e1b {l:List Nat} {k:Nat} (h:l.length ≤ k) (hk:k ≤ 100):(([40,63,115,58]:List Nat) ++ l).length ≤ sizeLine:=by
 rw [List.length_append]
 exact s1k (Nat.le_trans (Nat.add_le_add_left (Nat.le_trans h hk) 4) (by decide))
end
section
set_option maxHeartbeats 0
set_option maxRecDepth 20000
section
variable {W₀:Wld} {c:Cx W₀} {σ:St} {Q:AV → St → Prop}
theorem plain_spec {f:Addr} {n:Nat} (hf:Def W₀ f F_plain .none .none) (hr:c.Room (n + 1)) {e r:List Nat} {z:Bool} (hl:e.length ≤ 1000) (hp:plR e ([],true) = some (r,z)) (h:Q (.str r) σ):Cal c (.ref f) [.str e] [] σ Q:=by
 refine call_def (bas:=[("piece",.str e)]) hf hr (fun q doc pm code=>?_) (by kernel_rfl) (by kernel_rfl) (by kernel_rfl) [("piece",.str e)] [] (by kernel_rfl) (by kernel_rfl) fun q doc pm code hfn L=>?_
 ·exact Bind.pos (ns:=["piece"]) rfl (all1 fun v=>by kernel_rfl)
 have hr':(funCx c hfn L).Room n:=hr.fn hfn L
 refine Exs.cons ?_
 (refine Ex.asg1 (by rfl) ?_;refine Ev.str1 (by decide +kernel) ?_;refine Sto.loc1 (by rfl) ?_;refine Exs.cons ?_;refine Ex.asg1 (by rfl) ?_;refine Ev.bool1 ?_;refine Sto.loc1 (by rfl) ?_;refine Exs.cons ?_;refine Ex.for1 (by intro _ ;rfl) ?_;walk_at "j1")
 refine ⟨_,Itb.str _,fun pre=>⟨[("plain",.str ((plR (e.take pre.length) ([],true)).getD ([],true)).1),("bare",.bool ((plR (e.take pre.length) ([],true)).getD ([],true)).2),("piece",.str e)],[],σ.H⟩,.of ⟨rfl,rfl,rfl,trivial⟩ trivial rfl,fun pre y post ep=>?_,?_⟩
 ·obtain ⟨x,ex,rfl,_⟩:=at_pre ep
  have e1:e.take (pre.length + 1) = e.take pre.length ++ [x]:=take_succ_of ex
  obtain ⟨⟨p,b⟩,u,h1,h2⟩:∃ st u,plR (e.take pre.length) ([],true) = some st ∧ plS st x = some u:=by
   rw [ex,plR_app] at hp
   cases h1:plR (e.take pre.length) ([],true) with
   | none=>rw [h1] at hp;cases hp
   | some st=>
    rw [h1,Option.bind_some,plR] at hp
    cases h2:plS st x with
    | none=>rw [h2] at hp;cases hp
    | some u=>exact ⟨st,u,rfl,h2⟩
  have h3:plR (e.take (pre ++ [AV.str [x]]).length) ([],true) = some u:=by
   rw [List.length_append,List.length_singleton,e1,plR_app,h1,Option.bind_some,plR,h2];rfl
  have hpl:=plR_len _ _ _ h1
  rw [List.length_take] at hpl
  rw [h1,h3]
  simp only [Option.getD_some,List.length_nil,Nat.zero_add] at hpl ⊢
  (refine Asn.name ?_;refine Sto.loc1 (by rfl) ?_;refine Exs.cons ?_;refine Ex.ifs ?_;refine Tr.and2 ?_;refine Tr.val1 (by rfl) ?_;walk_at "j1";refine T.bool ?_)
  cases b with
  | false=>
   unfold plS at h2
   rw [if_neg (fun h=>Bool.false_ne_true h.1),if_neg (fun h=>Bool.false_ne_true h.1)] at h2
   cases h2
   (refine ite_N (by rfl) ?_;refine ite_N (by rfl) ?_;refine Exs.cons ?_;refine Ex.ifs ?_;refine Tr.and2 ?_;refine Tr.val1 (by rfl) ?_;walk_at "j1";refine T.bool ?_;refine ite_N (by rfl) ?_;refine ite_N (by rfl) ?_;refine Exs.cons ?_;refine Ex.aug ?_;refine Ld.loc (by rfl) (by rfl) ?_;walk_at "j1")
   refine O.iaddS (sl _ (by simp;lia)) ?_
   (refine Sto.loc1 (by rfl) ?_;refine Exs.cons ?_;refine Ex.asg1 (by rfl) ?_;refine Ev.bool1 ?_;refine Sto.loc1 (by rfl) ?_;refine Exs.nil ?_;refine Exs.nil ?_;refine Exs.nil ?_)
   exact .of ⟨rfl,rfl,rfl,trivial⟩ trivial rfl
  | true=>
   (refine ite_T (by rfl) ?_;refine Tr.cmp1 (by with_unfolding_all rfl) ?_;walk_at "j1";refine Ev.str1 (by decide +kernel) ?_;refine O.eqS ?_;refine T.bool ?_)
   by_cases h92:x = 92
   ·subst h92
    unfold plS at h2
    rw [if_pos ⟨rfl,rfl⟩] at h2
    cases h2
    refine ite_T (by kernel_rfl) ?_
    (refine Exs.cons ?_;refine Ex.asg1 (by rfl) ?_;refine Ev.bool1 ?_;refine Sto.loc1 (by rfl) ?_;refine Exs.nil ?_;refine Exs.nil ?_)
    exact .of ⟨rfl,rfl,rfl,trivial⟩ trivial rfl
   ·unfold plS at h2
    rw [if_neg (fun h=>h92 h.2)] at h2
    refine ite_F (by rw [show (PySem.Str.ofString "\\").cps.toList = [92] by kernel_rfl];simpa using h92) ?_
    (refine Exs.cons ?_;refine Ex.ifs ?_;refine Tr.and2 ?_;refine Tr.val1 (by rfl) ?_;walk_at "j1";refine T.bool ?_;refine ite_T (by rfl) ?_;refine Tr.cmp1 (by with_unfolding_all rfl) ?_;walk_at "j1";refine Ev.str1 (by decide +kernel) ?_;refine O.inS ?_;refine T.bool ?_)
    rw [show (PySem.Str.ofString ".^$*+?{}[]|()").cps.toList = spec7 by kernel_rfl,has_sign]
    by_cases hs:x ∈ spec7
    ·rw [if_pos ⟨rfl,hs⟩] at h2;cases h2
    ·rw [if_neg (fun h=>hs h.2)] at h2
     cases h2
     refine ite_F (by simpa using hs) ?_
     (refine Exs.cons ?_;refine Ex.aug ?_;refine Ld.loc (by rfl) (by rfl) ?_;walk_at "j1")
     refine O.iaddS (sl _ (by simp;lia)) ?_
     (refine Sto.loc1 (by rfl) ?_;refine Exs.cons ?_;refine Ex.asg1 (by rfl) ?_;refine Ev.bool1 ?_;refine Sto.loc1 (by rfl) ?_;refine Exs.nil ?_;refine Exs.nil ?_;refine Exs.nil ?_)
     exact .of ⟨rfl,rfl,rfl,trivial⟩ trivial rfl
 ·try dsimp only
  rw [List.length_map,List.take_length,hp]
  (refine Exs.cons ?_;refine Ex.ret ?_;walk_at "j1")
  exact h
theorem kind_y {y:List Nat} (h1:PySem.Builtin.Str.strKind (mkS y) = 1) (l:List Nat):decide (PySem.Builtin.Str.strKind (mkS l) < PySem.Builtin.Str.strKind (mkS y)) = false:=by
 rw [h1]
 refine decide_eq_false (Nat.not_lt.mpr ?_)
 unfold PySem.Builtin.Str.strKind
 split
 ·exact Nat.le_refl _
 ·split <;> decide
theorem slcInit {α:Type} (a z:List α) {j:Int} (hj:j = -(z.length:Int)) (hz:0 < z.length):slc (a ++ z) none (some j) = a:=by
 subst hj
 unfold slc
 have e1:clipI (a ++ z).length (a ++ z).length (some (-(z.length:Int))) = a.length:=by rw [List.length_append];exact clipM _ _ hz
 rw [e1]
 show (((a ++ z).drop 0).take ((a.length:Int) - 0).toNat) = a
 rw [List.drop_zero,Int.sub_zero,Int.toNat_natCast,List.take_left]
noncomputable def ptF (s w:Nat) (t:Tab) (a:AV):Option AV:=match a with
 | .str [x]=>some (.str (ptx s w (x - 112) (getT t x)))
 | _=>none
theorem pt_all (s w:Nat) (t:Tab):((([112,113,114]:List Nat).map fun x=>AV.str [x]).filterMap (ptF s w t)) = ([ptx s w 0 (getT t 112),ptx s w 1 (getT t 113),ptx s w 2 (getT t 114)]:List (List Nat)).map .str:=rfl
noncomputable def tstA (s w:Nat) (t:Tab):AV:=.tup [.str [112 + w],.str (tP s w (getT t 112) (getT t 113) (getT t 114)),.str (tR s w (getT t 112) (getT t 113) (getT t 114)),.str (tT s w (getT t 112) (getT t 113) (getT t 114))]
theorem test_spec (Hd:HdM W₀) (It:HdI W₀ Hd) (Fn:FnM W₀) (gTr:gN W₀ "translate" (.ref Fn.aTranslate)) {f fP:Addr} {n:Nat} (hf:Def W₀ f F_test .none .none) (hP:Def W₀ fP F_plain .none .none) (gP:gN W₀ "_law_plain" (.ref fP)) (hr:c.Room (n + 10)) {s w nm v:Nat} {t t0:Tab} (hs:s ∈ strokes) (hw:w < 3) (ht:TabOk t) (hl:t = t0 ++ [(nm,v)]) (hn:lo1 nm = 112 + w)
  (h:Q (tstA s w t) σ):Cal c (.ref f) [mlA s t] [] σ Q:=by
 refine Cal.weak ?_
 refine call_def (bas:=[("mail",mlA s t)]) hf hr (fun q doc pm code=>?_) (by kernel_rfl) (by kernel_rfl) (by kernel_rfl) [("mail",mlA s t)] [] (by kernel_rfl) (by kernel_rfl) fun q doc pm code hfn L=>?_
 ·exact Bind.pos (ns:=["mail"]) rfl (all1 fun v=>by kernel_rfl)
 have hr':(funCx c hfn L).Room (n + 9):=hr.fn hfn L
 refine Exs.cons ?_
 (refine Ex.asg1 (by rfl) ?_)
 have e0:∀ q ∈ encT s t,HdOk q.1 ∧ HdOk q.2:=fun q hq=>by
  obtain ⟨r,hr,rfl⟩:=List.mem_map.mp hq
  obtain ⟨h1,h2⟩:=ht.ok r hr
  exact ⟨hdOk_nm h1,hdOk_row hs h2⟩
 refine Ev.cF Hd.gHd (Cee.cls Hd.kHd) (by kernel_rfl) (by rfl) (by kernel_rfl) ?_
 (refine Sps.argC (by rfl) ?_;refine Ev.loc (by rfl) (by first | rfl | assumption) ?_ (by kernel_rfl);refine Sps.argN ?_)
 refine hd_newF (n:=n + 6) Hd hr' e0 fun x dx=>?_
 (refine Sto.cel1 (by rfl) (by rfl) (by kernel_rfl) ?_;refine Exs.cons ?_;refine Ex.asg1 (by rfl) ?_;refine Ev.cM ⟨_,rfl⟩ (by rfl) ?_;refine Ev.sub ?_;refine Ev.sub ?_;walk_at "j1";refine Ev.una ?_;refine Ev.int ?_;refine O.neg ?_)
 have hlast:(encI (encT s t)).getLast? = some (.tup [.str [nm],.str (rp s v)]):=by
  rw [hl]
  unfold encI encT
  rw [List.map_append,List.map_append,List.getLast?_append];rfl
 have hnm:nm ∈ nms:=(ht.ok (nm,v) (by rw [hl];exact List.mem_append_right _ (.head _))).1
 have h6:=a6 _ hnm
 refine I.listLast (by intros;with_unfolding_all rfl) (.frz _) hlast ?_
 (refine Ev.int ?_)
 refine I.tupN (i:=0) (by intros;with_unfolding_all rfl) rfl (sl _ (Nat.le_of_ble_eq_true rfl)) ?_
 skip
 refine ⟨_,HasM.lower,?_⟩
 (refine Sps.argN ?_)
 refine Cal.lower (by rw [h6.2.1];exact sl _ (Nat.le_of_ble_eq_true rfl)) (by rw [h6.2.1];exact h6.2.2.1) ?_
 rw [h6.2.1,hn]
 (refine Sto.cel1 (by rfl) (by rfl) (by kernel_rfl) ?_;refine Exs.cons ?_;refine Ex.asg1 (by rfl) ?_)
 refine Ev.cF gTr Fn.hTranslate.cee (by kernel_rfl) (by rfl) (by kernel_rfl) ?_
 (refine Sps.argC (by rfl) ?_;refine Ev.cM ⟨_,rfl⟩ (by rfl) ?_;refine Ev.str1 (by decide +kernel) ?_)
 refine ⟨_,HasM.join,?_⟩
 (refine Sps.argC (by rfl) ?_)
 refine Ev.lc (by rfl) ?_ (by kernel_rfl) (by kernel_rfl) (by rfl) (by intro _;rfl)
 (refine Ev.str1 (by decide +kernel) ?_)
 rw [show (PySem.Str.ofString "pqr").cps.toList = [112,113,114] by kernel_rfl,show (PySem.Str.ofString ",").cps.toList = [44] by kernel_rfl]
 refine ⟨_,Itb.str _,Turns.lst (ptF s w t) ?_ ?_ ?_⟩
 ·intro C D acc y hy
  obtain ⟨z,hz,rfl⟩:=List.mem_map.mp hy
  have hzn:=(z3 z hz).1
  have hz112:z = 112 + w ↔ z - 112 = w:=z112 (z3 z hz).2
  have hz6:=a6 _ hzn
  have g5:=ht.get z
  have eF:ptF s w t (.str [z]) = some (.str (rp s (getT t z) ++ if z - 112 = w then [] else [42])):=rfl
  (refine Asn.name ?_;refine Sto.loc1 (by rfl) ?_;refine Ifs.nil ?_;refine ite_T (by rfl) ?_;refine Ev.binop ?_;refine Ev.cI ⟨_,rfl⟩ (by rfl) ?_;refine Ev.cel (by rfl) (by rfl) (by rfl) ?_ (by kernel_rfl))
  refine ⟨x,Hd.C,dx,_,Hd.fGe,rfl,⟨.tail _ (.head _),.tail _ (.tail _ (.head _))⟩,Hd.mGe,by rfl,Hd.hGe.cee,?_⟩
  (refine Sps.argC (by rfl) ?_;walk_at "j1";refine Sps.argC (by rfl) ?_;refine Ev.str1 (by decide +kernel) ?_;refine Sps.argN ?_)
  rw [show (PySem.Str.ofString "").cps.toList = [] by kernel_rfl]
  refine hd_getF (n:=n + 6) Hd (hr'.comp _ _ _) ⟨.tail _ (.head _),.tail _ (.tail _ (.head _))⟩ (by rw [hz6.2.1];exact hdOk_nm hz6.2.2.2.1) (by rw [hz6.2.1];exact hz6.2.2.1) (by rw [hz6.2.1];exact Nat.le_of_ble_eq_true rfl) (enc_ok ht) ?_
  rw [get_enc ht hzn]
  (refine Ev.ife ?_;refine Tr.cmp1 (by with_unfolding_all rfl) ?_;walk_at "j1";refine Ev.cel (by rfl) (by rfl) (by rfl) ?_ (by kernel_rfl);refine O.eqS ?_;refine T.bool ?_)
  rw [one_eq]
  by_cases hzw:z = 112 + w
  ·rw [if_pos (hz112.mp hzw)] at eF
   refine ite_T (beq_iff_eq.mpr hzw) ?_
   (refine Ev.str1 (by decide +kernel) ?_)
   rw [show (PySem.Str.ofString "").cps.toList = [] by kernel_rfl]
   refine O.addS (rp0 g5) ?_
   exact ⟨eF,.mm trivial rfl rfl⟩
  ·rw [if_neg fun e=>hzw (hz112.mpr e)] at eF
   refine ite_N (beq_eq_false_iff_ne.mpr hzw) ?_
   (refine Ev.str1 (by decide +kernel) ?_)
   rw [show (PySem.Str.ofString "*").cps.toList = [42] by kernel_rfl]
   refine O.addS (rp1 g5) ?_
   exact ⟨eF,.mm trivial rfl rfl⟩
 ·exact sl _ (Nat.le_of_ble_eq_true rfl)
 intro D
 refine .lst D _ [] _ rfl rfl ?_
 rw [pt_all]
 (refine Sps.argN ?_)
 have g0:=ht.get 112
 have g1:=ht.get 113
 have g2:=ht.get 114
 unfold tstA at h
 generalize getT t 112 = a at g0 h ⊢
 generalize getT t 113 = b at g1 h ⊢
 generalize getT t 114 = d at g2 h ⊢
 have hp:∀ x n,n ≤ 5 → (ptx s w x n).length ≤ 6:=fun x n h=>by
  unfold ptx rp
  rw [List.length_append,List.length_replicate]
  split
  ·show n + 0 ≤ 6;lia
  ·show n + 1 ≤ 6;lia
 refine Cal.join (.frz _) (joinOk_of ?_) ?_
 ·have h1:=hp 0 a g0
  have h2:=hp 1 b g1
  have h3:=hp 2 d g2
  simp only [List.map_cons,List.map_nil,List.sum_cons,List.sum_nil,List.length_cons,List.length_nil]
  lia
 rw [pat_eq hw]
 obtain ⟨sP,sR,sT⟩:=sg_t hs w a b d
 obtain ⟨lP,lR,lT⟩:=t_len (s:=s) (w:=w) g0 g1 g2
 have hne:=tR_ne s w a b d
 generalize tP s w a b d = P at sP lP h ⊢
 generalize tR s w a b d = R at sR lR hne h ⊢
 generalize tT s w a b d = Tz at sT lT h ⊢
 (refine Sps.argN ?_)
 refine translate_spec (n:=n + 6) Fn hr' (patOk3 sP sR sT hne (by lia)) ?_
 rw [trans3 sP sR sT hne]
 have htl:=txt_len sP sR sT
 have el1:=e1_len sP
 have el2:=e1_len sR
 have el3:=e1_len sT
 (refine Sto.loc1 (by rfl) ?_;refine Exs.cons ?_)
 refine Ex.asgT ?_ (by rfl) (by rfl) (by rfl)
 (refine Ev.cM ⟨_,rfl⟩ (by rfl) ?_;walk_at "j1")
 refine ⟨_,HasM.split,?_⟩
 (refine Sps.argC (by rfl) ?_;refine Ev.str1 (by decide +kernel) ?_;refine Sps.argN ?_)
 rw [show (PySem.Str.ofString "(?>.*?").cps.toList = [40,63] ++ 62 :: [46,42,63] by kernel_rfl]
 unfold txt01 at htl ⊢
 refine Cal.split1 (by simp) (kind_y (by decide +kernel) _) (one_place (y1:=[40,63]) (y2:=[46,42,63]) (z:=62) ?_ ?_ (by decide) (by decide)) (by exact Nat.le_trans htl (by lia)) ?_
 ·intro hm
  rcases List.mem_append.mp hm with hm | hm
  ·exact absurd hm (by decide)
  ·exact (e1_no sP).1 hm
 ·intro hm
  simp only [List.mem_append] at hm
  rcases hm with (hm | hm) | (hm | hm)
  ·exact (e1_no sR).1 hm
  ·exact absurd hm (by decide)
  ·exact (e1_no sT).1 hm
  ·exact absurd hm (by decide)
 refine Asn.tupL (.frz _) (by rfl) ?_
 refine Ord.cons ?_
 (refine Asn.name ?_;refine Sto.loc1 (by rfl) ?_)
 refine Ord.cons ?_
 (refine Asn.name ?_;refine Sto.loc1 (by rfl) ?_)
 refine Ord.nil ?_
 (refine Exs.cons ?_)
 refine Ex.asgT ?_ (by rfl) (by rfl) (by rfl)
 (refine Ev.cM ⟨_,rfl⟩ (by rfl) ?_;walk_at "j1")
 refine ⟨_,HasM.split,?_⟩
 (refine Sps.argC (by rfl) ?_;refine Ev.str1 (by decide +kernel) ?_;refine Sps.argN ?_)
 rw [show (PySem.Str.ofString ").*").cps.toList = [41,46] ++ 42 :: [] by kernel_rfl]
 refine Cal.split1 (by simp) (kind_y (by decide +kernel) _) (one_place (y1:=[41,46]) (y2:=[]) (z:=42) (e1_no sR).2 ?_ (by decide) (by decide)) (by simp only [List.length_append,List.length_cons,List.length_nil];lia) ?_
 ·intro hm
  rcases List.mem_append.mp hm with hm | hm
  ·exact (e1_no sT).2 hm
  ·exact absurd hm (by decide)
 refine Asn.tupL (.frz _) (by rfl) ?_
 refine Ord.cons ?_
 (refine Asn.name ?_;refine Sto.loc1 (by rfl) ?_)
 refine Ord.cons ?_
 (refine Asn.name ?_;refine Sto.loc1 (by rfl) ?_)
 refine Ord.nil ?_
 (refine Exs.cons ?_;refine Ex.ifs ?_;refine Tr.or2 ?_;refine Tr.cmp1 (by with_unfolding_all rfl) ?_;refine Ev.slc ?_;walk_at "j1";refine Bnd.no ?_;refine Bnd.yes ?_;refine Ev.int ?_;refine ⟨_,rfl,?_⟩)
 refine Sli.str1 (by intros;with_unfolding_all rfl) (e1b (Nat.le_trans el1 (Nat.mul_le_mul_left 2 lP)) (by decide)) ?_
 rw [show slc ([40,63,115,58] ++ E1 P) none (some 4) = [40,63,115,58] from slcHead _ _ rfl]
 (refine Ev.str1 (by decide +kernel) ?_;refine O.neS ?_;refine T.bool ?_;refine ite_N (by rfl) ?_;refine Tr.cmp1 (by with_unfolding_all rfl) ?_;refine Ev.slc ?_;walk_at "j1";refine Bnd.yes ?_;refine Ev.una ?_;refine Ev.int ?_;refine O.neg ?_;refine ⟨_,rfl,?_⟩;refine Bnd.no ?_)
 refine Sli.str1 (by intros;with_unfolding_all rfl) (e1a (Nat.le_trans el3 (Nat.mul_le_mul_left 2 lT)) (by decide)) ?_
 rw [show slc (E1 Tz ++ [41,92,90]) (some (-3)) none = [41,92,90] from slcEnd _ _ rfl (by decide)]
 (refine Ev.str1 (by decide +kernel) ?_;refine O.neS ?_;refine T.bool ?_;refine ite_N (by rfl) ?_;refine Exs.nil ?_;refine Exs.cons ?_;refine Ex.ret ?_)
 refine Ev.tup ?_
 (refine Sps.argC (by rfl) ?_;refine Ev.cel (by rfl) (by rfl) (by rfl) ?_ (by kernel_rfl);refine Sps.argC (by rfl) ?_)
 refine Ev.cF gP hP.cee (by kernel_rfl) (by rfl) (by kernel_rfl) ?_
 (refine Sps.argC (by rfl) ?_;refine Ev.slc ?_;walk_at "j1";refine Bnd.yes ?_;refine Ev.int ?_;refine ⟨_,rfl,?_⟩;refine Bnd.no ?_)
 refine Sli.str1 (by intros;with_unfolding_all rfl) (e1b (Nat.le_trans el1 (Nat.mul_le_mul_left 2 lP)) (by decide)) ?_
 rw [show slc ([40,63,115,58] ++ E1 P) (some 4) none = E1 P from slcRest _ _ rfl]
 (refine Sps.argN ?_)
 refine plain_spec (n:=n + 8) hP hr' (Nat.le_trans el1 (Nat.le_trans (Nat.mul_le_mul_left 2 lP) (by decide))) (plR_E [] sP) ?_
 (refine Sps.argC (by rfl) ?_)
 refine Ev.cF gP hP.cee (by kernel_rfl) (by rfl) (by kernel_rfl) ?_
 (refine Sps.argC (by rfl) ?_;refine Ev.loc (by rfl) (by first | rfl | assumption) ?_ (by kernel_rfl);refine Sps.argN ?_)
 refine plain_spec (n:=n + 8) hP hr' (Nat.le_trans el2 (Nat.le_trans (Nat.mul_le_mul_left 2 lR) (by decide))) (plR_E [] sR) ?_
 (refine Sps.argC (by rfl) ?_)
 refine Ev.cF gP hP.cee (by kernel_rfl) (by rfl) (by kernel_rfl) ?_
 (refine Sps.argC (by rfl) ?_;refine Ev.slc ?_;walk_at "j1";refine Bnd.no ?_;refine Bnd.yes ?_;refine Ev.una ?_;refine Ev.int ?_;refine O.neg ?_;refine ⟨_,rfl,?_⟩)
 refine Sli.str1 (by intros;with_unfolding_all rfl) (e1a (Nat.le_trans el3 (Nat.mul_le_mul_left 2 lT)) (by decide)) ?_
 rw [show slc (E1 Tz ++ [41,92,90]) none (some (-3)) = E1 Tz from slcInit _ _ rfl (by decide)]
 (refine Sps.argN ?_)
 refine plain_spec (n:=n + 8) hP hr' (Nat.le_trans el3 (Nat.le_trans (Nat.mul_le_mul_left 2 lT) (by decide))) (plR_E [] sT) ?_
 (refine Sps.argN ?_)
 refine ⟨sl _ (Nat.le_of_ble_eq_true rfl),?_⟩
 skip
 exact .mk σ ⟨fun _ _ e=>e,fun _ _ e=>e,List.sublist_append_right [_,_] σ.H⟩ h
end
end
section
set_option maxRecDepth 100000
theorem pre1 {s:Nat} (hs:s ≠ 44) (r:List Nat):∀ a x:Nat,rp s a <+: rp s x ++ 44 :: r ↔ a ≤ x
 | 0,x=>⟨fun _=>Nat.zero_le _,fun _=>List.nil_prefix⟩
 | a + 1,0=>by
  show s :: rp s a <+: 44 :: r ↔ _
  rw [List.cons_prefix_cons]
  exact ⟨fun h=>absurd h.1 hs,fun h=>absurd h (Nat.not_succ_le_zero _)⟩
 | a + 1,x + 1=>by
  show s :: rp s a <+: s :: (rp s x ++ 44 :: r) ↔ _
  rw [List.cons_prefix_cons,pre1 hs r a x]
  exact ⟨fun h=>Nat.succ_le_succ h.2,fun h=>⟨rfl,Nat.le_of_succ_le_succ h⟩⟩
theorem pre2 {s:Nat} (hs:s ≠ 44) (w r:List Nat):∀ a x:Nat,rp s a ++ 44 :: w <+: rp s x ++ 44 :: r ↔ a = x ∧ w <+: r
 | 0,0=>by
  show 44 :: w <+: 44 :: r ↔ _
  rw [List.cons_prefix_cons]
  exact ⟨fun h=>⟨rfl,h.2⟩,fun h=>⟨rfl,h.2⟩⟩
 | 0,x + 1=>by
  show 44 :: w <+: s :: (rp s x ++ 44 :: r) ↔ _
  rw [List.cons_prefix_cons]
  exact ⟨fun h=>absurd h.1.symm hs,fun h=>absurd h.1 (Nat.succ_ne_zero _).symm⟩
 | a + 1,0=>by
  show s :: (rp s a ++ 44 :: w) <+: 44 :: r ↔ _
  rw [List.cons_prefix_cons]
  exact ⟨fun h=>absurd h.1 hs,fun h=>absurd h.1 (Nat.succ_ne_zero _)⟩
 | a + 1,x + 1=>by
  show s :: (rp s a ++ 44 :: w) <+: s :: (rp s x ++ 44 :: r) ↔ _
  rw [List.cons_prefix_cons,pre2 hs w r a x]
  exact ⟨fun h=>⟨congrArg (· + 1) h.2.1,h.2.2⟩,fun h=>⟨rfl,Nat.succ.inj h.1,h.2⟩⟩
theorem pre3 {s:Nat}:∀ a x:Nat,rp s a <+: rp s x ↔ a ≤ x
 | 0,x=>⟨fun _=>Nat.zero_le _,fun _=>List.nil_prefix⟩
 | a + 1,0=>by
  show s :: rp s a <+: [] ↔ _
  exact ⟨fun h=>absurd (List.prefix_nil.mp h) (List.cons_ne_nil _ _),fun h=>absurd h (Nat.not_succ_le_zero _)⟩
 | a + 1,x + 1=>by
  show s :: rp s a <+: s :: rp s x ↔ _
  rw [List.cons_prefix_cons,pre3 a x]
  exact ⟨fun h=>Nat.succ_le_succ h.2,fun h=>⟨rfl,Nat.le_of_succ_le_succ h⟩⟩
theorem pre4 {s:Nat} (hs:s ≠ 44) (w:List Nat) (a x:Nat):¬ rp s a ++ 44 :: w <+: rp s x:=fun h=>by
 have:44 ∈ rp s x:=h.subset (List.mem_append_right _ (.head _))
 exact hs (List.mem_replicate.mp this).2.symm
theorem fst_skip {s:Nat} (hs:s ≠ 44) (m r:List Nat):∀ e i:Nat,fstAux (44 :: m) (rp s e ++ r) i = fstAux (44 :: m) r (i + e)
 | 0,i=>rfl
 | e + 1,i=>by
  show fstAux (44 :: m) (s :: (rp s e ++ r)) i = _
  rw [fstAux_cons,if_neg ?_,fst_skip hs m r e (i + 1),show i + 1 + e = i + (e + 1) by rw [Nat.add_assoc,Nat.add_comm 1 e]]
  intro h
  exact hs (List.head_eq_of_cons_eq (show s :: _ = 44 :: m from h))
theorem fst_none {s:Nat} (hs:s ≠ 44) (m:List Nat) (e i:Nat):fstAux (44 :: m) (rp s e) i = none:=by
 have:=fst_skip hs m [] e i
 rw [List.append_nil] at this
 rw [this,fstAux_nil,if_neg (List.cons_ne_nil _ _)]
theorem fst_comma (m r:List Nat) (i:Nat):fstAux (44 :: m) (44 :: r) i = if m <+: r then some i else fstAux (44 :: m) r (i + 1):=by
 rw [fstAux_cons]
 have key:((44 :: r).take (44 :: m).length = 44 :: m) ↔ m <+: r:=by
  rw [eq_comm,← List.prefix_iff_eq_take,List.cons_prefix_cons]
  exact ⟨fun h=>h.2,fun h=>⟨rfl,h⟩⟩
 by_cases h:m <+: r
 ·rw [if_pos h,if_pos (key.mpr h)]
 ·rw [if_neg h,if_neg fun h2=>h (key.mp h2)]
theorem suf1 {s:Nat} (hs:s ≠ 44) (A:List Nat) (c z:Nat):44 :: rp s c <:+ A ++ 44 :: rp s z ↔ c = z:=by
 rw [← List.reverse_prefix]
 have e:∀ n,(rp s n).reverse = rp s n:=fun n=>List.reverse_replicate
 rw [List.reverse_cons,List.reverse_append,List.reverse_cons,e,e,List.append_assoc]
 have:=pre2 hs [] A.reverse c z
 rw [show [44] ++ A.reverse = 44 :: A.reverse from rfl]
 rw [this]
 exact ⟨fun h=>h.1,fun h=>⟨h,List.nil_prefix⟩⟩
noncomputable def tkV (l H M T:List Nat):Bool:=decide (H <+: l) && match fnd l M H.length with
 | none=>false
 | some k=>decide (k + M.length + T.length ≤ l.length) && decide (T <:+ l)
noncomputable def ck (s x y z:Nat):List Nat:=rp s x ++ 44 :: (rp s y ++ 44 :: rp s z)
theorem rp_len (s n:Nat):(rp s n).length = n:=List.length_replicate
theorem ck_len (s x y z:Nat):(ck s x y z).length = x + y + z + 2:=by
 unfold ck
 simp only [List.length_append,List.length_cons,rp_len]
 lia
theorem rp_drop (s:Nat) {a x:Nat} (h:a ≤ x) (r:List Nat):(rp s x ++ r).drop a = rp s (x - a) ++ r:=by
 rw [List.drop_append_of_le_length (by rw [rp_len];exact h)]
 unfold rp
 rw [List.drop_replicate]
theorem tk0 {s:Nat} (hs:s ≠ 44) (a b c x y z:Nat):tkV (ck s x y z) (tP s 0 a b c) (tR s 0 a b c) (tT s 0 a b c) = decide (a = x ∧ b ≤ y ∧ c ≤ z):=by
 have eP:tP s 0 a b c = rp s a ++ 44 :: rp s b:=by unfold tP;rw [if_pos rfl,List.append_assoc];rfl
 have eR:tR s 0 a b c = 44 :: rp s c:=rfl
 have eT:tT s 0 a b c = []:=rfl
 unfold tkV
 rw [eP,eR,eT]
 have hp:(rp s a ++ 44 :: rp s b <+: ck s x y z) ↔ a = x ∧ b ≤ y:=by
  unfold ck
  rw [pre2 hs,pre1 hs]
 by_cases h:a = x ∧ b ≤ y
 ·rw [decide_eq_true (hp.mpr h),Bool.true_and]
  obtain ⟨rfl,hb⟩:=h
  have ed:(ck s a y z).drop (rp s a ++ 44 :: rp s b).length = rp s (y - b) ++ 44 :: rp s z:=by
   unfold ck
   rw [List.length_append,List.length_cons,rp_len,rp_len,show a + (b + 1) = (rp s a).length + (b + 1) by rw [rp_len],List.drop_length_add_append,List.drop_succ_cons,rp_drop s hb]
  unfold fnd
  rw [ed,if_pos (by rw [ck_len,List.length_append,List.length_cons,rp_len,rp_len];lia),fst_skip hs,fst_comma,fst_none hs]
  by_cases hc:c ≤ z
  ·rw [if_pos ((pre3 c z).mpr hc),decide_eq_true (show a = a ∧ b ≤ y ∧ c ≤ z from ⟨rfl,hb,hc⟩)]
   show (decide (_ ≤ _) && decide _) = true
   rw [decide_eq_true List.nil_suffix,Bool.and_true]
   refine decide_eq_true ?_
   rw [ck_len,List.length_append,List.length_cons,List.length_cons,rp_len,rp_len,rp_len,List.length_nil]
   lia
  ·rw [if_neg fun h=>hc ((pre3 c z).mp h)]
   exact (decide_eq_false fun h=>hc h.2.2).symm
 ·rw [decide_eq_false fun h2=>h (hp.mp h2),Bool.false_and]
  exact (decide_eq_false fun h2=>h ⟨h2.1,h2.2.1⟩).symm
theorem drop_ck (s:Nat) {a x:Nat} (h:a ≤ x) (y z:Nat):(ck s x y z).drop (rp s a).length = rp s (x - a) ++ 44 :: (rp s y ++ 44 :: rp s z):=by
 unfold ck
 rw [rp_len,rp_drop s h]
theorem tk1 {s:Nat} (hs:s ≠ 44) (a b c x y z:Nat):tkV (ck s x y z) (tP s 1 a b c) (tR s 1 a b c) (tT s 1 a b c) = decide (a ≤ x ∧ b = y ∧ c ≤ z):=by
 have eP:tP s 1 a b c = rp s a:=rfl
 have eR:tR s 1 a b c = 44 :: (rp s b ++ 44 :: rp s c):=by
  show [44] ++ rp s b ++ [44] ++ rp s c = _
  simp
 have eT:tT s 1 a b c = []:=rfl
 unfold tkV
 rw [eP,eR,eT]
 have hp:(rp s a <+: ck s x y z) ↔ a ≤ x:=by
  unfold ck
  rw [pre1 hs]
 by_cases h:a ≤ x
 ·rw [decide_eq_true (hp.mpr h),Bool.true_and]
  unfold fnd
  rw [drop_ck s h,if_pos (by rw [ck_len,rp_len];exact Nat.le_trans h (Nat.le_trans (Nat.le_add_right _ _) (Nat.le_trans (Nat.le_add_right _ _) (Nat.le_add_right _ _)))),fst_skip hs,fst_comma,fst_skip hs,fst_comma,if_neg (pre4 hs _ _ _),fst_none hs]
  by_cases hc:b = y ∧ c ≤ z
  ·rw [if_pos ((pre2 hs _ _ _ _).mpr ⟨hc.1,(pre3 c z).mpr hc.2⟩),decide_eq_true (show a ≤ x ∧ b = y ∧ c ≤ z from ⟨h,hc⟩)]
   show (decide (_ ≤ _) && decide _) = true
   rw [decide_eq_true List.nil_suffix,Bool.and_true]
   refine decide_eq_true ?_
   rw [ck_len,List.length_cons,List.length_append,List.length_cons,rp_len,rp_len,rp_len,List.length_nil]
   lia
  ·rw [if_neg fun h=>hc (by have:=(pre2 hs _ _ _ _).mp h;exact ⟨this.1,(pre3 c z).mp this.2⟩)]
   exact (decide_eq_false fun h=>hc h.2).symm
 ·rw [decide_eq_false fun h2=>h (hp.mp h2),Bool.false_and]
  exact (decide_eq_false fun h2=>h h2.1).symm
theorem tk2 {s:Nat} (hs:s ≠ 44) (a b c x y z:Nat):tkV (ck s x y z) (tP s 2 a b c) (tR s 2 a b c) (tT s 2 a b c) = decide (a ≤ x ∧ b ≤ y ∧ c = z):=by
 have eP:tP s 2 a b c = rp s a:=rfl
 have eR:tR s 2 a b c = 44 :: rp s b:=rfl
 have eT:tT s 2 a b c = 44 :: rp s c:=rfl
 unfold tkV
 rw [eP,eR,eT]
 have hp:(rp s a <+: ck s x y z) ↔ a ≤ x:=by
  unfold ck
  rw [pre1 hs]
 have hsu:(44 :: rp s c <:+ ck s x y z) ↔ c = z:=by
  unfold ck
  rw [show rp s x ++ 44 :: (rp s y ++ 44 :: rp s z) = (rp s x ++ 44 :: rp s y) ++ 44 :: rp s z by simp]
  exact suf1 hs _ c z
 by_cases h:a ≤ x
 ·rw [decide_eq_true (hp.mpr h),Bool.true_and]
  unfold fnd
  rw [drop_ck s h,if_pos (by rw [ck_len,rp_len];exact Nat.le_trans h (Nat.le_trans (Nat.le_add_right _ _) (Nat.le_trans (Nat.le_add_right _ _) (Nat.le_add_right _ _)))),fst_skip hs,fst_comma,fst_skip hs,fst_comma,fst_none hs]
  by_cases hb:b ≤ y
  ·rw [if_pos ((pre1 hs _ b y).mpr hb)]
   show (decide (_ ≤ _) && decide _) = _
   by_cases hc:c = z
   ·rw [decide_eq_true (hsu.mpr hc),Bool.and_true,decide_eq_true (show a ≤ x ∧ b ≤ y ∧ c = z from ⟨h,hb,hc⟩)]
    refine decide_eq_true ?_
    rw [ck_len,List.length_cons,List.length_cons,rp_len,rp_len,rp_len]
    lia
   ·rw [decide_eq_false (p:=44 :: rp s c <:+ ck s x y z) fun h2=>hc (hsu.mp h2),Bool.and_false]
    exact (decide_eq_false fun h=>hc h.2.2).symm
  ·rw [if_neg fun h=>hb ((pre1 hs _ b y).mp h),decide_eq_false (p:=a ≤ x ∧ b ≤ y ∧ c = z) fun h=>hb h.2.1]
   by_cases hb2:b ≤ z
   ·rw [if_pos ((pre3 b z).mpr hb2)]
    show (decide (_ ≤ _) && decide _) = false
    by_cases hc:c = z
    ·refine Bool.and_eq_false_imp.mpr fun h=>absurd (of_decide_eq_true h) ?_
     rw [ck_len,List.length_cons,List.length_cons,rp_len,rp_len,rp_len]
     lia
    ·rw [decide_eq_false (p:=44 :: rp s c <:+ ck s x y z) fun h2=>hc (hsu.mp h2),Bool.and_false]
   ·rw [if_neg fun h=>hb2 ((pre3 b z).mp h)]
 ·rw [decide_eq_false fun h2=>h (hp.mp h2),Bool.false_and]
  exact (decide_eq_false fun h2=>h h2.1).symm
noncomputable def cw01 (w i n:Nat):Nat:=n + if i = w then 1 else 0
theorem tk_all {s w:Nat} (hs:s ≠ 44) (hw:w < 3) (V o:Tab):tkV (ck s (cw01 w 0 (getT o 112)) (cw01 w 1 (getT o 113)) (cw01 w 2 (getT o 114))) (tP s w (getT V 112) (getT V 113) (getT V 114)) (tR s w (getT V 112) (getT V 113) (getT V 114)) (tT s w (getT V 112) (getT V 113) (getT V 114)) = takesV V w o:=by
 have r3:List.range 3 = [0,1,2]:=rfl
 unfold takesV cw01
 rw [r3]
 match w,hw with
 | 0,_=>
  rw [tk0 hs]
  simp
 | 1,_=>
  rw [tk1 hs]
  simp [Bool.and_assoc,Bool.and_comm,Bool.and_left_comm]
 | 2,_=>
  rw [tk2 hs]
  simp [Bool.and_assoc,Bool.and_comm,Bool.and_left_comm]
theorem ends_eq (l p:List Nat):Txt.endswith (mkS l) (mkS p) = decide (p <:+ l):=by
 unfold Txt.endswith
 rw [StrLaws.subAt_eq]
 have e1:(mkS l).length = l.length:=by show (mkS l).cps.size = _;simp [mkS]
 have e2:(mkS p).length = p.length:=by show (mkS p).cps.size = _;simp [mkS]
 rw [e1,e2]
 show (decide (0 + p.length ≤ l.length) && ((l.drop (l.length - p.length)).take p.length == p)) = _
 rw [Bool.eq_iff_iff,Bool.and_eq_true,decide_eq_true_eq,beq_iff_eq,decide_eq_true_eq,List.suffix_iff_eq_drop]
 constructor
 ·rintro ⟨h1,h2⟩
  rw [Nat.zero_add] at h1
  rw [List.take_of_length_le (by rw [List.length_drop];exact Nat.le_of_eq (Nat.sub_sub_self h1))] at h2
  exact h2.symm
 ·intro h
  have hl:=congrArg List.length h
  rw [List.length_drop] at hl
  refine ⟨by rw [Nat.zero_add,hl];exact Nat.sub_le _ _,?_⟩
  rw [← h,List.take_length]
theorem cw_le {w x n:Nat} (h:n ≤ 5):cw01 w x n ≤ 6:=by
 unfold cw01
 split
 ·exact Nat.succ_le_succ h
 ·exact Nat.le_succ_of_le h
theorem ck20 {s w a b d:Nat} (ha:a ≤ 5) (hb:b ≤ 5) (hd:d ≤ 5):(ck s (cw01 w 0 a) (cw01 w 1 b) (cw01 w 2 d)).length ≤ 20:=by
 rw [ck_len]
 exact Nat.add_le_add_right (Nat.add_le_add (Nat.add_le_add (cw_le ha) (cw_le hb)) (cw_le hd)) 2
theorem ckj {s a b d:Nat} (ha:a ≤ 6) (hb:b ≤ 6) (hd:d ≤ 6):(([rp s a,rp s b,rp s d]:List (List Nat)).map List.length).sum + ([rp s a,rp s b,rp s d]:List (List Nat)).length * ([44]:List Nat).length ≤ 16777216:=by
 simp only [List.map_cons,List.map_nil,List.sum_cons,List.sum_nil,List.length_cons,List.length_nil,rp_len]
 lia
end
section
set_option maxHeartbeats 0
set_option maxRecDepth 20000
noncomputable def ckx (s w x n:Nat):List Nat:=rp s n ++ if x = w then [s] else []
noncomputable def ckF (s w:Nat) (t:Tab) (a:AV):Option AV:=match a with
 | .str [x]=>some (.str (ckx s w (x - 112) (getT t x)))
 | _=>none
theorem ck_all (s w:Nat) (t:Tab):((([112,113,114]:List Nat).map fun x=>AV.str [x]).filterMap (ckF s w t)) = ([ckx s w 0 (getT t 112),ckx s w 1 (getT t 113),ckx s w 2 (getT t 114)]:List (List Nat)).map .str:=rfl
theorem ckx_eq (s w x n:Nat):ckx s w x n = rp s (cw01 w x n):=by
 unfold ckx cw01
 split
 ·exact rp_add s n
 ·exact List.append_nil _
theorem ck_eq (s w a b d:Nat):jn [44] [ckx s w 0 a,ckx s w 1 b,ckx s w 2 d] = ck s (cw01 w 0 a) (cw01 w 1 b) (cw01 w 2 d):=by
 rw [jn3,ckx_eq,ckx_eq,ckx_eq]
 unfold ck
 simp
section
variable {W₀:Wld} {c:Cx W₀} {σ:St} {Q:AV → St → Prop}
theorem takes_spec (Hd:HdM W₀) (bLen:bN W₀ "len" (.builtin "len")) {f:Addr} {n:Nat} (hf:Def W₀ f F_takes .none .none) (hr:c.Room (n + 10)) {x dx D:Addr} {H:List (Addr × AO)} {s w:Nat} {t V:Tab} (hs:s ∈ strokes) (hw:w < 3) (ht:TabOk t) (hV:TabOk V) (hH:σ.H = hdL Hd x dx D (encI (encT s t)) H)
  (h:Q (.bool (takesV V w t)) σ):Cal c (.ref f) [tstA s w V,.ref x,.str [s]] [] σ Q:=by
 refine Cal.weak ?_
 unfold tstA
 rw [← tk_all (s:=s) (by intro e;subst e;exact absurd hs (by decide)) hw V t] at h
 have v0:=hV.get 112
 have v1:=hV.get 113
 have v2:=hV.get 114
 refine byG fun Gq kq=>?_
 obtain ⟨lP,lR,lT⟩:=t_len (s:=s) (w:=w) v0 v1 v2
 refine kq ?_
 generalize tP s w (getT V 112) (getT V 113) (getT V 114) = P at lP h ⊢
 generalize tR s w (getT V 112) (getT V 113) (getT V 114) = R at lR h ⊢
 generalize tT s w (getT V 112) (getT V 113) (getT V 114) = Tz at lT h ⊢
 refine call_def (bas:=[("test",.tup [.str [112 + w],.str P,.str R,.str Tz]),("own",.ref x),("stroke",.str [s])]) hf hr (fun q doc pm code=>?_) (by kernel_rfl) (by kernel_rfl) (by kernel_rfl) [("test",.tup [.str [112 + w],.str P,.str R,.str Tz])] [("own",.ref x),("stroke",.str [s])] (by kernel_rfl) (by kernel_rfl) fun q doc pm code hfn L=>?_
 ·exact Bind.pos (ns:=["test", "own", "stroke"]) rfl (all3 fun v v2 v3=>by kernel_rfl)
 have hr':(funCx c hfn L).Room (n + 9):=hr.fn hfn L
 refine byG fun Gq kq=>?_
 obtain ⟨m0,cl0,H0⟩:=σ
 refine kq ?_
 dsimp only at hH h ⊢
 subst hH
 refine Exs.cons ?_
 skip
 refine Ex.asgT ?_ (by rfl) (by rfl) (by rfl)
 (walk_at "j1")
 refine Asn.tup rfl ?_
 refine Ord.cons ?_
 (refine Asn.name ?_;refine Sto.cel1 (by rfl) (by rfl) (by kernel_rfl) ?_)
 refine Ord.cons ?_
 (refine Asn.name ?_;refine Sto.loc1 (by rfl) ?_)
 refine Ord.cons ?_
 (refine Asn.name ?_;refine Sto.loc1 (by rfl) ?_)
 refine Ord.cons ?_
 (refine Asn.name ?_;refine Sto.loc1 (by rfl) ?_)
 refine Ord.nil ?_
 (refine Exs.cons ?_;refine Ex.asg1 (by rfl) ?_;refine Ev.cM ⟨_,rfl⟩ (by rfl) ?_;refine Ev.str1 (by decide +kernel) ?_)
 refine ⟨_,HasM.join,?_⟩
 (refine Sps.argC (by rfl) ?_)
 refine Ev.lc (by rfl) ?_ (by kernel_rfl) (by kernel_rfl) (by rfl) (by intro _;rfl)
 (refine Ev.str1 (by decide +kernel) ?_)
 rw [show (PySem.Str.ofString "pqr").cps.toList = [112,113,114] by kernel_rfl,show (PySem.Str.ofString ",").cps.toList = [44] by kernel_rfl]
 refine ⟨_,Itb.str _,Turns.lst (ckF s w t) ?_ ?_ ?_⟩
 ·intro C G acc y hy
  refine byG fun Gq kq=>?_
  obtain ⟨z,hz,rfl⟩:=List.mem_map.mp hy
  refine kq ?_
  have hzn:=(z3 z hz).1
  have hz112:z = 112 + w ↔ z - 112 = w:=z112 (z3 z hz).2
  have hz6:=a6 _ hzn
  have g5:=ht.get z
  have eF:ckF s w t (.str [z]) = some (.str (rp s (getT t z) ++ if z - 112 = w then [s] else [])):=rfl
  (refine Asn.name ?_;refine Sto.loc1 (by rfl) ?_;refine Ifs.nil ?_;refine ite_T (by rfl) ?_;refine Ev.binop ?_;refine Ev.cI ⟨_,rfl⟩ (by rfl) ?_;refine Ev.cel (by rfl) (by rfl) (by rfl) ?_ (by kernel_rfl))
  refine ⟨x,Hd.C,dx,_,Hd.fGe,rfl,⟨.tail _ (.tail _ (.head _)),.tail _ (.tail _ (.tail _ (.head _)))⟩,Hd.mGe,by rfl,Hd.hGe.cee,?_⟩
  (refine Sps.argC (by rfl) ?_;walk_at "j1";refine Sps.argC (by rfl) ?_;refine Ev.str1 (by decide +kernel) ?_;refine Sps.argN ?_)
  rw [show (PySem.Str.ofString "").cps.toList = [] by kernel_rfl]
  refine hd_get2 (n:=n + 6) Hd (hr'.comp _ _ _) (items:=encT s t) (D:=D) ⟨.tail _ (.tail _ (.head _)),.tail _ (.tail _ (.tail _ (.head _)))⟩ (.tail _ (.head _)) ?_ ?_ ?_ ?_ (enc_ok ht) ?_
  ·rw [hz6.2.1];exact hdOk_nm hz6.2.2.2.1
  ·rw [hz6.2.1];exact hz6.2.2.1
  ·rw [hz6.2.1];exact Nat.le_of_ble_eq_true rfl
  ·exact enc1000 ht
  rw [get_enc ht hzn]
  (refine Ev.ife ?_;refine Tr.cmp1 (by with_unfolding_all rfl) ?_;walk_at "j1";refine Ev.cel (by rfl) (by rfl) (by rfl) ?_ (by kernel_rfl);refine O.eqS ?_;refine T.bool ?_)
  rw [one_eq]
  by_cases hzw:z = 112 + w
  ·rw [if_pos (hz112.mp hzw)] at eF
   refine ite_T (beq_iff_eq.mpr hzw) ?_
   (refine Ev.cel (by rfl) (by rfl) (by rfl) ?_ (by kernel_rfl))
   refine O.addS (rp1 g5) ?_
   exact ⟨eF,.mm trivial rfl rfl⟩
  ·rw [if_neg fun e=>hzw (hz112.mpr e)] at eF
   refine ite_N (beq_eq_false_iff_ne.mpr hzw) ?_
   (refine Ev.str1 (by decide +kernel) ?_)
   rw [show (PySem.Str.ofString "").cps.toList = [] by kernel_rfl]
   refine O.addS (rp0 g5) ?_
   exact ⟨eF,.mm trivial rfl rfl⟩
 ·exact sl _ (Nat.le_of_ble_eq_true rfl)
 intro G
 refine .lst G _ [] _ rfl rfl ?_
 rw [ck_all]
 (refine Sps.argN ?_)
 have g0:=ht.get 112
 have g1:=ht.get 113
 have g2:=ht.get 114
 generalize getT t 112 = a at g0 h ⊢
 generalize getT t 113 = b at g1 h ⊢
 generalize getT t 114 = d at g2 h ⊢
 refine Cal.join (.frz _) (joinOk_of ?_) ?_
 ·rw [ckx_eq,ckx_eq,ckx_eq]
  exact ckj (cw_le g0) (cw_le g1) (cw_le g2)
 rw [ck_eq]
 have hcl:(ck s (cw01 w 0 a) (cw01 w 1 b) (cw01 w 2 d)).length ≤ 20:=ck20 g0 g1 g2
 generalize ck s (cw01 w 0 a) (cw01 w 1 b) (cw01 w 2 d) = l at hcl h ⊢
 (refine Sto.loc1 (by rfl) ?_;refine Exs.cons ?_;refine Ex.ifs ?_;refine Tr.cmp1 (by with_unfolding_all rfl) ?_;refine Ev.slc ?_;walk_at "j1";refine Bnd.no ?_;refine Bnd.yes ?_;refine Ev.cB (by assumption) (by kernel_rfl) (by rfl) (by kernel_rfl) ?_;refine Sps.argC (by rfl) ?_;walk_at "j1";refine Sps.argN ?_)
 refine Cal.lenS (i63 (Nat.le_trans lP (by decide))) ?_
 (refine ⟨_,rfl,?_⟩)
 refine Sli.str1 (by intros;with_unfolding_all rfl) (s1k (Nat.le_trans hcl (by decide))) ?_
 rw [slcToA]
 (walk_at "j1";refine O.neS ?_;refine T.bool ?_)
 unfold tkV at h
 by_cases hp:P <+: l
 ·have hp2:l.take P.length = P:=(List.prefix_iff_eq_take.mp hp).symm
  rw [decide_eq_true hp,Bool.true_and] at h
  refine ite_N (by rw [hp2];exact bne_self_eq_false _) ?_
  (refine Exs.nil ?_;refine Exs.cons ?_;refine Ex.asg1 (by rfl) ?_;refine Ev.cM ⟨_,rfl⟩ (by rfl) ?_;walk_at "j1")
  refine ⟨_,HasM.find,?_⟩
  (refine Sps.argC (by rfl) ?_;walk_at "j1";refine Sps.argC (by rfl) ?_;refine Ev.cB (by assumption) (by kernel_rfl) (by rfl) (by kernel_rfl) ?_;refine Sps.argC (by rfl) ?_;walk_at "j1";refine Sps.argN ?_)
  refine Cal.lenS (i63 (Nat.le_trans lP (by decide))) ?_
  (refine Sps.argN ?_)
  refine Cal.find3 ?_
  rw [show fromIndex l.length (P.length:Int) = P.length by unfold fromIndex;lia]
  unfold fndI
  cases hf:fnd l R P.length with
  | none=>
   rw [hf] at h
   dsimp only at h ⊢
   (refine Sto.loc1 (by rfl) ?_;refine Exs.cons ?_;refine Ex.ret ?_;refine Ev.and3 ?_;refine Ev.cmp1 (by with_unfolding_all rfl) ?_;walk_at "j1";refine Ev.int ?_;refine O.geI ?_;refine T.bool ?_;refine ite_N (by rfl) ?_)
   rw [show decide ((-1:Int) ≥ 0) = false from rfl]
   exact .mk _ ⟨fun _ _ e=>e,fun _ _ e=>e,List.Sublist.refl _⟩ h
  | some k=>
   rw [hf] at h
   dsimp only at h ⊢
   (refine Sto.loc1 (by rfl) ?_;refine Exs.cons ?_;refine Ex.ret ?_;refine Ev.and3 ?_;refine Ev.cmp1 (by with_unfolding_all rfl) ?_;walk_at "j1";refine Ev.int ?_;refine O.geI ?_;refine T.bool ?_;refine ite_T (by rfl) ?_;refine Ev.cmp1 (by with_unfolding_all rfl) ?_;refine Ev.binop ?_;refine Ev.binop ?_;refine Ev.cB (by assumption) (by kernel_rfl) (by rfl) (by kernel_rfl) ?_;refine Sps.argC (by rfl) ?_;walk_at "j1";refine Sps.argN ?_)
   refine Cal.lenS (i63 (Nat.le_trans hcl (by decide))) ?_
   (walk_at "j1";refine O.sub ?_;refine Ev.cB (by assumption) (by kernel_rfl) (by rfl) (by kernel_rfl) ?_;refine Sps.argC (by rfl) ?_;walk_at "j1";refine Sps.argN ?_)
   refine Cal.lenS (i63 (Nat.le_trans lR (by decide))) ?_
   (refine O.sub ?_;refine Ev.cB (by assumption) (by kernel_rfl) (by rfl) (by kernel_rfl) ?_;refine Sps.argC (by rfl) ?_;walk_at "j1";refine Sps.argN ?_)
   refine Cal.lenS (i63 (Nat.le_trans lT (by decide))) ?_
   (refine O.geI ?_;refine T.bool ?_)
   rw [show decide ((l.length:Int) - (k:Int) - (R.length:Int) ≥ (Tz.length:Int)) = decide (k + R.length + Tz.length ≤ l.length) from decide_eq_decide.mpr (by lia)]
   by_cases hq:k + R.length + Tz.length ≤ l.length
   ·rw [decide_eq_true hq,Bool.true_and] at h
    refine ite_T (decide_eq_true hq) ?_
    (refine Ev.cM ⟨_,rfl⟩ (by rfl) ?_;walk_at "j1")
    refine ⟨_,HasM.endswith,?_⟩
    (refine Sps.argC (by rfl) ?_;refine Ev.loc (by rfl) (by first | rfl | assumption) ?_ (by kernel_rfl);refine Sps.argN ?_)
    refine Cal.endswith ?_
    rw [ends_eq]
    skip
    exact .mk _ ⟨fun _ _ e=>e,fun _ _ e=>e,List.Sublist.refl _⟩ h
   ·rw [decide_eq_false hq,Bool.false_and] at h
    refine ite_N (decide_eq_false hq) ?_
    skip
    rw [decide_eq_false hq]
    exact .mk _ ⟨fun _ _ e=>e,fun _ _ e=>e,List.Sublist.refl _⟩ h
 ·have hp2:l.take P.length ≠ P:=fun e=>hp (List.prefix_iff_eq_take.mpr e.symm)
  rw [decide_eq_false hp,Bool.false_and] at h
  refine ite_T (bne_iff_ne.mpr hp2) ?_
  (refine Exs.cons ?_;refine Ex.ret ?_;refine Ev.bool1 ?_)
  exact .mk _ ⟨fun _ _ e=>e,fun _ _ e=>e,List.sublist_append_right [] _⟩ h
end
end
section
set_option maxHeartbeats 0
set_option maxRecDepth 20000
noncomputable def decT (xs:List AV):Tab:=xs.map fun a=>match a with
 | .tup [.str [c],.str r]=>(c,r.length)
 | _=>(0,0)
theorem dec_enc (s:Nat) (t:Tab):decT (encI (encT s t)) = t:=by
 unfold decT encI encT
 rw [List.map_map,List.map_map]
 have key:∀ t:Tab,t.map (((fun a=>match a with | AV.tup [.str [c],.str r]=>(c,r.length) | _=>(0,0)) ∘ fun p:List Nat × List Nat=>AV.tup [.str p.1,.str p.2]) ∘ fun q:Nat × Nat=>([q.1],rp s q.2)) = t:=by
  intro t
  induction t with
  | nil=>rfl
  | cons q t ih=>
   rw [List.map_cons,ih]
   congr 1
   show (q.1,(rp s q.2).length) = q
   rw [rp_len]
 exact key t
noncomputable def wOf (t:Tab):Nat:=lo1 (t.getLastD (0,0)).1 - 112
noncomputable def tsF (s:Nat) (a:AV):Option AV:=match a with
 | .lst xs=>some (tstA s (wOf (decT xs)) (decT xs))
 | _=>none
theorem ts_ml (s:Nat) (t:Tab):tsF s (mlA s t) = some (tstA s (wOf t) t):=by
 show some (tstA s (wOf (decT (encI (encT s t)))) (decT (encI (encT s t)))) = _
 rw [dec_enc]
theorem ts_all (s:Nat) (L:List Tab):(L.map (mlA s)).filterMap (tsF s) = L.map fun t=>tstA s (wOf t) t:=by
 rw [List.filterMap_map,← List.filterMap_eq_map]
 exact congrArg (fun f=>List.filterMap f L) (funext fun t=>ts_ml s t)
theorem perm33 {α:Type} (a b d x y z:α) (l:List α):(z :: y :: x :: a :: b :: d :: l).Perm (a :: b :: d :: x :: y :: z :: l):=by
 show ([z,y,x] ++ ([a,b,d] ++ l)).Perm ([a,b,d] ++ ([x,y,z] ++ l))
 exact List.perm_append_comm_assoc _ _ _ |>.trans (List.Perm.append_left _ (List.Perm.append_right _ (List.reverse_perm [x,y,z])))
theorem done5 {ds come:List Nat} {n:Nat} {o:OS} (I:OI ds n come o) (h:come.length ≤ 5):o.done.length ≤ 5:=by
 have:=I.perm.length_eq
 rw [List.length_append] at this
 exact Nat.le_trans (Nat.le_add_left _ _) (Nat.le_trans (Nat.le_of_eq this) h)
theorem oi_nil (ds:List Nat) (n:Nat):OI ds n [] ⟨[],[],[]⟩ where
 vec:=fun i _=>⟨fun h=>absurd h (Nat.not_lt_zero _),fun h=>by cases h⟩
 ole:=fun x _=>Nat.zero_le _
 perm:=.refl _
 nd:=List.nodup_nil
 lt:=fun j h=>by cases h
 ord:=fun a k b e=>by cases a <;> cases e
theorem oi_come {ds:List Nat} {n:Nat} {come:List Nat} {o:OS} (I:OI ds n come o) {k:Nat} (hk:k ∉ come) (hn:k < n):OI ds n (come ++ [k]) ⟨o.own,o.wait ++ [k],o.done⟩ where
 vec:=I.vec
 ole:=I.ole
 perm:=by
  show ((o.wait ++ [k]) ++ o.done).Perm _
  rw [List.append_assoc]
  refine List.Perm.trans (List.Perm.append_left _ List.perm_append_comm) ?_
  rw [← List.append_assoc]
  exact I.perm.append_right _
 nd:=by
  refine List.nodup_append.mpr ⟨I.nd,by simp,fun a ha b hb e=>?_⟩
  rw [List.mem_singleton.mp hb] at e
  exact hk (e ▸ ha)
 lt:=fun j hj=>by
  rcases List.mem_append.mp hj with h | h
  ·exact I.lt j h
  ·rw [List.mem_singleton.mp h];exact hn
 ord:=I.ord
section
variable {W₀:Wld} {c:Cx W₀} {σ:St} {Q:AV → St → Prop}
noncomputable abbrev roM (s:Nat) (TS:List AV) (ms:List Tab) (x Wt Hn Rd:Addr):List (PySem.Str × AV):=[("tests",.lst TS),("own",.ref x),("waiting",.ref Wt),("handed",.ref Hn),("rounds",.ref Rd),("mails",.lst (ms.map (mlA s))),("stroke",.str [s])]
noncomputable abbrev inL1 (l:List Nat):List AV:=l.map fun (i:Nat)=>AV.int (i:Int)
noncomputable abbrev roH (Hd:HdM W₀) (s:Nat) (x dx D Wt Hn Rd:Addr) (o:OS) (rs:List (List Nat)) (H:List (Addr × AO)):List (Addr × AO):=hdL Hd x dx D (encI (encT s o.own)) ((Wt,.list (inL1 o.wait)) :: (Hn,.list (inL1 o.done)) :: (Rd,.list (rs.map inA1)) :: H)
theorem rounds_spec (Hd:HdM W₀) (It:HdI W₀ Hd) (Fn:FnM W₀) (gTr:gN W₀ "translate" (.ref Fn.aTranslate)) (bLen:bN W₀ "len" (.builtin "len")) {f fP fT fK:Addr} {n:Nat} (hf:Def W₀ f F_rounds .none .none) (hP:Def W₀ fP F_plain .none .none) (gP:gN W₀ "_law_plain" (.ref fP)) (hT:Def W₀ fT F_test .none .none) (gT:gN W₀ "_law_test" (.ref fT)) (hK:Def W₀ fK F_takes .none .none) (gK:gN W₀ "_law_takes" (.ref fK)) (bList:bN W₀ "list" (.type "list")) (hr:c.Room (n + 14)) {s:Nat} (hs:s ∈ strokes) {ds ord:List Nat} (h5:ds.length ≤ 5) (hnd:ord.Nodup) (hlt:∀ j ∈ ord,j < ds.length)
  (h:∀ rs:List (List Nat),rs.length = ord.length → (∀ m l,rs[m]? = some l → ∃ o,OI ds ds.length (ord.take (m + 1)) o ∧ pickJ ds (mst ds ds.length).ms o = none ∧ o.done = l) → Q (.lst (rs.map inA1)) σ):Cal c (.ref f) [.lst ((mst ds ds.length).ms.map (mlA s)),inA1 ord,.str [s]] [] σ Q:=by
 refine Cal.weak ?_
 refine call_def (bas:=[("mails",.lst ((mst ds ds.length).ms.map (mlA s))),("order",inA1 ord),("stroke",.str [s])]) hf hr (fun q doc pm code=>?_) (by kernel_rfl) (by kernel_rfl) (by kernel_rfl) [("mails",.lst ((mst ds ds.length).ms.map (mlA s))),("order",inA1 ord),("stroke",.str [s])] [] (by kernel_rfl) (by kernel_rfl) fun q doc pm code hfn L=>?_
 ·exact Bind.pos (ns:=["mails", "order", "stroke"]) rfl (all3 fun v v2 v3=>by kernel_rfl)
 have hr':(funCx c hfn L).Room (n + 13):=hr.fn hfn L
 have MI:=mi_all ds ds.length
 obtain ⟨_,T2⟩:=ti_all ds ds.length h5
 generalize eMs:(mst ds ds.length).ms = ms at *
 have hml:ms.length = ds.length:=by rw [← eMs];exact MI.len
 have hm5:ms.length ≤ 5:=by rw [hml];exact h5
 have ho5:ord.length ≤ 5:=by
  have:=List.Nodup.length_le_of_subset (l₂:=List.range ds.length) hnd fun j hj=>List.mem_range.mpr (hlt j hj)
  rw [List.length_range] at this
  exact Nat.le_trans this h5
 have hmj:∀ j < ds.length,ms[j]? = some (ms.getD j []) ∧ TabOk (ms.getD j []) ∧ wOf (ms.getD j []) = who ds j ∧ ∃ t0 v,ms.getD j [] = t0 ++ [(nmC ds j,v)]:=fun j hj=>by
  obtain ⟨t0,v,e⟩:=MI.last j hj
  rw [eMs] at e
  have hg:ms[j]? = some (ms.getD j []):=by rw [List.getD_eq_getElem?_getD,List.getElem?_eq_getElem (by rw [hml];exact hj)];rfl
  refine ⟨hg,T2 _ (List.mem_of_getElem? hg),?_,t0,v,e⟩
  unfold wOf
  rw [e,List.getLastD_concat]
  show lo1 (nmC ds j) - 112 = _
  rw [lo_nm]
  exact Nat.add_sub_cancel_left _ _
 refine Exs.cons ?_
 skip
 refine Ex.lc (by rfl) ?_ (by kernel_rfl) (by rfl) (by kernel_rfl) (by kernel_rfl) (by rfl) (by intro _;rfl)
 (walk_at "j1")
 refine ⟨_,Itb.lst _,Turns.lst (tsF s) ?_ ?_ ?_⟩
 ·intro C G acc y hy
  obtain ⟨M,hM,rfl⟩:=List.mem_map.mp hy
  obtain ⟨j,hj,eM⟩:=List.getElem_of_mem hM
  have hjl:j < ds.length:=by rw [← hml];exact hj
  obtain ⟨m1,m2,m3,t0,v,m4⟩:=hmj j hjl
  have eMj:ms.getD j [] = M:=by rw [List.getD_eq_getElem?_getD,List.getElem?_eq_getElem hj];exact eM
  rw [eMj] at m2 m3 m4
  (refine Asn.name ?_;refine Sto.loc1 (by rfl) ?_;refine Ifs.nil ?_;refine ite_T (by rfl) ?_)
  refine Ev.cF gT hT.cee (by kernel_rfl) (by rfl) (by kernel_rfl) ?_
  (refine Sps.argC (by rfl) ?_;refine Ev.loc (by rfl) (by first | rfl | assumption) ?_ (by kernel_rfl);refine Sps.argN ?_)
  refine test_spec (n:=n + 3) Hd It Fn gTr hT hP gP (hr'.comp _ _ _) hs (who_lt ds j) m2 m4 (lo_nm ds j) ?_
  refine ⟨?_,.mm trivial rfl rfl⟩
  rw [ts_ml,m3]
 ·exact s5m hm5
 intro G
 refine .lst G _ [] _ rfl rfl ?_
 rw [ts_all]
 (refine Exs.cons ?_;refine Ex.asg1 ?_ ?_;rfl)
 refine Ev.cF Hd.gHd (Cee.cls Hd.kHd) (by kernel_rfl) (by rfl) (by kernel_rfl) ?_
 (refine Sps.argN ?_)
 refine hd_new (n:=n + 10) Hd hr' fun x dx D=>?_
 (refine Sto.loc1 (by rfl) ?_;refine Exs.cons ?_;refine Ex.asg1 (by rfl) ?_)
 refine Ev.lstL ?_
 (refine Sps.argN ?_)
 refine ⟨sl _ (Nat.zero_le _),fun Wt hWt=>?_⟩
 (refine Sto.loc1 (by rfl) ?_;refine Exs.cons ?_;refine Ex.asg1 (by rfl) ?_)
 refine Ev.lstL ?_
 (refine Sps.argN ?_)
 refine ⟨sl _ (Nat.zero_le _),fun Hn hHn=>?_⟩
 (refine Sto.loc1 (by rfl) ?_;refine Exs.cons ?_;refine Ex.asg1 (by rfl) ?_)
 refine Ev.lstL ?_
 (refine Sps.argN ?_)
 refine ⟨sl _ (Nat.zero_le _),fun Rd hRd=>?_⟩
 (refine Sto.loc1 (by rfl) ?_;refine Exs.cons ?_;refine Ex.forsG ?_ (by intro _;rfl);walk_at "j1")
 have eTs:∀ j < ds.length,(ms.map fun t=>tstA s (wOf t) t)[j]? = some (tstA s (who ds j) (ms.getD j [])):=fun j hj=>by
  obtain ⟨m1,m2,m3,_⟩:=hmj j hj
  rw [List.getElem?_map,m1,Option.map_some,m3]
 have lTs:(ms.map fun t=>tstA s (wOf t) t).length ≤ 5:=by rw [List.length_map];exact hm5
 generalize (ms.map fun t=>tstA s (wOf t) t) = TS at eTs lTs ⊢
 refine .mk _ _ (Itb.lst _) (fun pre σ'=>∃ o rs,OI ds ds.length (ord.take pre.length) o ∧ TabOk o.own ∧ rs.length = pre.length ∧ (∀ m l,rs[m]? = some l → ∃ o,OI ds ds.length (ord.take (m + 1)) o ∧ pickJ ds ms o = none ∧ o.done = l) ∧ Lp σ' ⟨roM s TS ms x Wt Hn Rd,[],roH Hd s x dx D Wt Hn Rd o rs σ.H⟩) ?_ (fun pre y post σ' e zz=>?_) (fun σ' zz=>?_) (fun _ _ _=>trivial)
 ·refine ⟨⟨[],[],[]⟩,[],oi_nil _ _,⟨List.nodup_nil,fun q hq=>by cases hq⟩,rfl,fun m l e=>(by cases e),.of ⟨rfl,rfl,rfl,rfl,rfl,rfl,rfl,trivial⟩ trivial (G:=[]) ?_⟩
  rw [List.append_nil]
  exact perm33 _ _ _ _ _ _ _
 ·obtain ⟨o,rs,hI,hT,r1,r2,l⟩:=zz
  obtain ⟨k,ek,rfl,_⟩:=at_pre e
  have hko:k ∈ ord:=by rw [ek];exact List.mem_append_right _ (.head _)
  have hkN:=hlt k hko
  have hnc:k ∉ ord.take pre.length:=fun hm=>by
   have:=hnd
   rw [ek] at this
   exact (List.nodup_append.mp this).2.2 k hm k (.head _) rfl
  have eN:ord.take (pre ++ [AV.int (k:Int)]).length = ord.take pre.length ++ [k]:=by
   rw [List.length_append,List.length_singleton]
   exact take_succ_of ek
  rw [eN]
  have hpl:(pre ++ [AV.int (k:Int)]).length = pre.length + 1:=List.length_append
  rw [hpl]
  have hc5:(ord.take pre.length ++ [k]).length ≤ 5:=by
   rw [← eN]
   exact Nat.le_trans (List.length_take_le' _ _) ho5
  have hlen:∀ {o:OS},OI ds ds.length (ord.take pre.length ++ [k]) o → o.wait.length + o.done.length ≤ 5:=fun {o} hI=>by
   have h1:=hI.perm.length_eq
   rw [List.length_append] at h1
   exact Nat.le_trans (Nat.le_of_eq h1) hc5
  have hrl:rs.length ≤ 5:=by
   have:=congrArg List.length e
   rw [List.length_map,List.length_append] at this
   rw [r1]
   exact Nat.le_trans (Nat.le_add_right _ _) (Nat.le_trans (Nat.le_of_eq this.symm) ho5)
  have I0:=oi_come hI hnc hkN
  have hl0:=hlen I0
  generalize eC:ord.take pre.length ++ [k] = come at I0 hlen ⊢
  refine Op1.lp l ?_
  (refine Asn.name ?_;refine Sto.loc1 (by rfl) ?_;refine Exs.cons ?_;refine Ex.expr (by rfl) (by rfl) ?_;refine Ev.cM ⟨_,rfl⟩ (by rfl) ?_;walk_at "j1")
  refine ⟨_,HasM.append (.tail _ (.tail _ (.tail _ (.head _)))),?_⟩
  (refine Sps.argC (by rfl) ?_;refine Ev.loc (by rfl) (by first | rfl | assumption) ?_ (by kernel_rfl);refine Sps.argN ?_)
  refine Cal.append (pre:=[_,_,_]) rfl (s5m (Nat.le_trans (Nat.le_trans (Nat.le_trans (Nat.le_succ _) (Nat.le_of_eq (show o.wait.length + 1 = (o.wait ++ [k]).length by rw [List.length_append];rfl))) (Nat.le_add_right _ _)) hl0)) ?_
  (refine Exs.cons ?_;refine Ex.asg1 (by rfl) ?_;refine Ev.bool1 ?_;refine Sto.loc1 (by rfl) ?_;refine Exs.cons ?_)
  refine Ex.whilS (α:=OS × Bool) (fun y=>⟨("going",.bool y.2) :: roM s TS ms x Wt Hn Rd,[],roH Hd s x dx D Wt Hn Rd y.1 rs σ.H⟩) (fun y=>2 * y.1.wait.length + if y.2 then 1 else 0) (fun y=>OI ds ds.length come y.1 ∧ TabOk y.1.own ∧ (y.2 = false → pickJ ds ms y.1 = none)) (⟨o.own,o.wait ++ [k],o.done⟩,true) (.of ⟨rfl,rfl,rfl,rfl,rfl,rfl,rfl,rfl,trivial⟩ trivial ?_) ⟨I0,hT,fun h=>by cases h⟩ ?_
  ·show _ = roH Hd s x dx D Wt Hn Rd ⟨o.own,o.wait ++ [k],o.done⟩ rs σ.H
   unfold roH inL1
   rw [List.map_append]
   rfl
  rintro ⟨⟨ow,wt,dn⟩,g⟩ ⟨hI,hT,hg⟩
  dsimp only at hI hT hg ⊢
  have hl1:=hlen hI
  (refine Tr.val1 (by rfl) ?_;walk_at "j1";refine T.bool ?_)
  cases g with
  | false=>
   (refine ite_N (by rfl) ?_;refine Exs.cons ?_;refine Ex.expr (by rfl) (by rfl) ?_;refine Ev.cM ⟨_,rfl⟩ (by rfl) ?_;walk_at "j1")
   refine ⟨_,HasM.append (.tail _ (.tail _ (.tail _ (.tail _ (.tail _ (.head _)))))),?_⟩
   (refine Sps.argC (by rfl) ?_;refine Ev.cT (by assumption) (by kernel_rfl) (by rfl) (by kernel_rfl) ?_;refine Sps.argC (by rfl) ?_;walk_at "j1";refine Sps.argN ?_)
   refine Cal.listL (.led _ _ (.tail _ (.tail _ (.tail _ (.tail _ (.head _)))))) (s5m (Nat.le_trans (Nat.le_add_left _ _) hl1)) ?_
   (refine Sps.argN ?_)
   refine Cal.append (pre:=[_,_,_,_,_]) rfl (s5m hrl) ?_
   (refine Exs.nil ?_)
   refine ⟨⟨ow,wt,dn⟩,rs ++ [dn],hI,hT,by rw [List.length_append,r1];rfl,fun m l e=>?_,.of ⟨rfl,rfl,rfl,rfl,rfl,rfl,rfl,trivial⟩ trivial (G:=[]) ?_⟩
   ·by_cases hm:m < rs.length
    ·rw [List.getElem?_append_left hm] at e
     exact r2 m l e
    ·rw [List.getElem?_append_right (Nat.not_lt.mp hm)] at e
     have h0:m - rs.length = 0:=by
      cases q:m - rs.length with
      | zero=>rfl
      | succ m=>rw [q] at e;cases e
     rw [h0] at e
     cases e
     refine ⟨⟨ow,wt,dn⟩,?_,hg rfl,rfl⟩
     rw [show m = pre.length from Nat.le_antisymm (by rw [← r1];exact Nat.le_of_sub_eq_zero h0) (by rw [← r1];exact Nat.not_lt.mp hm),take_succ_of ek,eC]
     exact hI
   ·rw [List.append_nil]
    show List.Perm _ (roH Hd s x dx D Wt Hn Rd ⟨ow,wt,dn⟩ (rs ++ [dn]) σ.H)
    unfold roH
    rw [List.map_append]
    exact .refl _
  | true=>
   (refine ite_T (by rfl) ?_;refine Exs.cons ?_;refine Ex.asg1 (by rfl) ?_;refine Ev.bool1 ?_;refine Sto.loc1 (by rfl) ?_;refine Exs.cons ?_;refine Ex.forsG ?_ (by intro _;rfl);walk_at "j1")
   have hwN:∀ j ∈ wt,j < ds.length:=fun j hj=>hI.lt j (hI.perm.mem_iff.mp (List.mem_append_left _ hj))
   refine .mk (inL1 wt) _ (ItbG.led (.tail _ (.tail _ (.tail _ (.head _))))) (fun pre2 σ'=>Lf σ' ⟨("going",.bool false) :: roM s TS ms x Wt Hn Rd,[],roH Hd s x dx D Wt Hn Rd ⟨ow,wt,dn⟩ rs σ.H⟩ ∧ ∀ j:Nat,AV.int (j:Int) ∈ pre2 → takesV (ms.getD j []) (who ds j) ow = false) ⟨.of ⟨rfl,rfl,rfl,rfl,rfl,rfl,rfl,rfl,trivial⟩ trivial rfl,fun j h=>by cases h⟩ (fun pre2 y post2 σ' e2 zz=>?_) (fun σ' zz=>?_) (fun pre2 σ' zz=>zz.1.H ▸ (.tail _ (.tail _ (.tail _ (.head _)))))
   ·obtain ⟨l2,hn2⟩:=zz
    obtain ⟨j,ej,rfl,_⟩:=at_pre e2
    obtain ⟨w1,w2,ej2⟩:∃ w1 w2,wt = w1 ++ j :: w2:=⟨_,_,ej⟩
    have hjw:j ∈ wt:=by rw [ej2];exact List.mem_append_right _ (.head _)
    have hjN:=hwN j hjw
    obtain ⟨m1,m2,m3,t0,v,m4⟩:=hmj j hjN
    refine Op1.weakP l2 ?_
    (refine Asn.name ?_;refine Sto.loc1 (by rfl) ?_;refine Exs.cons ?_;refine Ex.ifs ?_;refine Tr.val ?_ (by rfl))
    refine Ev.cF gK hK.cee (by kernel_rfl) (by rfl) (by kernel_rfl) ?_
    (refine Sps.argC (by rfl) ?_;refine Ev.sub ?_;walk_at "j1";walk_at "j1")
    refine I.listN (by intros;with_unfolding_all rfl) (.frz _) (eTs j hjN) (s5 lTs) ?_
    (refine Sps.argC (by rfl) ?_;walk_at "j1";refine Sps.argC (by rfl) ?_;walk_at "j1";refine Sps.argN ?_)
    refine takes_spec (n:=n + 3) Hd bLen hK hr' hs (who_lt ds j) hT m2 rfl ?_
    (refine T.bool ?_)
    cases hb:takesV (ms.getD j []) (who ds j) ow with
    | true=>
     have hz:112 + who ds j ∈ nms:=by
      have key:∀ w < 3,112 + w ∈ nms:=by decide
      exact key _ (who_lt ds j)
     have hz6:=a6 _ hz
     have hnm:=nm_nms ds j
     have hn6:=a6 _ hnm
     have hG:=oi_give hI (j:=j) hjw (by rw [eMs];exact hb)
     have hv5:getT ow (112 + who ds j) + 1 ∈ ns5:=by
      have h1:=hG.ole _ (who_lt ds j)
      have h2:=cntW_le ds ds.length (who ds j)
      unfold give at h1
      dsimp only at h1
      rw [get_set,lo_nm,lo_hand (who_lt ds j),if_pos rfl] at h1
      have key:∀ n < 5,n + 1 ∈ ns5:=by decide
      exact key _ (Nat.le_trans h1 (Nat.le_trans h2 h5))
     have g5:=hT.get (112 + who ds j)
     have hlast:(encI (encT s (ms.getD j []))).getLast? = some (.tup [.str [nmC ds j],.str (rp s v)]):=by
      rw [m4]
      unfold encI encT
      rw [List.map_append,List.map_append,List.getLast?_append];rfl
     have hlM:=m2.len
     (refine ite_T (by rfl) ?_;refine Exs.cons ?_;refine Ex.asgSub1 (by rfl) ?_;refine Ev.binop ?_;refine Ev.cI ⟨_,rfl⟩ (by rfl) ?_;walk_at "j1")
     refine ⟨x,Hd.C,dx,_,Hd.fGe,rfl,⟨.tail _ (.head _),.tail _ (.tail _ (.head _))⟩,Hd.mGe,by rfl,Hd.hGe.cee,?_⟩
     (refine Sps.argC (by rfl) ?_;refine Ev.sub ?_;refine Ev.sub ?_;walk_at "j1";walk_at "j1")
     refine I.listN (by intros;with_unfolding_all rfl) (.frz _) (eTs j hjN) (s5 lTs) ?_
     (refine Ev.int ?_)
     refine I.tupN (i:=0) (by intros;with_unfolding_all rfl) rfl (sl _ (Nat.le_of_ble_eq_true rfl)) ?_
     (refine Sps.argC (by rfl) ?_;refine Ev.str1 (by decide +kernel) ?_;refine Sps.argN ?_)
     rw [show (PySem.Str.ofString "").cps.toList = [] by kernel_rfl]
     refine hd_get2 (n:=n + 10) Hd hr' (items:=encT s ow) (D:=D) ⟨.tail _ (.head _),.tail _ (.tail _ (.head _))⟩ (.head _) ?_ ?_ ?_ ?_ (enc_ok hT) ?_
     ·rw [hz6.2.1];exact hdOk_nm hz6.2.2.2.1
     ·rw [hz6.2.1];exact hz6.2.2.1
     ·rw [hz6.2.1];exact Nat.le_of_ble_eq_true rfl
     ·exact enc1000 hT
     rw [get_enc hT hz]
     (walk_at "j1")
     refine O.addS (rp1 g5) ?_
     rw [rp_add]
     (walk_at "j1";refine Ev.sub ?_;refine Ev.sub ?_;refine Ev.sub ?_;walk_at "j1";walk_at "j1")
     refine I.listN (by intros;with_unfolding_all rfl) (.frz _) (ml_at (by rw [hml];exact hjN)) (s5m hm5) ?_
     (refine Ev.una ?_;refine Ev.int ?_;refine O.neg ?_)
     refine I.listLast (by intros;with_unfolding_all rfl) (.frz _) hlast ?_
     (refine Ev.int ?_)
     refine I.tupN (i:=0) (by intros;with_unfolding_all rfl) rfl (sl _ (Nat.le_of_ble_eq_true rfl)) ?_
     skip
     refine Put.own (I:=⟨.tail _ (.head _),.tail _ (.tail _ (.head _))⟩) Hd.nq Hd.sSe Hd.iSe ?_
     refine hd_set (n:=n + 9) Hd hr' (items:=encT s ow) rfl (by rw [hn6.2.1];exact hdOk_nm hn6.2.2.2.1) (hdOk_nm hnm) (hdOk_row hs hv5) (by rw [hn6.2.1];exact hn6.2.2.1) (by rw [hn6.2.1];exact Nat.le_of_ble_eq_true rfl) (enc1000 hT) (enc_ok hT) fun y=>?_
     rw [set_enc hT hnm]
     (refine Exs.cons ?_;refine Ex.expr (by rfl) (by rfl) ?_;refine Ev.cM ⟨_,rfl⟩ (by rfl) ?_;walk_at "j1")
     refine ⟨_,HasM.remove (.tail _ (.tail _ (.tail _ (.head _)))),?_⟩
     (refine Sps.argC (by rfl) ?_;refine Ev.loc (by rfl) (by first | rfl | assumption) ?_ (by kernel_rfl);refine Sps.argN ?_)
     subst ej2
     have hno:j ∉ w1:=fun hm=>by
      have h1:=(hI.perm.nodup_iff.mpr hI.nd)
      have h2:=(List.nodup_append.mp h1).1
      exact (List.nodup_append.mp h2).2.2 j hm j (.head _) rfl
     have her:(w1 ++ j :: w2).erase j = w1 ++ w2:=by rw [List.erase_append_right _ hno,List.erase_cons_head]
     refine Cal.removeI (l1:=w1) (l2:=w2) (pre:=[_,_,_]) rfl hno (Nat.le_trans (Nat.le_trans (Nat.le_add_right _ _) hl1) (by decide)) ?_
     (refine Exs.cons ?_;refine Ex.expr (by rfl) (by rfl) ?_;refine Ev.cM ⟨_,rfl⟩ (by rfl) ?_;walk_at "j1")
     refine ⟨_,HasM.append (.tail _ (.tail _ (.tail _ (.tail _ (.head _))))),?_⟩
     (refine Sps.argC (by rfl) ?_;refine Ev.loc (by rfl) (by first | rfl | assumption) ?_ (by kernel_rfl);refine Sps.argN ?_)
     refine Cal.append (pre:=[_,_,_,_]) rfl (s5m (Nat.le_trans (Nat.le_add_left _ _) hl1)) ?_
     (refine Exs.cons ?_;refine Ex.asg1 (by rfl) ?_;refine Ev.bool1 ?_;refine Sto.loc1 (by rfl) ?_;refine Exs.cons ?_;refine Ex.brk ?_;refine Exs.nil ?_)
     refine .mk (give ds ⟨ow,w1 ++ j :: w2,dn⟩ j,true) ⟨hG,hT.set hnm hv5,fun h=>by cases h⟩ ?_ (.of ⟨rfl,rfl,rfl,rfl,rfl,rfl,rfl,rfl,trivial⟩ trivial ?_)
     ·unfold give
      dsimp only
      rw [her,List.length_append,List.length_append,List.length_cons]
      lia
     ·unfold give
      dsimp only
      rw [her]
      have e9:inL1 (dn ++ [j]) = inL1 dn ++ [AV.int (j:Int)]:=List.map_append
      show _ = hdL Hd x dx D (encI (encT s (setT ow (nmC ds j) (getT ow (112 + who ds j) + 1)))) ((Wt,.list (inL1 (w1 ++ w2))) :: (Hn,.list (inL1 (dn ++ [j]))) :: (Rd,.list (rs.map inA1)) :: σ.H)
      rw [e9]
      rfl
    | false=>
     (refine ite_N (by rfl) ?_;refine Exs.nil ?_;refine Exs.nil ?_)
     refine ⟨.of ⟨rfl,rfl,rfl,rfl,rfl,rfl,rfl,rfl,trivial⟩ trivial rfl,fun i hm=>?_⟩
     rcases List.mem_append.mp hm with hm | hm
     ·exact hn2 i hm
     ·have:=List.mem_singleton.mp hm
      injection this with h1
      have:=Int.ofNat.inj h1
      subst this
      exact hb
   ·(refine Exs.nil ?_)
    obtain ⟨l2,hn2⟩:=zz
    refine .mk (⟨ow,wt,dn⟩,false) ⟨hI,hT,fun _=>?_⟩ (by dsimp only;rw [if_pos rfl,if_neg Bool.false_ne_true];lia) l2
    unfold pickJ
    refine List.find?_eq_none.mpr fun j hj=>?_
    rw [hn2 j (List.mem_map.mpr ⟨j,hj,rfl⟩)]
    exact Bool.false_ne_true
 ·obtain ⟨o,rs,hI,hT,r1,r2,l⟩:=zz
  refine Go.lp l ?_
  refine Go.frzL "rounds" rfl (pre:=[_,_,_,_,_]) rfl ?_
  (refine Exs.cons ?_;refine Ex.ret ?_;walk_at "j1")
  rw [List.length_map] at r1
  exact .mk σ ⟨fun _ _ e=>e,fun _ _ e=>e,List.sublist_append_right [_,_,_,_,_] σ.H⟩ (h rs r1 r2)
end
end
section
set_option maxHeartbeats 0
set_option maxRecDepth 20000
noncomputable def modF:AV → Option AV
 | .int x=>some (.int (x.fmod 1000000))
 | _=>none
theorem modF_all:∀ l:List Int,(l.map AV.int).filterMap modF = (l.map fun x=>(x.fmod 1000000).toNat).map fun (d:Nat)=>AV.int d
 | []=>rfl
 | x :: r=>by
  rw [List.map_cons,List.filterMap_cons,List.map_cons,List.map_cons]
  dsimp only [modF]
  rw [modF_all r,Int.toNat_of_nonneg (Int.fmod_nonneg_of_pos x (by decide))]
noncomputable def fill1:List Nat:=[18,1,11,60,25]
noncomputable def raw1 (script:List Int):List Nat:=(script.take 5).map (fun x=>(x.fmod 1000000).toNat) ++ fill1.drop script.length
noncomputable def draws1 (script:List Int):List Nat:=(raw1 script).take (if script.length > 2 then 5 else 4)
theorem raw1_len (script:List Int):(raw1 script).length = 5:=by
 unfold raw1
 rw [List.length_append,List.length_map,List.length_take,List.length_drop]
 exact min_of 5 _
theorem draws1_len (script:List Int):4 ≤ (draws1 script).length ∧ (draws1 script).length ≤ 5:=by
 have:=raw1_len script
 unfold draws1
 rw [List.length_take,this]
 split <;> decide
theorem draws1_lt {script:List Int}:∀ d ∈ draws1 script,d < 1000000:=fun d hd=>by
 unfold draws1 raw1 at hd
 rcases List.mem_append.mp (List.mem_of_mem_take hd) with h | h
 ·obtain ⟨x,_,rfl⟩:=List.mem_map.mp h
  have h1:=Int.fmod_nonneg_of_pos x (show (0:Int) < 1000000 by decide)
  have h2:=Int.fmod_lt_of_pos x (show (0:Int) < 1000000 by decide)
  lia
 ·have h:=List.mem_of_mem_drop h
  simp [fill1] at h;lia
theorem sum_cast:∀ ds:List Nat,(ds.map fun (d:Nat)=>(d:Int)).sum = ((ds.sum:Nat):Int)
 | []=>rfl
 | d :: r=>by rw [List.map_cons,List.sum_cons,List.sum_cons,sum_cast r];lia
theorem sum_le:∀ ds:List Nat,(∀ d ∈ ds,d < 1000000) → ds.sum ≤ ds.length * 1000000
 | [],_=>Nat.zero_le _
 | d :: r,h=>by
  have h1:=h d (.head _)
  have h2:=sum_le r fun x hx=>h x (.tail _ hx)
  rw [List.sum_cons,List.length_cons];lia
theorem sumFits_of {ds:List Nat} (hl:ds.length ≤ 5) (h:∀ d ∈ ds,d < 1000000):PyProof.Rows.SumFits (ds.map fun (d:Nat)=>(d:Int)):=fun j hj=>by
 rw [List.length_map] at hj
 have h1:=h ds[j] (List.getElem_mem hj)
 have h2:=sum_le (ds.take (j + 1)) fun d hd=>h d (List.mem_of_mem_take hd)
 rw [List.length_take] at h2
 rw [← List.map_take,sum_cast,List.getD_eq_getElem?_getD,List.getElem?_map,List.getElem?_eq_getElem hj]
 dsimp only [Option.map,Option.getD]
 constructor <;> (unfold InLong;constructor <;> lia)
theorem ordr_perm (ds:List Nat):∀ k,(ordr ds k).Perm (List.range k)
 | 0=>.refl _
 | k + 1=>by
  unfold ordr insL
  refine List.Perm.trans List.perm_middle ?_
  rw [List.take_append_drop,List.range_succ]
  exact ((ordr_perm ds k).cons k).trans (List.perm_append_singleton k _).symm
noncomputable def inC (come:List Nat) (k:Int):Bool:=(come.map fun (i:Nat)=>(i:Int)).any (· == k)
theorem inC_iff {come:List Nat} {i:Nat}:inC come (i:Int) = true ↔ i ∈ come:=by
 unfold inC
 rw [List.any_eq_true]
 constructor
 ·rintro ⟨x,hx,e⟩
  obtain ⟨j,hj,rfl⟩:=List.mem_map.mp hx
  rw [beq_iff_eq] at e
  rw [← Int.ofNat.inj e];exact hj
 ·intro h
  exact ⟨_,List.mem_map.mpr ⟨i,h,rfl⟩,beq_self_eq_true _⟩
theorem ask1 {ds come:List Nat} {o:OS} (h5:ds.length ≤ 5) (I:OI ds ds.length come o) (hq:pickJ ds (mst ds ds.length).ms o = none):srt o.done = (List.range ds.length).filter fun k=>subB (pastB ds k) (inC come):=by
 have hnd:(o.wait ++ o.done).Nodup:=I.perm.nodup_iff.mpr I.nd
 have hn2:o.done.Nodup:=(List.nodup_append.mp hnd).2.1
 refine (srt_eq (List.Perm.symm ?_) ?_).symm
 ·refine (List.perm_ext_iff_of_nodup hn2 (List.nodup_range.sublist List.filter_sublist)).mpr fun k=>?_
  rw [oi_done I hq k,List.mem_filter,List.mem_range,subB_iff]
  constructor
  ·intro h
   have hk:=I.lt k (h k (past_self ds k))
   exact ⟨hk,fun i _ hp=>inC_iff.mpr (h i hp)⟩
  ·rintro ⟨hk,h⟩ i hp
   exact inC_iff.mp (h i (Nat.lt_of_le_of_lt (past_le hp) (Nat.lt_of_lt_of_le hk h5)) hp)
 ·exact (List.pairwise_lt_range.imp fun h=>Nat.le_of_lt h).sublist List.filter_sublist
theorem ask2 {ds come:List Nat} {o:OS} (I:OI ds ds.length come o) {k:Nat} (hk:k < o.done.length):subB (pastB ds (o.done.getD k 0)) (inC (o.done.take (k + 1))) = true:=by
 refine subB_iff.mpr fun i _ hp=>inC_iff.mpr ?_
 have e:o.done = o.done.take k ++ o.done[k] :: o.done.drop (k + 1):=by rw [← List.drop_eq_getElem_cons hk,List.take_append_drop]
 rw [List.getD_eq_getElem?_getD,List.getElem?_eq_getElem hk] at hp
 rw [take_succ_of e]
 rcases I.ord _ _ _ e i hp with h | h
 ·exact List.mem_append_left _ h
 ·rw [h];exact List.mem_append_right _ (.head _)
theorem eq_ints (l:List Nat):eqA (.lst (l.map fun (i:Nat)=>AV.int (i:Int))) (.lst (l.map fun (i:Nat)=>AV.int (i:Int))) = true:=by
 rw [eqA_lst_map (fun (i:Nat)=>AV.int (i:Int)) (fun a b=>by rw [eqA_int];exact decide_eq_decide.mpr ⟨Int.ofNat.inj,congrArg _⟩)]
 exact decide_eq_true rfl
structure LwM (W₀:Wld) where
 fDr:Addr
 fHe:Addr
 fPa:Addr
 fSe:Addr
 fMa:Addr
 fPl:Addr
 fTe:Addr
 fTk:Addr
 fRo:Addr
 fOr:Addr
 hDr:Def W₀ fDr F_draws .none .none
 hHe:Def W₀ fHe F_heard .none .none
 hPa:Def W₀ fPa F_past .none .none
 hSe:Def W₀ fSe F_send .none .none
 hMa:Def W₀ fMa F_mails .none .none
 hPl:Def W₀ fPl F_plain .none .none
 hTe:Def W₀ fTe F_test .none .none
 hTk:Def W₀ fTk F_takes .none .none
 hRo:Def W₀ fRo F_rounds .none .none
 hOr:Def W₀ fOr F_order .none .none
 gDr:gN W₀ "_law_draws" (.ref fDr)
 gHe:gN W₀ "_law_heard" (.ref fHe)
 gPa:gN W₀ "_law_past" (.ref fPa)
 gSe:gN W₀ "_law_send" (.ref fSe)
 gMa:gN W₀ "_law_mails" (.ref fMa)
 gPl:gN W₀ "_law_plain" (.ref fPl)
 gTe:gN W₀ "_law_test" (.ref fTe)
 gTk:gN W₀ "_law_takes" (.ref fTk)
 gRo:gN W₀ "_law_rounds" (.ref fRo)
 gOr:gN W₀ "_law_order" (.ref fOr)
section
variable {W₀:Wld} {c:Cx W₀} {σ:St} {Q:AV → St → Prop}
theorem draws_spec {f:Addr} {n:Nat} (hf:Def W₀ f F_draws .none .none) (hr:c.Room (n + 1)) (bLen:bN W₀ "len" (.builtin "len")) {script:List Int} (hs:script.length ≤ 63) (h:Q (drawsA (draws1 script)) σ):Cal c (.ref f) [.lst (script.map .int)] [] σ Q:=by
 refine call_def (bas:=[("script",.lst (script.map .int))]) hf hr (fun q doc pm code=>?_) (by kernel_rfl) (by kernel_rfl) (by kernel_rfl) [("script",.lst (script.map .int))] [] (by kernel_rfl) (by kernel_rfl) fun q doc pm code hfn L=>?_
 ·exact Bind.pos (ns:=["script"]) rfl (all1 fun v=>by kernel_rfl)
 have hr':(funCx c hfn L).Room n:=hr.fn hfn L
 refine Exs.cons ?_
 (refine Ex.asg1 (by rfl) ?_;refine Ev.ife ?_;refine Tr.cmp1 (by with_unfolding_all rfl) ?_;refine Ev.cB (by assumption) (by kernel_rfl) (by rfl) (by kernel_rfl) ?_;refine Sps.argC (by rfl) ?_;walk_at "j1";refine Sps.argN ?_)
 refine Cal.lenL (LA.frz _) (by rw [List.length_map];lia) ?_
 rw [List.length_map]
 (refine Ev.int ?_;refine O.gtI ?_;refine T.bool ?_)
 refine ife_via (.int ((if script.length > 2 then 5 else 4:Nat):Int)) ?_ ?_
 ·by_cases h2:script.length > 2
  ·refine ite_T (decide_eq_true (show (script.length:Int) > 2 by lia)) ?_
   (refine Ev.int ?_)
   exact ⟨by rw [if_pos h2];rfl,rfl⟩
  ·refine ite_N (decide_eq_false (show ¬ (script.length:Int) > 2 by lia)) ?_
   (refine Ev.int ?_)
   exact ⟨by rw [if_neg h2];rfl,rfl⟩
 (refine Sto.loc1 (by rfl) ?_;refine Exs.cons ?_;refine Ex.ret ?_;refine Ev.slc ?_;refine Ev.binop ?_)
 refine Ev.lc (by rfl) ?_ (by kernel_rfl) (by kernel_rfl) (by rfl) (by intro _;rfl)
 refine Ev.slc ?_
 (walk_at "j1";refine Bnd.no ?_;refine Bnd.yes ?_;refine Ev.int ?_;refine ⟨_,rfl,?_⟩)
 refine Sli.list1 (by intros;with_unfolding_all rfl) (LA.frz _) (sl _ (by rw [List.length_map];lia)) ?_
 rw [show slc (script.map AV.int) Option.none (some 5) = (script.map AV.int).take 5 from slcToA _ 5]
 refine ⟨_,Itb.lst _,Turns.lst modF ?_ ?_ ?_⟩
 ·intro C D acc y hy
  obtain ⟨z,hz,rfl⟩:=List.mem_map.mp (List.mem_of_mem_take hy)
  (refine Asn.name ?_;refine Sto.loc1 (by rfl) ?_;refine Ifs.nil ?_;refine ite_T (by rfl) ?_;refine Ev.binop ?_;walk_at "j1";refine Ev.binop ?_;refine Ev.int ?_;refine Ev.int ?_)
  refine O.pow (by decide) (by decide +kernel) ?_
  skip
  refine O.fmod (by decide) ?_
  exact ⟨rfl,.mm trivial rfl rfl⟩
 ·exact sl _ (by rw [List.length_take];lia)
 intro D
 refine .lst D _ [] _ rfl rfl ?_
 rw [show (script.map AV.int).take 5 = (script.take 5).map AV.int from by rw [List.map_take],modF_all]
 refine Ev.slc ?_
 refine Ev.lstF ?_
 (refine Sps.argC (by rfl) ?_;refine Ev.int ?_;refine Sps.argC (by rfl) ?_;refine Ev.int ?_;refine Sps.argC (by rfl) ?_;refine Ev.int ?_;refine Sps.argC (by rfl) ?_;refine Ev.int ?_;refine Sps.argC (by rfl) ?_;refine Ev.int ?_;refine Sps.argN ?_)
 refine ⟨sl _ (Nat.le_of_ble_eq_true rfl),?_⟩
 (refine Bnd.yes ?_;refine Ev.cB (by assumption) (by kernel_rfl) (by rfl) (by kernel_rfl) ?_;refine Sps.argC (by rfl) ?_;walk_at "j1";refine Sps.argN ?_)
 refine Cal.lenL (LA.frz _) (by rw [List.length_map];lia) ?_
 rw [List.length_map]
 refine ⟨_,rfl,?_⟩
 (refine Bnd.no ?_)
 refine Sli.list1 (by intros;with_unfolding_all rfl) (LA.frz _) (sl _ (Nat.le_of_ble_eq_true rfl)) ?_
 rw [slcFromA,show [AV.int 18,AV.int 1,AV.int 11,AV.int 60,AV.int 25] = fill1.map fun (d:Nat)=>AV.int d from rfl,← List.map_drop]
 refine O.addL (LA.frz _) (LA.frz _) (s5 (by have:=raw1_len script;unfold raw1 at this;rw [List.length_append,List.length_map] at this;rw [List.length_map,List.length_map,List.length_map];exact Nat.le_of_eq this)) ?_
 rw [← List.map_append,show ((script.take 5).map fun x=>(x.fmod 1000000).toNat) ++ fill1.drop script.length = raw1 script from rfl]
 have hlen:=raw1_len script
 (refine Bnd.no ?_;refine Bnd.yes ?_;walk_at "j1";refine ⟨_,rfl,?_⟩)
 refine Sli.list1 (by intros;with_unfolding_all rfl) (LA.frz _) (sl _ (by rw [List.length_map];lia)) ?_
 rw [slcToA,← List.map_take]
 skip
 exact h
theorem law_spec (M:QtM W₀) (Hd:HdM W₀) (It:HdI W₀ Hd) (Sh:ShM W₀) (Fm:FnM W₀) (hgz:c.gz = Option.none) {fs:List Env} (hfs:c.frs = some fs) {P:Addr} (hP:(P,.text M.cc) ∈ σ.H) (A:LwM W₀) {f:Addr} {n:Nat} (hf:Def W₀ f F_law .none .none) (hr:c.Room (n + 15)) (bLen:bN W₀ "len" (.builtin "len")) (bRange:bN W₀ "range" (.type "range")) (bSum:bN W₀ "sum" (.builtin "sum")) (bSorted:bN W₀ "sorted" (.builtin "sorted")) (bSet:bN W₀ "set" (.type "set")) (bList:bN W₀ "list" (.type "list"))
  {script:List Int} (hs:script.length ≤ 63) (h:Q (.bool true) σ):Cal c (.ref f) [.lst (script.map .int)] [] σ Q:=by
 refine Cal.weak ?_
 generalize hQ':kQw Q = Q'
 refine call_def (bas:=[("script",.lst (script.map .int))]) hf hr (fun q doc pm code=>?_) (by kernel_rfl) (by kernel_rfl) (by kernel_rfl) [("script",.lst (script.map .int))] [] (by kernel_rfl) (by kernel_rfl) fun q doc pm code hfn L=>?_
 ·exact Bind.pos (ns:=["script"]) rfl (all1 fun v=>by kernel_rfl)
 have hr':(funCx c hfn L).Room (n + 14):=hr.fn hfn L
 refine Exs.cons ?_
 (refine Ex.asg1 (by rfl) ?_)
 refine Ev.cF A.gDr A.hDr.cee (by kernel_rfl) (by rfl) (by kernel_rfl) ?_
 (refine Sps.argC (by rfl) ?_;refine Ev.loc (by rfl) (by first | rfl | assumption) ?_ (by kernel_rfl);refine Sps.argN ?_)
 refine draws_spec (n:=n + 13) A.hDr hr' bLen hs ?_
 obtain ⟨d4,d5⟩:=draws1_len script
 have d9:=draws1_lt (script:=script)
 generalize draws1 script = ds at d4 d5 d9 ⊢
 (refine Sto.loc1 (by rfl) ?_;refine Exs.cons ?_;refine Ex.asg1 (by rfl) ?_;refine Ev.sub ?_;refine Ev.str1 (by decide +kernel) ?_;refine Ev.binop ?_;refine Ev.cB (by assumption) (by kernel_rfl) (by rfl) (by kernel_rfl) ?_;refine Sps.argC (by rfl) ?_;walk_at "j1";refine Sps.argN ?_)
 rw [show drawsA ds = .lst ((ds.map fun (d:Nat)=>(d:Int)).map .int) by rw [List.map_map];rfl]
 refine Cal.sum (ns:=ds.map fun (d:Nat)=>(d:Int)) (LA.frz _) (sumFits_of (by lia) d9) ?_
 rw [sum_cast,show (AV.lst ((ds.map fun (d:Nat)=>(d:Int)).map .int)) = drawsA ds by rw [List.map_map];rfl]
 (refine Ev.int ?_)
 refine O.fmodN (k:=10) rfl (by decide) ?_
 rw [show (PySem.Str.ofString "|.-!^~#\\'\"").cps.toList = strokes by kernel_rfl]
 have hlt:ds.sum % 10 < strokes.length:=Nat.mod_lt _ (by decide)
 refine I.strN (by intros;with_unfolding_all rfl) (List.getElem?_eq_getElem hlt) (sl _ (Nat.le_of_ble_eq_true rfl)) ?_
 have hst:=List.getElem_mem hlt
 generalize strokes[ds.sum % 10]'hlt = s at hst ⊢
 (refine Sto.loc1 (by rfl) ?_;refine Exs.cons ?_;refine Ex.asg1 (by rfl) ?_)
 refine Ev.cF A.gPa A.hPa.cee (by kernel_rfl) (by rfl) (by kernel_rfl) ?_
 (refine Sps.argC (by rfl) ?_;refine Ev.loc (by rfl) (by first | rfl | assumption) ?_ (by kernel_rfl);refine Sps.argN ?_)
 refine past_spec (n:=n + 12) A.hPa A.hHe A.gHe hr' bLen bRange d5 fun os o1 o2=>?_
 (refine Sto.cel1 (by rfl) (by rfl) (by kernel_rfl) ?_;refine Exs.cons ?_;refine Ex.asg1 (by rfl) ?_)
 refine Ev.cF A.gOr A.hOr.cee (by kernel_rfl) (by rfl) (by kernel_rfl) ?_
 (refine Sps.argC (by rfl) ?_;refine Ev.loc (by rfl) (by first | rfl | assumption) ?_ (by kernel_rfl);refine Sps.argN ?_)
 refine order_spec (n:=n + 13) A.hOr hr' bLen bRange d5 ?_
 have op:=ordr_perm ds ds.length
 generalize ordr ds ds.length = ord at op ⊢
 have ond:ord.Nodup:=op.nodup_iff.mpr List.nodup_range
 have olt:∀ j ∈ ord,j < ds.length:=fun j hj=>List.mem_range.mp (op.mem_iff.mp hj)
 have oln:ord.length = ds.length:=by rw [op.length_eq,List.length_range]
 have ol5:ord.length ≤ 5:=by rw [oln];exact d5
 (refine Sto.loc1 (by rfl) ?_;refine Exs.cons ?_;refine Ex.asg1 (by rfl) ?_)
 refine Ev.cF A.gRo A.hRo.cee (by kernel_rfl) (by rfl) (by kernel_rfl) ?_
 (refine Sps.argC (by rfl) ?_)
 refine Ev.cF A.gMa A.hMa.cee (by kernel_rfl) (by rfl) (by kernel_rfl) ?_
 (refine Sps.argC (by rfl) ?_;walk_at "j1";refine Sps.argC (by rfl) ?_;walk_at "j1";refine Sps.argN ?_)
 refine mails_spec (n:=n + 1) M Hd It Sh A.hMa A.hHe A.gHe A.hSe A.gSe hr' (by show c.gz = _;exact hgz) (fs:=_ :: fs) (by show c.frs.map _ = _;rw [hfs];rfl) bLen bRange (by exact hP) hst d5 ?_
 (refine Sps.argC (by rfl) ?_;walk_at "j1";refine Sps.argC (by rfl) ?_;walk_at "j1";refine Sps.argN ?_)
 refine rounds_spec (n:=n) Hd It Fm Fm.gTranslate bLen A.hRo A.hPl A.gPl A.hTe A.gTe A.hTk A.gTk bList hr' hst d5 ond olt fun rs r1 r2=>?_
 (refine Sto.loc1 (by rfl) ?_;refine Exs.cons ?_;refine Ex.forsG ?_ (by intro _;rfl);refine Ev.cT (by assumption) (by kernel_rfl) (by rfl) (by kernel_rfl) ?_;refine Sps.argC (by rfl) ?_;refine Ev.cB (by assumption) (by kernel_rfl) (by rfl) (by kernel_rfl) ?_;refine Sps.argC (by rfl) ?_;walk_at "j1";refine Sps.argN ?_)
 refine Cal.lenL (LA.frz _) (i5m ol5) ?_
 rw [List.length_map]
 (refine Sps.argN ?_)
 refine Cal.range1 ?_
 have os5:os.length ≤ 5:=by rw [o1];exact d5
 have rl5:rs.length ≤ 5:=by rw [r1];exact ol5
 have hos:∀ k (hk:k < ds.length),∃ o,(os.map AV.obj)[k]? = some (.obj o) ∧ ISet W₀ o (pastB ds k):=fun k hk=>by
  have hk2:k < os.length:=by rw [o1];exact hk
  exact ⟨os[k],by rw [List.getElem?_map,List.getElem?_eq_getElem hk2];rfl,o2 k _ (List.getElem?_eq_getElem hk2)⟩
 refine .mk _ _ (Itb.rngN (n:=ord.length) (n62 ol5)) (fun pre σ'=>Lf σ' ⟨[("rounds",.lst (rs.map inA1)),("order",inA1 ord),("draws",drawsA ds)],[("past",.lst (os.map .obj))],σ.H⟩) (.of ⟨rfl,rfl,rfl,trivial⟩ ⟨rfl,trivial⟩ rfl) (fun pre y post σ' e l=>?_) (fun σ' l=>?_) (fun _ _ _=>trivial)
 ·obtain ⟨rfl,hk⟩:=rng_pre e
  generalize pre.length = m at hk ⊢
  have hm:m < rs.length:=by rw [r1];exact hk
  obtain ⟨o,hI,hq,ho⟩:=r2 m _ (List.getElem?_eq_getElem hm)
  have hdl:=done5 hI (Nat.le_trans (List.length_take_le' _ _) ol5)
  have ha1:=ask1 d5 hI hq
  have erm:(rs.map inA1)[m]? = some (inA1 o.done):=by rw [List.getElem?_map,List.getElem?_eq_getElem hm,← ho];rfl
  refine Op1.weakP l ?_
  (refine Asn.name ?_;refine Sto.loc1 (by rfl) ?_;refine Exs.cons ?_;refine Ex.asg1 (by rfl) ?_;refine Ev.cT (by assumption) (by kernel_rfl) (by rfl) (by kernel_rfl) ?_;refine Sps.argC (by rfl) ?_;refine Ev.slc ?_;walk_at "j1";refine Bnd.no ?_;refine Bnd.yes ?_;refine Ev.binop ?_;walk_at "j1";refine Ev.int ?_;refine O.add ?_;refine ⟨_,rfl,?_⟩)
  refine Sli.list1 (by intros;with_unfolding_all rfl) (LA.frz _) (s5m ol5) ?_
  rw [show (m:Int) + 1 = ((m + 1:Nat):Int) from rfl,slcToA,← List.map_take]
  (refine Sps.argN ?_)
  refine Cal.setL (LA.frz _) (tk10 ol5) fun so hso=>?_
  have hso:WSet W₀ so (inC (ord.take (m + 1))):=hso
  (refine Sto.cel1 (by rfl) (by rfl) (by kernel_rfl) ?_;refine Exs.cons ?_;refine Ex.ifs ?_;refine Tr.cmp1 (by with_unfolding_all rfl) ?_;refine Ev.cB (by assumption) (by kernel_rfl) (by rfl) (by kernel_rfl) ?_;refine Sps.argC (by rfl) ?_;refine Ev.sub ?_;walk_at "j1";walk_at "j1")
  refine I.listN (by intros;with_unfolding_all rfl) (.frz _) erm (s5m rl5) ?_
  (refine Sps.argN ?_)
  refine Cal.sortedI (LA.frz _) (Nat.lt_of_le_of_lt hdl (by decide)) ?_
  skip
  refine Ev.lc (by rfl) ?_ (by kernel_rfl) (by kernel_rfl) (by rfl) (by intro _;rfl)
  (refine Ev.cT (by assumption) (by kernel_rfl) (by rfl) (by kernel_rfl) ?_;refine Sps.argC (by rfl) ?_;refine Ev.cB (by assumption) (by kernel_rfl) (by rfl) (by kernel_rfl) ?_;refine Sps.argC (by rfl) ?_;walk_at "j1";refine Sps.argN ?_)
  refine Cal.lenL (.frz _) (i5m d5) ?_
  rw [List.length_map]
  (refine Sps.argN ?_)
  refine Cal.range1 ?_
  refine ⟨_,Itb.rngN (n:=ds.length) (n62 d5),Turns.lst (fltF fun k=>subB (pastB ds k) (inC (ord.take (m + 1)))) ?_ ?_ ?_⟩
  ·intro C G acc y hy
   obtain ⟨k,hk,rfl⟩:=List.mem_map.mp hy
   have hk:=List.mem_range.mp hk
   obtain ⟨ok,k1,k2⟩:=hos k hk
   have eF:fltF (fun k=>subB (pastB ds k) (inC (ord.take (m + 1)))) (.int (k:Int)) = if subB (pastB ds k) (inC (ord.take (m + 1))) then some (.int (k:Int)) else none:=rfl
   (refine Asn.name ?_;refine Sto.loc1 (by rfl) ?_;refine Ifs.one ?_;refine Tr.cmp1 (by with_unfolding_all rfl) ?_;refine Ev.sub ?_;refine Ev.cel (by rfl) (by rfl) (by rfl) ?_ (by kernel_rfl);walk_at "j1")
   refine I.listN (by intros;with_unfolding_all rfl) (.frz _) k1 (s5m os5) ?_
   (refine Ev.cel (by rfl) (by rfl) (by rfl) ?_ (by kernel_rfl))
   refine O.leSet k2 hso hr'.u ?_
   cases hz:subB (pastB ds k) (inC (ord.take (m + 1))) with
   | false=>
    rw [hz] at eF
    (refine T.bool ?_;refine ite_N (by rfl) ?_)
    exact ⟨eF,.mm trivial rfl rfl⟩
   | true=>
    rw [hz] at eF
    (refine T.bool ?_;refine ite_T (by rfl) ?_;walk_at "j1")
    exact ⟨eF,.mm trivial rfl rfl⟩
  ·exact s5r d5
  intro G
  refine .lst G _ [] _ rfl rfl ?_
  rw [flt_all,← ha1]
  skip
  refine O.neL (LA.frz _) (LA.frz _) (plains_map _ _ (fun _=>rfl) _) (plains_map _ _ (fun _=>rfl) _) hr'.u ?_
  (refine T.bool ?_;refine ite_N (by rw [eq_ints,Bool.not_true] <;> rfl) ?_;refine Exs.nil ?_;refine Exs.nil ?_)
  exact .of ⟨rfl,rfl,rfl,trivial⟩ ⟨rfl,trivial⟩ rfl
 ·refine Go.weakP (Lf.le l) ?_
  have hm:ord.length - 1 < rs.length:=by lia
  obtain ⟨o,hI,hq,ho⟩:=r2 (ord.length - 1) _ (List.getElem?_eq_getElem hm)
  have hdl:=done5 hI (Nat.le_trans (List.length_take_le' _ _) ol5)
  have erl:(rs.map inA1).getLast? = some (inA1 o.done):=by
   rw [List.getLast?_eq_getElem?,List.length_map,r1,List.getElem?_map,List.getElem?_eq_getElem hm,← ho];rfl
  have hdN:∀ j ∈ o.done,j < ds.length:=fun j hj=>hI.lt j (hI.perm.mem_iff.mp (List.mem_append_right _ hj))
  (refine Exs.cons ?_;refine Ex.asg1 (by rfl) ?_;refine Ev.sub ?_;walk_at "j1";refine Ev.una ?_;refine Ev.int ?_;refine O.neg ?_)
  refine I.listLast (by intros;with_unfolding_all rfl) (.frz _) erl ?_
  (refine Sto.cel1 (by rfl) (by rfl) (by kernel_rfl) ?_;refine Exs.cons ?_;refine Ex.ret ?_;refine Ev.cmp1 (by with_unfolding_all rfl) ?_)
  refine Ev.lc (by rfl) ?_ (by kernel_rfl) (by kernel_rfl) (by rfl) (by intro _;rfl)
  (refine Ev.cT (by assumption) (by kernel_rfl) (by rfl) (by kernel_rfl) ?_;refine Sps.argC (by rfl) ?_;refine Ev.cB (by assumption) (by kernel_rfl) (by rfl) (by kernel_rfl) ?_;refine Sps.argC (by rfl) ?_;refine Ev.cel (by rfl) (by rfl) (by rfl) ?_ (by kernel_rfl);refine Sps.argN ?_)
  refine Cal.lenL (.frz _) (i5m hdl) ?_
  rw [List.length_map]
  (refine Sps.argN ?_)
  refine Cal.range1 ?_
  refine ⟨_,Itb.rngN (n:=o.done.length) (n62 hdl),Turns.lst (fun _=>Option.none) ?_ ?_ ?_⟩
  ·intro C G acc y hy
   obtain ⟨k,hk,rfl⟩:=List.mem_map.mp hy
   have hk:=List.mem_range.mp hk
   have edk:(o.done.map fun (i:Nat)=>AV.int (i:Int))[k]? = some (.int ((o.done.getD k 0:Nat):Int)):=by
    rw [List.getElem?_map,List.getD_eq_getElem?_getD,List.getElem?_eq_getElem hk];rfl
   have hkd:o.done.getD k 0 < ds.length:=hdN _ (by rw [List.getD_eq_getElem?_getD,List.getElem?_eq_getElem hk];exact List.getElem_mem hk)
   obtain ⟨ok,k1,k2⟩:=hos _ hkd
   have ha2:=ask2 hI hk
   (refine Asn.name ?_;refine Sto.loc1 (by rfl) ?_;refine Ifs.one ?_;refine Tr.neg ?_;refine Tr.cmp1 (by with_unfolding_all rfl) ?_;refine Ev.sub ?_;refine Ev.cel (by rfl) (by rfl) (by rfl) ?_ (by kernel_rfl);refine Ev.sub ?_;refine Ev.cel (by rfl) (by rfl) (by rfl) ?_ (by kernel_rfl);walk_at "j1")
   refine I.listN (by intros;with_unfolding_all rfl) (.frz _) edk (s5m hdl) ?_
   skip
   refine I.listN (by intros;with_unfolding_all rfl) (.frz _) k1 (s5m os5) ?_
   (refine Ev.cT (by assumption) (by kernel_rfl) (by rfl) (by kernel_rfl) ?_;refine Sps.argC (by rfl) ?_;refine Ev.slc ?_;refine Ev.cel (by rfl) (by rfl) (by rfl) ?_ (by kernel_rfl);refine Bnd.no ?_;refine Bnd.yes ?_;refine Ev.binop ?_;walk_at "j1";refine Ev.int ?_;refine O.add ?_;refine ⟨_,rfl,?_⟩)
   refine Sli.list1 (by intros;with_unfolding_all rfl) (LA.frz _) (s5m hdl) ?_
   rw [show (k:Int) + 1 = ((k + 1:Nat):Int) from rfl,slcToA,← List.map_take]
   (refine Sps.argN ?_)
   refine Cal.setL (LA.frz _) (tk10 hdl) fun so hso=>?_
   have hso:WSet W₀ so (inC (o.done.take (k + 1))):=hso
   refine O.leSet k2 hso hr'.u ?_
   (refine T.bool ?_;refine ite_N (by rw [ha2] <;> rfl) ?_)
   exact ⟨rfl,.mm trivial rfl rfl⟩
  ·exact s5r hdl
  intro G
  refine .lst G _ [] _ rfl rfl ?_
  rw [show ∀ l:List AV,l.filterMap (fun _=>(Option.none:Option AV)) = [] from fun l=>by induction l with | nil=>rfl | cons a l ih=>exact ih]
  skip
  refine Ev.lstF ?_
  (refine Sps.argN ?_)
  refine ⟨sl _ (Nat.zero_le _),?_⟩
  skip
  refine O.eqL (LA.frz _) (LA.frz _) (by rfl) (by rfl) hr'.u ?_
  rw [eqA_lst0]
  skip
  rw [← hQ']
  exact .mk σ ⟨fun _ _ e=>e,fun _ _ e=>e,List.Sublist.refl _⟩ h
end
end
end Lw
end
section
open PySem PySem.Calls PySem.W PyProof.Rows
set_option maxRecDepth 20000
set_option maxHeartbeats 1000000
namespace Lw
noncomputable def less (K:Frag) (out:List Addr):Frag:=K.filter fun q=>!out.contains q.1
theorem empty_none (a:Addr):({}:Heap).get? a = none:=by
 cases q:({}:Heap).get? a with
 | none=>rfl
 | some o=>exact absurd (Heap.lt_size q) (by show ¬ a < (#[]:Array Obj).size;simp)
theorem less_lookup {K:Frag} {out:List Addr} {a:Addr} {o:Obj} (h:(less K out).lookup a = some o):K.lookup a = some o ∧ a ∉ out:=by
 unfold less at h
 induction K with
 | nil=>cases h
 | cons q K ih=>
  obtain ⟨b,ob⟩:=q
  rw [List.filter_cons] at h
  rw [List.lookup_cons]
  by_cases hc:(!out.contains b) = true
  ·rw [if_pos hc,List.lookup_cons] at h
   cases hx:a == b with
   | true=>
    rw [hx] at h
    obtain rfl:=beq_iff_eq.mp hx
    exact ⟨h,by simpa using hc⟩
   | false=>rw [hx] at h;exact ih h
  ·rw [if_neg hc] at h
   cases hx:a == b with
   | true=>
    obtain rfl:=beq_iff_eq.mp hx
    exact absurd (by simpa using (ih h).2) hc
   | false=>exact ih h
theorem rest_in {K:Frag} {h:Heap} {out:List Addr} (X:K.In h):(less K out).In (rest h {} out):=fun a o e=>
 (rest_get _ _ _ _ _).mpr ⟨X _ _ (less_lookup e).1,empty_none _,(less_lookup e).2⟩
theorem rest_stays (h:Heap) (out:List Addr):(rest h {} out).StaysIn h:=fun a o e=>((rest_get _ _ _ _ _).mp e).1
theorem rest_at {h:Heap} {out:List Addr} {a:Addr} {o:Obj} (e:h.get? a = some o) (n:a ∉ out):(rest h {} out).get? a = some o:=(rest_get _ _ _ _ _).mpr ⟨e,empty_none _,n⟩
theorem rest_ns {h:Heap} {out:List Addr} {a:Addr} {m:PySem.Str → Option Value} (e:h.Ns a m) (n:a ∉ out):(rest h {} out).Ns a m:=let ⟨o,es,ep,ho,r⟩:=e;⟨o,es,ep,rest_at ho n,r⟩
noncomputable def w0 (prog:Program) (w:World) (s₁:Shared) (K:Frag) (out:List Addr) (hsm:∃ o,s₁.heap.get? sysModules = some o) (lim:s₁.heap.NoLimit) (KX:K.In s₁.heap) (h1:sysModules ∉ out) (h2:cStatics ∉ out):Wld where
 prog:=prog
 w:=w
 g0:=rest s₁.heap {} out
 os:=s₁.os
 hsm:=let ⟨o,e⟩:=hsm;⟨o,rest_at e h1⟩
 lim:=let ⟨mc,n,e⟩:=lim;⟨mc,rest_ns n h2,e⟩
 K:=less K out
 inK:=rest_in KX
 h0:=s₁.heap
noncomputable def rootCx (W₀:Wld) (Lx:Addr):Cx W₀ where
 A:=callerA
 env:={ scope:={ kind:=.function,names:=[],isGenerator:=false,isCoroutine:=false },locals:=Lx,globals:=mainGlobals,cells:=[],builtins:=builtinsNs }
 hh:=rfl
 hk:=rfl
 hg:=rfl
 hb:=rfl
 fz:=true
 frs:=some []
 hfr:=fun l e=>by cases e;exact ⟨rfl,fun _ h=>nomatch h⟩
theorem rootCx.room (W₀:Wld) (Lx:Addr):(rootCx W₀ Lx).Room 100:=⟨by show (1 + claimMargin) + 2 * 100 < 600;decide,by show 4 + 20 * 100 < 9000;decide⟩
section
variable {prog:Program} {w:World} {s₁:Shared} {K:Frag} {out:List Addr} {hsm:∃ o,s₁.heap.get? sysModules = some o} {lim:s₁.heap.NoLimit} {KX:K.In s₁.heap} {h1:sysModules ∉ out} {h2:cStatics ∉ out}
theorem root_run {c:ClaimW} {cl:PySem.Str → Option Addr} {mean:ExcName → Option Value} {args:List WData} {Lx aL f:Addr} {T:List (Addr × Addr)} {vs:List Value} {script:List Int}
  (ho:out = Lx :: T.map (·.1)) (hT:∀ q ∈ T,CodeHd (rest s₁.heap {} out) q.2 q.1 ∧ ∃ p0,s₁.heap.get? q.1 = some { cls:=.none,data:=.fields p0 } ∧ TriplesOk p0.toList) (hnd:out.Nodup) (hL:∃ m,s₁.heap.Ns Lx m)
  (hol:s₁.heap.get? aL = some { cls:=.type "list",data:=.seq vs.toArray }) (haL:aL ∉ out) (hi:IntsAre vs script) (hg:AllBare s₁.gens)
  (hr:∀ cls,c.raises args cls = false) (hp:c.post args (.bool true) args = true)
  (h:Cal (rootCx (w0 prog w s₁ K out hsm lim KX h1 h2) Lx) (.ref f) [.lst (script.map .int)] [] ⟨[],[],T.map fun q=>(q.1,.text q.2)⟩ fun y σ'=>y = .bool true ∧ σ'.H = T.map fun q=>(q.1,.text q.2)) :
  wpAny (model prog w) callerA (call (.ref f) [.ref aL]) (fun v s'=>GoodWG c cl mean args s₁ (.ok (.ret v)) s') (fun e s'=>GoodWG c cl mean args s₁ (.error e) s') s₁:=by
 subst ho
 have Tm:∀ q ∈ T,q.1 ∈ Lx :: T.map (·.1):=fun q hq=>.tail _ (List.mem_map_of_mem hq)
 have noB:∀ a ∈ Lx :: T.map (·.1),(rest s₁.heap {} (Lx :: T.map (·.1))).get? a = none:=fun a ha=>by
  cases q:(rest s₁.heap {} (Lx :: T.map (·.1))).get? a with
  | none=>rfl
  | some o=>exact absurd ha ((rest_get _ _ _ _ _).mp q).2.2
 have intsV:∀ (vs:List Value) (ns:List Int) (b:Heap),IntsAre vs ns → VRs prog w b (ns.map .int) vs:=by
  intro vs ns b hi
  induction ns generalizing vs with
  | nil=>cases vs with
   | nil=>rfl
   | cons v r=>exact absurd (IntsAre.length hi) (by simp)
  | cons n ns ih=>
   cases vs with
   | nil=>exact absurd (IntsAre.length hi) (by simp)
   | cons v r=>
    refine byG fun Gq kq=>?_
    obtain ⟨n',t,e1,e2⟩:=IntsAre.at hi 0 v rfl
    refine kq ?_
    cases e2
    exact ⟨v,r,rfl,⟨t,e1⟩,ih r (by cases hi;assumption)⟩
 have S:Sim (rootCx (w0 prog w s₁ K _ hsm lim KX h1 h2) Lx) (rest s₁.heap {} (Lx :: T.map (·.1))) (rest s₁.heap (rest s₁.heap {} (Lx :: T.map (·.1))) (T.map (·.1))) ⟨[],[],T.map fun q=>(q.1,.text q.2)⟩ s₁:={
  g0:=stays_refl _
  kb:=rest_stays _ _
  kk:=.of fun a o e=>((rest_get _ _ _ _ _).mp e).1
  flk:=fun a ha=>by cases ha
  ns:=let ⟨m,hm⟩:=hL;⟨m,hm,fun x a e=>by cases e⟩
  bk:=fun a o e=>((rest_get _ _ _ _ _).mp e).2.1
  offL:=⟨noB _ (.head _),fun e=>by cases e⟩
  cells:=fun x a e=>by cases (show ([]:List (PySem.Str × Addr)).lookup x = some a from e)
  cinj:=fun x y a e=>by cases (show ([]:List (PySem.Str × Addr)).lookup x = some a from e)
  led:=fun q hq=>by
   refine byG fun Gq kq=>?_
   obtain ⟨r,hr,rfl⟩:=List.mem_map.mp hq
   obtain ⟨hc,p0,e,ht⟩:=hT r hr
   refine kq ?_
   refine ⟨⟨p0,e,ht,hc,p0,#[],e,by rw [Array.append_empty]⟩,noB _ (Tm r hr),?_,fun e=>?_⟩
   ·cases q:(rest s₁.heap (rest s₁.heap {} (Lx :: T.map (·.1))) (T.map (·.1))).get? r.1 with
    | none=>rfl
    | some o=>exact absurd (List.mem_map_of_mem hr) ((rest_get _ _ _ _ _).mp q).2.2
   ·exact (List.nodup_cons.mp hnd).1 (List.mem_map.mpr ⟨r,hr,e⟩)
  nd:=by rw [List.map_map];exact (List.nodup_cons.mp hnd).2
  os:=rfl
  gens:=⟨fun _=>hg,fun z e=>by cases e⟩ }
 refine wpAny_mono (h _ _ s₁ [.ref aL] [] S ⟨_,_,rfl,⟨aL,vs,rfl,⟨0,rest_at hol haL⟩,intsV vs script _ hi⟩,rfl⟩ ⟨rfl,rfl⟩) (fun v s' zP=>Post.elim zP fun b' y σ' st S' r' ⟨hy,hH⟩=>?_) fun _ _ z=>z.elim
 subst hy
 rw [show v = .bool true from r']
 have there:∀ b o,s₁.heap.get? b = some o → asItWas s₁.heap s'.heap b o ∧ ∃ o',s'.heap.get? b = some o':=fun b o e=>by
  by_cases hb:b ∈ Lx :: T.map (·.1)
  ·rcases List.mem_cons.mp hb with rfl | hb
   ·have:=S'.kk.at (a:=b) (o:=o) (fun h=>by cases h) ((rest_get _ _ _ _ _).mpr ⟨e,noB _ (.head _),fun h=>(List.nodup_cons.mp hnd).1 h⟩)
    exact ⟨.inl this,_,this⟩
   ·refine byG fun Gq kq=>?_
    obtain ⟨r,hr,rfl⟩:=List.mem_map.mp hb
    obtain ⟨⟨oc,cs,file,tf,flags,tg,inF,text,tt,c1,c2,c3,c4,_⟩,_⟩:=hT r hr
    obtain ⟨⟨ps,e1,_,_,p0,more,e2,e3⟩,_⟩:=S'.led (r.1,.text r.2) (by rw [hH];exact List.mem_map.mpr ⟨r,hr,rfl⟩)
    refine kq ?_
    have e2':s₁.heap.get? r.1 = some { cls:=.none,data:=.fields p0 }:=e2
    rw [e] at e2'
    cases e2'
    refine ⟨.inr (.inl ⟨⟨r.2,oc,cs,rest_stays _ _ _ _ c1,c2,c3,getD_some c4⟩,rfl,p0,more,rfl,?_⟩),_,e1⟩
    rw [← e3];exact e1
  ·have:=S'.kb _ _ (st _ _ (rest_at e hb))
   exact ⟨.inl this,_,this⟩
 refine ⟨.inl ⟨_,_,[],rfl,hr,ReadsW.bool true,hp,fun _=>⟨List.nodup_nil,fun _ hm=>(nomatch hm)⟩⟩,⟨fun b o e=>(there b o e).1,fun b o e=>(there b o e).2⟩,S'.os,S'.gens.1 rfl⟩
end
end Lw
end
section
open PySem PySem.Calls PySem.W PyProof.Rows
set_option maxRecDepth 20000
set_option maxHeartbeats 1000000
namespace Lw
noncomputable def obj (K:Frag) (a:Addr):Obj:=(K.lookup a).getD default
noncomputable def fld (K:Frag) (a:Addr) (i:Nat):Value:=match (obj K a).data with | .fields fs=>fs.getD i .none | _=>.none
noncomputable def itm (K:Frag) (a:Addr) (i:Nat):Value:=match (obj K a).data with | .seq xs _=>xs.getD i .none | _=>.none
noncomputable def itms (K:Frag) (a:Addr):Array Value:=match (obj K a).data with | .seq xs _=>xs | _=>#[]
noncomputable def num (K:Frag) (a:Addr):Nat:=match (obj K a).data with | .seq _ n=>n | .dict _ n=>n | _=>0
noncomputable def ents (K:Frag) (a:Addr):Array DictEntry:=match (obj K a).data with | .dict es _=>es | _=>#[]
noncomputable def fdOf (K:Frag) (a:Addr):FuncData:=match (obj K a).data with | .func fd=>fd | _=>default
noncomputable def tokI:Value → Tok | .int _ t=>t | _=>0
noncomputable def tokS:Value → Tok | .str _ t=>t | _=>0
noncomputable def refOf:Value → Addr | .ref a=>a | _=>0
noncomputable def arr (K:Frag) (a:Addr):Array Value:=match (obj K a).data with | .fields fs=>fs | _=>#[]
structure GbM (W₀:Wld):Prop where
 g:∃ mg,W₀.g0.Ns mainGlobals mg
 b:∃ mb,W₀.g0.Ns builtinsNs mb ∧ ∀ x:PySem.Str,x ≠ "__name__" → mb x = bootBuiltins x
section
variable {W₀:Wld}
theorem gN.of {x:PySem.Str} {v:Value} (G:GbM W₀) (e:nsIn W₀.K mainGlobals x = some (some v)):gN W₀ x v:=let ⟨mg,h⟩:=G.g;⟨mg,h,mg_of W₀.inK h e⟩
theorem bN.of {x:PySem.Str} {v:Value} (G:GbM W₀) (e:nsIn W₀.K mainGlobals x = some Option.none) (hv:bootBuiltins x = some v) (hn:x ≠ "__name__":=by decide):bN W₀ x v:=
 let ⟨mg,h⟩:=G.g;let ⟨mb,hb,hm⟩:=G.b;⟨mg,mb,h,mg_none_of W₀.inK h e,hb,(hm x hn).trans hv⟩
theorem Def.of {f:Addr} {F:Fn} {d kd:Value} (h:W₀.K.lookup f = some (obj W₀.K f)) (hd:(obj W₀.K f).data = .func (mkFd F (fdOf W₀.K f).qualname d kd (fdOf W₀.K f).doc (fdOf W₀.K f).pyModule (.ref (refOf (fdOf W₀.K f).code))))
  (hc:W₀.K.lookup (refOf (fdOf W₀.K f).code) = some (obj W₀.K (refOf (fdOf W₀.K f).code))) (hf:(obj W₀.K (refOf (fdOf W₀.K f).code)).data = .fields (arr W₀.K (refOf (fdOf W₀.K f).code)))
  (h1:(arr W₀.K (refOf (fdOf W₀.K f).code))[1]? = some (.str (fdOf W₀.K f).qualname (tokS (fld W₀.K (refOf (fdOf W₀.K f).code) 1))))
  (k1:F.scope.kind = .function) (k2:F.scope.isCoroutine = false) (k3:F.scope.isGenerator = false):Def W₀ f F d kd where
 ex:=⟨_,_,_,_,_,W₀.inK _ _ h,hd,_,_,_,_,rfl,W₀.inK _ _ hc,hf,h1⟩
 kind:=k1
 co:=k2
 gen:=k3
theorem PatAt.of {a ca:Addr} {cd:List Nat} (h1:W₀.K.lookup a = some (obj W₀.K a)) (h2:(obj W₀.K a).cls = .type "re.Pattern") (h3:(obj W₀.K a).dict = Option.none)
  (h4:(obj W₀.K a).data = .fields #[fld W₀.K a 0,fld W₀.K a 1,.int 0 (tokI (fld W₀.K a 2)),fld W₀.K a 3,fld W₀.K a 4,.ref ca,.int 0 (tokI (fld W₀.K a 6))])
  (h6:W₀.K.lookup ca = some (obj W₀.K ca)) (h7:(obj W₀.K ca).data = .seq (itms W₀.K ca) (num W₀.K ca)) (h8:((itms W₀.K ca).map Builtin.Re.reRawOf).map (·.toNat) = cd.toArray):PatAt W₀.g0 a cd where
 ex:=⟨_,_,_,_,_,_,_,.none,_,_,_,W₀.inK _ _ h1,h2,h3,h4,⟨_,rfl⟩,⟨_,W₀.inK _ _ h6,h7⟩,h8⟩
theorem BoundAt.of {u:Addr} {id:String} {self:Value} (h1:W₀.K.lookup u = some (obj W₀.K u)) (h2:(obj W₀.K u).cls = .type "builtin_function_or_method") (h3:(obj W₀.K u).data = .fields #[.builtin id,self]):BoundAt W₀.g0 u id self:=⟨_,W₀.inK _ _ h1,h2,h3⟩
theorem DflAt.of {T:Addr} {items:List Value} (h1:W₀.K.lookup T = some (obj W₀.K T)) (h2:(obj W₀.K T).data = .seq items.toArray (num W₀.K T)):DflAt W₀.g0 T items:=⟨_,_,W₀.inK _ _ h1,h2⟩
theorem BltM.of {bm:Addr} (G:GbM W₀) (e:nsIn W₀.K mainGlobals "__builtins__" = some (some (.ref bm))) (hb:bm ≠ builtinsNs) (h1:W₀.K.lookup bm = some (obj W₀.K bm)) (h2:(obj W₀.K bm).cls = .type "module") (h3:(obj W₀.K bm).dict = some builtinsNs) (h4:(obj W₀.K bm).data = .plain):BltM W₀:=
 let ⟨mg,h⟩:=G.g;⟨mg,bm,_,h,mg_of W₀.inK h e,hb,W₀.inK _ _ h1,h2,h3,h4⟩
noncomputable def escB (es:Array DictEntry):Bool:=(es.toList.all fun e=>match e.key with | .int i _=>(specials.any fun x=>i == (x:Int)) && e.hash == hashInt i | _=>false) &&
 specials.all fun (x:Nat)=>match findBy Value.isInt es (x:Int) with | some (.str s _)=>s == mkS [92,x] | _=>false
theorem EscAt.of {d:Addr} (hn:(d == sysModules) = false) (h1:W₀.K.lookup d = some (obj W₀.K d)) (h2:(obj W₀.K d).cls = .type "dict") (h3:(obj W₀.K d).dict = Option.none) (h4:(obj W₀.K d).slots = #[]) (h5:(obj W₀.K d).data = .dict (ents W₀.K d) (num W₀.K d)) (h6:escB (ents W₀.K d) = true):EscAt W₀ d where
 nm:=hn
 ex:=by
  obtain ⟨e1,e2⟩:=Bool.and_eq_true_iff.mp h6
  refine ⟨findBy Value.isInt (ents W₀.K d),⟨_,_,_,W₀.inK _ _ h1,⟨h2,h3,h4⟩,h5,fun e he=>?_,fun k=>rfl⟩,fun x hx=>?_⟩
  ·have:=List.all_eq_true.mp e1 e (by simpa using he)
   cases hk:e.key with
   | int i t=>
    rw [hk] at this
    dsimp only at this
    obtain ⟨_,hh⟩:=Bool.and_eq_true_iff.mp this
    exact ⟨i,by simp [intKind,Value.isInt],show e.hash = hashInt i by simpa using hh⟩
   | _=>rw [hk] at this;cases this
  ·by_cases hs:x ∈ specials
   ·rw [if_pos hs]
    have:=List.all_eq_true.mp e2 x hs
    cases hf:findBy Value.isInt (ents W₀.K d) (x:Int) with
    | none=>rw [hf] at this;cases this
    | some v=>
     rw [hf] at this
     cases v with
     | str s t=>exact ⟨t,by rw [show s = mkS [92,x] by simpa using this]⟩
     | _=>cases this
   ·rw [if_neg hs]
    unfold findBy
    rw [Option.map_eq_none_iff,Array.find?_eq_none]
    intro e he hp
    have:=List.all_eq_true.mp e1 e (by simpa using he)
    cases hk:e.key with
    | int i t=>
     rw [hk] at this hp
     dsimp only at this
     obtain ⟨hh,_⟩:=Bool.and_eq_true_iff.mp this
     obtain ⟨y,hy,e3⟩:=List.any_eq_true.mp hh
     have e4:i = (y:Int):=by simpa using e3
     have e5:i = (x:Int):=by simpa [Value.isInt] using hp
     exact hs (by rw [show x = y by lia];exact hy)
    | _=>rw [hk] at this;cases this
end
end Lw
end
section
open PySem PySem.Calls PySem.W PyProof.Rows
set_option maxRecDepth 20000
set_option maxHeartbeats 1000000
namespace Lw
noncomputable def clsOf (K:Frag) (a:Addr):ClassData:=match (obj K a).data with | .cls cd=>cd | _=>default
section
variable {W₀:Wld}
theorem CodeAt.of {f cc:Addr} (h:W₀.K.lookup f = some (obj W₀.K f)) (hd:(obj W₀.K f).data = .func (fdOf W₀.K f)) (hc:(fdOf W₀.K f).code = .ref cc):CodeAt W₀ f cc:=⟨_,_,W₀.inK _ _ h,hd,hc⟩
theorem rec_eq {K:Frag} {a f:Addr} {s:String} (h:recIn K a s = some (.ref f :: ((recIn K a s).getD []).tail)):recIn K a s = some (.ref f :: ((recIn K a s).getD []).tail):=h
theorem rec_ex {K:Frag} {a f:Addr} {s:String} (h:recIn K a s = some (.ref f :: ((recIn K a s).getD []).tail)):∃ r,recIn K a s = some (.ref f :: r):=⟨_,h⟩
theorem dfl2s {T:Addr} {s1 s2:PySem.Str} (h1:W₀.K.lookup T = some (obj W₀.K T)) (h2:(obj W₀.K T).data = .seq [.str s1 (tokS (itm W₀.K T 0)),.str s2 (tokS (itm W₀.K T 1))].toArray (num W₀.K T)):∃ t1 t2,DflAt W₀.g0 T [.str s1 t1,.str s2 t2]:=⟨_,_,DflAt.of h1 h2⟩
theorem dfl1i {T:Addr} {i:Int} (h1:W₀.K.lookup T = some (obj W₀.K T)) (h2:(obj W₀.K T).data = .seq [.int i (tokI (itm W₀.K T 0))].toArray (num W₀.K T)):∃ t1,DflAt W₀.g0 T [.int i t1]:=⟨_,DflAt.of h1 h2⟩
theorem obj_cls {a:Addr} (h1:W₀.K.lookup a = some (obj W₀.K a)) (h2:(obj W₀.K a).cls = .type "type"):∃ o,W₀.K.lookup a = some o ∧ o.cls ≠ .type "tuple":=⟨_,h1,by rw [h2];decide⟩
theorem obj_ex {a:Addr} (h1:W₀.K.lookup a = some (obj W₀.K a)):∃ o,W₀.K.lookup a = some o:=⟨_,h1⟩
theorem Pk.of {α:Type} {t:Sem α} {r:α} (h:peek W₀.K ⟨W₀.prog,W₀.w.params⟩ t = some r):Pk W₀ t r:=h
theorem noneIn.of {C:Addr} {names:List PySem.Str} (h:(names.all fun n=>findIn W₀.K (.ref C) n == some Option.none) = true):noneIn W₀ C names:=h
theorem Pk.ex {α:Type} {t:Sem α} (h:(peek W₀.K ⟨W₀.prog,W₀.w.params⟩ t).isSome = true):∃ r,Pk W₀ t r:=by
 unfold Pk
 cases q:peek W₀.K ⟨W₀.prog,W₀.w.params⟩ t with
 | none=>rw [q] at h;cases h
 | some r=>exact ⟨r,rfl⟩
theorem MakesN.of {C sm fn fI:Addr} (h:W₀.K.lookup C = some ⟨(obj W₀.K C).cls,(obj W₀.K C).dict,.cls (clsOf W₀.K C),(obj W₀.K C).slots⟩) (a1:(clsOf W₀.K C).abstract = false) (a2:(clsOf W₀.K C).hasDel = false) (a3:(clsOf W₀.K C).mro.isEmpty = false)
  (call:Pk W₀ (specialOf (.ref C) "__call__") (some (.builtin "type.__call__"))) (typ:Pk W₀ (isInstance (.ref C) (.type "type")) true) (made:Pk W₀ (Bind.madeBy (.ref C)) Option.none) (here:Pk W₀ (Bind.madeHere "object.__new__" (.ref C)) ())
  (base:Pk W₀ (Bind.staticBase (.ref C)) (.type "object")) (mo:Pk W₀ (Bind.madeBy (.type "object")) (some "object.__new__")) (self:Pk W₀ (isSubtype (.ref C) (.ref C)) true) (top:Pk W₀ (isSubtype (.ref C) (.type "object")) true)
  (rd:readsIn W₀.K C (.type "type") = true) (new:findCls W₀.K (.ref C) (.type "type") "__new__" = some (.get (.builtin "staticmethod.__get__") (.ref sm) .none (.ref C)))
  (hsm:recIn W₀.K sm "staticmethod" = some (.ref fn :: ((recIn W₀.K sm "staticmethod").getD []).tail)) (init:findIn W₀.K (.ref C) "__init__" = some (some (.ref fI))) (hfn:typeIn W₀.K (.ref fI) = some (.type "function")):MakesN W₀ C sm fn fI where
 cls:=⟨_,_,_,_,h,a1,a2,a3⟩
 call:=call
 typ:=typ
 made:=made
 here:=here
 base:=base
 mo:=mo
 self:=self
 top:=top
 rd:=rd
 new:=new
 sm:=rec_ex hsm
 init:=init
 fn:=hfn
theorem CodeHd.of {h:Heap} {out:List Addr} {K:Frag} {cc P:Addr} (X:K.In h) (hc:K.lookup cc = some (obj K cc)) (h1:(obj K cc).cls = .type "code") (h2:(obj K cc).data = .fields (arr K cc)) (h3:(arr K cc).getD 11 .none = .ref P) (h4:(arr K cc).getD 18 .none = .str (match (arr K cc).getD 18 .none with | .str s _=>s | _=>"") (tokS ((arr K cc).getD 18 .none)))
  (h5:(arr K cc).getD 7 .none = .int (match (arr K cc).getD 7 .none with | .int s _=>s | _=>0) (tokI ((arr K cc).getD 7 .none))) (h6:(arr K cc).getD 9 .none = .bool (match (arr K cc).getD 9 .none with | .bool s=>s | _=>false))
  (h7:(arr K cc).getD 10 .none = .int (match (arr K cc).getD 10 .none with | .int s _=>s | _=>0) (tokI ((arr K cc).getD 10 .none))) (hne:cc ≠ P) (hout:cc ∉ out):CodeHd (rest h {} out) cc P:=
 ⟨_,_,_,_,_,_,_,_,_,rest_at (X _ _ hc) hout,h1,h2,h3,h4,h5,h6,h7,hne⟩
theorem ex_at {h:Heap} {K:Frag} {a:Addr} (X:K.In h) (hc:K.lookup a = some (obj K a)):∃ o,h.get? a = some o:=⟨_,X _ _ hc⟩
theorem rec_at {h:Heap} {K:Frag} {a:Addr} (X:K.In h) (hc:K.lookup a = some { cls:=.none,data:=.fields #[] }):∃ p0,h.get? a = some { cls:=.none,data:=.fields p0 } ∧ TriplesOk p0.toList:=⟨#[],X _ _ hc,by simp [TriplesOk]⟩
theorem ns_at {h:Heap} {K:Frag} {a:Addr} (X:K.In h) (hc:K.lookup a = some { cls:=.type "dict",data:=.dict #[] (num K a) }):∃ m,h.Ns a m:=⟨fun _=>none,_,_,_,X _ _ hc,rfl,by intro e he;simp at he,fun name=>rfl⟩
end
end Lw
end
section
open PySem PySem.Calls PySem.W PyProof.Rows
set_option maxRecDepth 20000
set_option maxHeartbeats 1000000
namespace Lw
theorem fin01 {W₀:Wld} {Lx P cc f:Addr} {script:List Int} (G:GbM W₀) (M:GbM W₀ → QtM W₀) (Hd:GbM W₀ → HdM W₀) (It:(G:GbM W₀) → HdI W₀ (Hd G)) (Sh:GbM W₀ → ShM W₀) (Fm:GbM W₀ → FnM W₀) (A:GbM W₀ → LwM W₀) (hf:GbM W₀ → Def W₀ f F_law .none .none)
  (b1:GbM W₀ → bN W₀ "len" (.builtin "len")) (b2:GbM W₀ → bN W₀ "range" (.type "range")) (b3:GbM W₀ → bN W₀ "sum" (.builtin "sum")) (b4:GbM W₀ → bN W₀ "sorted" (.builtin "sorted")) (b5:GbM W₀ → bN W₀ "set" (.type "set")) (b6:GbM W₀ → bN W₀ "list" (.type "list")) (hcc:(M G).cc = cc) (hs:script.length ≤ 63) :
  Cal (rootCx W₀ Lx) (.ref f) [.lst (script.map .int)] [] ⟨[],[],[(P,.text cc)]⟩ fun y σ'=>y = .bool true ∧ σ'.H = [(P,.text cc)]:=by
 subst hcc
 exact law_spec (M G) (Hd G) (It G) (Sh G) (Fm G) rfl rfl (.head _) (A G) (hf G) (n:=85) (rootCx.room W₀ Lx) (b1 G) (b2 G) (b3 G) (b4 G) (b5 G) (b6 G) hs ⟨rfl,rfl⟩
end Lw
end
section
open PySem PySem.Calls PySem.W PySem.W.X PyProof.Rows
set_option maxRecDepth 100000
set_option maxHeartbeats 0
namespace Lw
structure TT (mg mb:PySem.Str → Option Value) (h:Heap):Prop where
 g:h.Ns mainGlobals mg
 b:h.Ns builtinsNs mb
 nolimit:h.NoLimit
 builtins:∀ x:PySem.Str,x ≠ "__name__" → mb x = bootBuiltins x
theorem jt {w:World} {s₁:Shared} {mg mb:PySem.Str → Option Value} {cl:PySem.Str → Option Addr} {mean:ExcName → Option Value} {vs:List Value} {script:List Int} (KX:(K01 w.params).In s₁.heap) (T:TT mg mb s₁.heap) (hg:s₁.gens = #[])
  (hol:s₁.heap.get? 994 = some { cls:=.type "list",data:=.seq vs.toArray }) (hi:IntsAre vs script) (hl:¬ ((63:Nat):Int) < (script.length:Int)) :
  wpAny (model Challenge.rw_kt0098_01.row.prog w) callerA ((fun f vs=>call f vs) (Value.ref 993) [Value.ref 994])
  (fun v s'=>
   GoodWG Challenge.rw_kt0098_01.row.claim cl mean
    [ofPy (PyData.list (List.map PyData.int script))] s₁ (Except.ok (Flow.ret v)) s')
  (fun e s'=>
   GoodWG Challenge.rw_kt0098_01.row.claim cl mean
    [ofPy (PyData.list (List.map PyData.int script))] s₁ (Except.error e) s') s₁:=by
 refine root_run (hsm:=ex_at KX (by kernel_rfl)) (lim:=T.nolimit) (KX:=KX) (out:=[6,784]) (Lx:=6) (T:=[(784,788)]) (h1:=by decide) (h2:=by decide) rfl ?_ (by decide) (ns_at KX (by kernel_rfl)) hol (by decide) (by assumption) (.of_eq hg) (fun _=>rfl) (by kernel_rfl) ?_
 ·intro q hq
  rcases List.mem_singleton.mp hq with rfl
  exact ⟨CodeHd.of KX (by kernel_rfl) (by kernel_rfl) (by kernel_rfl) (by kernel_rfl) (by kernel_rfl) (by kernel_rfl) (by kernel_rfl) (by kernel_rfl) (by decide) (by decide),rec_at KX (by kernel_rfl)⟩
 refine fin01 (G:=⟨⟨mg,rest_ns T.g (by decide)⟩,⟨mb,rest_ns T.b (by decide),T.builtins⟩⟩)
  (fun G=>(show QtM _ from { fJ:=789,fQ:=797,u:=790,pq:=87,cc:=788,hJ:=Def.of (by kernel_rfl) (by kernel_rfl) (by kernel_rfl) (by kernel_rfl) (by kernel_rfl) (by kernel_rfl) (by kernel_rfl) (by kernel_rfl),hcc:=CodeAt.of (by kernel_rfl) (by kernel_rfl) (by kernel_rfl),hQ:=Def.of (by kernel_rfl) (by kernel_rfl) (by kernel_rfl) (by kernel_rfl) (by kernel_rfl) (by kernel_rfl) (by kernel_rfl) (by kernel_rfl),hB:=BltM.of (bm:=4) G (by kernel_rfl) (by decide) (by kernel_rfl) (by kernel_rfl) (by kernel_rfl) (by kernel_rfl),gq:=gN.of G (by kernel_rfl),gfu:=gN.of G (by kernel_rfl),bu:=BoundAt.of (by kernel_rfl) (by kernel_rfl) (by kernel_rfl),pp:=PatAt.of (ca:=86) (by kernel_rfl) (by kernel_rfl) (by kernel_rfl) (by kernel_rfl) (by kernel_rfl) (by kernel_rfl) (by kernel_rfl),gJ:=gN.of G (by kernel_rfl) })) (fun G=>(show HdM _ from { C:=930,fI:=822,tI:=815,fCv:=829,fGe:=877,tGe:=870,fSe:=843,fDe:=848,pn:=802,pv:=807,gHd:=gN.of G (by kernel_rfl),kHd:=by kernel_rfl,mks:=by kernel_rfl,fi:=by kernel_rfl,tf:=by kernel_rfl,cls:={ pg:=fun _=>by kernel_rfl,hd:=by kernel_rfl,sa:=by kernel_rfl,po:=by kernel_rfl },no:=noneIn.of (by kernel_rfl),hI:=Def.of (by kernel_rfl) (by kernel_rfl) (by kernel_rfl) (by kernel_rfl) (by kernel_rfl) (by kernel_rfl) (by kernel_rfl) (by kernel_rfl),dI:=DflAt.of (by kernel_rfl) (by kernel_rfl),hCv:=Def.of (by kernel_rfl) (by kernel_rfl) (by kernel_rfl) (by kernel_rfl) (by kernel_rfl) (by kernel_rfl) (by kernel_rfl) (by kernel_rfl),mCv:=⟨by kernel_rfl,by kernel_rfl,by kernel_rfl⟩,hGe:=Def.of (by kernel_rfl) (by kernel_rfl) (by kernel_rfl) (by kernel_rfl) (by kernel_rfl) (by kernel_rfl) (by kernel_rfl) (by kernel_rfl),dGe:=DflAt.of (by kernel_rfl) (by kernel_rfl),mGe:=⟨by kernel_rfl,by kernel_rfl,by kernel_rfl⟩,hSe:=Def.of (by kernel_rfl) (by kernel_rfl) (by kernel_rfl) (by kernel_rfl) (by kernel_rfl) (by kernel_rfl) (by kernel_rfl) (by kernel_rfl),sSe:=by kernel_rfl,iSe:=by kernel_rfl,hDe:=Def.of (by kernel_rfl) (by kernel_rfl) (by kernel_rfl) (by kernel_rfl) (by kernel_rfl) (by kernel_rfl) (by kernel_rfl) (by kernel_rfl),sDe:=by kernel_rfl,iDe:=by kernel_rfl,nq:=by kernel_rfl,gn:=gN.of G (by kernel_rfl),gv:=gN.of G (by kernel_rfl),hpn:=PatAt.of (ca:=801) (by kernel_rfl) (by kernel_rfl) (by kernel_rfl) (by kernel_rfl) (by kernel_rfl) (by kernel_rfl) (by kernel_rfl),hpv:=PatAt.of (ca:=806) (by kernel_rfl) (by kernel_rfl) (by kernel_rfl) (by kernel_rfl) (by kernel_rfl) (by kernel_rfl) (by kernel_rfl),bType:=bN.of G (by kernel_rfl) (by kernel_rfl),bStr:=bN.of G (by kernel_rfl) (by kernel_rfl),bList:=bN.of G (by kernel_rfl) (by kernel_rfl) })) (fun G=>(show HdI _ _ from { fIt:=894,hIt:=Def.of (by kernel_rfl) (by kernel_rfl) (by kernel_rfl) (by kernel_rfl) (by kernel_rfl) (by kernel_rfl) (by kernel_rfl) (by kernel_rfl),mIt:=⟨by kernel_rfl,by kernel_rfl,by kernel_rfl⟩ })) (fun G=>(show ShM _ from { aIO:=635,aB:=388,sm:=132,fNew:=128,fI:=405,tI:=398,fRead:=581,tRead:=574,fChk:=419,fTr:=412,fIdx:=101,mkN:=MakesN.of (by kernel_rfl) (by kernel_rfl) (by kernel_rfl) (by kernel_rfl) (Pk.of (by kernel_rfl)) (Pk.of (by kernel_rfl)) (Pk.of (by kernel_rfl)) (Pk.of (by kernel_rfl)) (Pk.of (by kernel_rfl)) (Pk.of (by kernel_rfl)) (Pk.of (by kernel_rfl)) (Pk.of (by kernel_rfl)) (by kernel_rfl) (by kernel_rfl) (by kernel_rfl) (by kernel_rfl) (by kernel_rfl),objNew:={ op:=Pk.of (by kernel_rfl),hk:=Pk.ex (by kernel_rfl),fc:=by kernel_rfl,ga:=by kernel_rfl,su:=by kernel_rfl },cls:={ pg:=fun _=>by kernel_rfl,hd:=by kernel_rfl,sa:=by kernel_rfl,po:=by kernel_rfl },no:=noneIn.of (by kernel_rfl),hNew:=Def.of (by kernel_rfl) (by kernel_rfl) (by kernel_rfl) (by kernel_rfl) (by kernel_rfl) (by kernel_rfl) (by kernel_rfl) (by kernel_rfl),hI:=Def.of (by kernel_rfl) (by kernel_rfl) (by kernel_rfl) (by kernel_rfl) (by kernel_rfl) (by kernel_rfl) (by kernel_rfl) (by kernel_rfl),dI:=dfl2s (by kernel_rfl) (by kernel_rfl),hRead:=Def.of (by kernel_rfl) (by kernel_rfl) (by kernel_rfl) (by kernel_rfl) (by kernel_rfl) (by kernel_rfl) (by kernel_rfl) (by kernel_rfl),dRead:=dfl1i (by kernel_rfl) (by kernel_rfl),mRead:=⟨by kernel_rfl,by kernel_rfl,by kernel_rfl⟩,hChk:=Def.of (by kernel_rfl) (by kernel_rfl) (by kernel_rfl) (by kernel_rfl) (by kernel_rfl) (by kernel_rfl) (by kernel_rfl) (by kernel_rfl),mChk:=⟨by kernel_rfl,by kernel_rfl,by kernel_rfl⟩,hTr:=Def.of (by kernel_rfl) (by kernel_rfl) (by kernel_rfl) (by kernel_rfl) (by kernel_rfl) (by kernel_rfl) (by kernel_rfl) (by kernel_rfl),mTr:=⟨by kernel_rfl,by kernel_rfl,by kernel_rfl⟩,hIdx:=Def.of (by kernel_rfl) (by kernel_rfl) (by kernel_rfl) (by kernel_rfl) (by kernel_rfl) (by kernel_rfl) (by kernel_rfl) (by kernel_rfl),gIdx:=gN.of G (by kernel_rfl),gB:=gN.of G (by kernel_rfl),gIO:=gN.of G (by kernel_rfl),kIO:=by kernel_rfl,oIO:=obj_cls (by kernel_rfl) (by kernel_rfl),oB:=obj_ex (by kernel_rfl),ne:=by decide,bType:=bN.of G (by kernel_rfl) (by kernel_rfl),bStr:=bN.of G (by kernel_rfl) (by kernel_rfl),bInt:=bN.of G (by kernel_rfl) (by kernel_rfl),bBool:=bN.of G (by kernel_rfl) (by kernel_rfl),bLen:=bN.of G (by kernel_rfl) (by kernel_rfl),bObj:=bN.of G (by kernel_rfl) (by kernel_rfl),C:=770,sI:=694,sT:=687,sPc:=701,pa:=702,prest:=_,sGt:=731,sRt:=738,sIt:=760,sNx:=767,sSp:=782,sSd:=775,gSh:=gN.of G (by kernel_rfl),kSh:=by kernel_rfl,mks:=by kernel_rfl,fi:=by kernel_rfl,tf:=by kernel_rfl,scls:={ pg:=fun _=>by kernel_rfl,hd:=by kernel_rfl,sa:=by kernel_rfl,po:=by kernel_rfl },sno:=noneIn.of (by kernel_rfl),hsI:=Def.of (by kernel_rfl) (by kernel_rfl) (by kernel_rfl) (by kernel_rfl) (by kernel_rfl) (by kernel_rfl) (by kernel_rfl) (by kernel_rfl),dsI:=DflAt.of (by kernel_rfl) (by kernel_rfl),pc:=by kernel_rfl,pcn:=by kernel_rfl,pct:=by kernel_rfl,pcr:=rec_eq (by kernel_rfl),hPc:=Def.of (by kernel_rfl) (by kernel_rfl) (by kernel_rfl) (by kernel_rfl) (by kernel_rfl) (by kernel_rfl) (by kernel_rfl) (by kernel_rfl),hGt:=Def.of (by kernel_rfl) (by kernel_rfl) (by kernel_rfl) (by kernel_rfl) (by kernel_rfl) (by kernel_rfl) (by kernel_rfl) (by kernel_rfl),mGt:=⟨by kernel_rfl,by kernel_rfl,by kernel_rfl⟩,hRt:=Def.of (by kernel_rfl) (by kernel_rfl) (by kernel_rfl) (by kernel_rfl) (by kernel_rfl) (by kernel_rfl) (by kernel_rfl) (by kernel_rfl),mRt:=⟨by kernel_rfl,by kernel_rfl,by kernel_rfl⟩,hIt:=Def.of (by kernel_rfl) (by kernel_rfl) (by kernel_rfl) (by kernel_rfl) (by kernel_rfl) (by kernel_rfl) (by kernel_rfl) (by kernel_rfl),hNx:=Def.of (by kernel_rfl) (by kernel_rfl) (by kernel_rfl) (by kernel_rfl) (by kernel_rfl) (by kernel_rfl) (by kernel_rfl) (by kernel_rfl),own:={ it:=by kernel_rfl,itF:=by kernel_rfl,nx:=by kernel_rfl,nxF:=by kernel_rfl,len:=by kernel_rfl,hint:=by kernel_rfl },hSp:=Def.of (by kernel_rfl) (by kernel_rfl) (by kernel_rfl) (by kernel_rfl) (by kernel_rfl) (by kernel_rfl) (by kernel_rfl) (by kernel_rfl),dSp:=DflAt.of (by kernel_rfl) (by kernel_rfl),gSp:=gN.of G (by kernel_rfl),bIsi:=bN.of G (by kernel_rfl) (by kernel_rfl),bList:=bN.of G (by kernel_rfl) (by kernel_rfl),bStop:=bN.of G (by kernel_rfl) (by kernel_rfl),gDq:=gN.of G (by kernel_rfl) })) (fun G=>(show FnM _ from { aTranslate:=56,aTr:=75,aJtp:=82,aEsc:=68,dMap:=58,hTranslate:=Def.of (by kernel_rfl) (by kernel_rfl) (by kernel_rfl) (by kernel_rfl) (by kernel_rfl) (by kernel_rfl) (by kernel_rfl) (by kernel_rfl),hTr:=Def.of (by kernel_rfl) (by kernel_rfl) (by kernel_rfl) (by kernel_rfl) (by kernel_rfl) (by kernel_rfl) (by kernel_rfl) (by kernel_rfl),hJtp:=Def.of (by kernel_rfl) (by kernel_rfl) (by kernel_rfl) (by kernel_rfl) (by kernel_rfl) (by kernel_rfl) (by kernel_rfl) (by kernel_rfl),hEsc:=Def.of (by kernel_rfl) (by kernel_rfl) (by kernel_rfl) (by kernel_rfl) (by kernel_rfl) (by kernel_rfl) (by kernel_rfl) (by kernel_rfl),gTranslate:=gN.of G (by kernel_rfl),gTr:=gN.of G (by kernel_rfl),gJtp:=gN.of G (by kernel_rfl),gEsc:=gN.of G (by kernel_rfl),gMap:=gN.of G (by kernel_rfl),map:=EscAt.of (by decide) (by kernel_rfl) (by kernel_rfl) (by kernel_rfl) (by kernel_rfl) (by kernel_rfl) (by kernel_rfl),bLen:=bN.of G (by kernel_rfl) (by kernel_rfl),bIsi:=bN.of G (by kernel_rfl) (by kernel_rfl),bStr:=bN.of G (by kernel_rfl) (by kernel_rfl),bObj:=bN.of G (by kernel_rfl) (by kernel_rfl) })) (fun G=>(show LwM _ from { fDr:=939,fHe:=944,fPa:=949,fSe:=954,fMa:=959,fPl:=966,fTe:=971,fTk:=976,fRo:=981,fOr:=988,hDr:=Def.of (by kernel_rfl) (by kernel_rfl) (by kernel_rfl) (by kernel_rfl) (by kernel_rfl) (by kernel_rfl) (by kernel_rfl) (by kernel_rfl),hHe:=Def.of (by kernel_rfl) (by kernel_rfl) (by kernel_rfl) (by kernel_rfl) (by kernel_rfl) (by kernel_rfl) (by kernel_rfl) (by kernel_rfl),hPa:=Def.of (by kernel_rfl) (by kernel_rfl) (by kernel_rfl) (by kernel_rfl) (by kernel_rfl) (by kernel_rfl) (by kernel_rfl) (by kernel_rfl),hSe:=Def.of (by kernel_rfl) (by kernel_rfl) (by kernel_rfl) (by kernel_rfl) (by kernel_rfl) (by kernel_rfl) (by kernel_rfl) (by kernel_rfl),hMa:=Def.of (by kernel_rfl) (by kernel_rfl) (by kernel_rfl) (by kernel_rfl) (by kernel_rfl) (by kernel_rfl) (by kernel_rfl) (by kernel_rfl),hPl:=Def.of (by kernel_rfl) (by kernel_rfl) (by kernel_rfl) (by kernel_rfl) (by kernel_rfl) (by kernel_rfl) (by kernel_rfl) (by kernel_rfl),hTe:=Def.of (by kernel_rfl) (by kernel_rfl) (by kernel_rfl) (by kernel_rfl) (by kernel_rfl) (by kernel_rfl) (by kernel_rfl) (by kernel_rfl),hTk:=Def.of (by kernel_rfl) (by kernel_rfl) (by kernel_rfl) (by kernel_rfl) (by kernel_rfl) (by kernel_rfl) (by kernel_rfl) (by kernel_rfl),hRo:=Def.of (by kernel_rfl) (by kernel_rfl) (by kernel_rfl) (by kernel_rfl) (by kernel_rfl) (by kernel_rfl) (by kernel_rfl) (by kernel_rfl),hOr:=Def.of (by kernel_rfl) (by kernel_rfl) (by kernel_rfl) (by kernel_rfl) (by kernel_rfl) (by kernel_rfl) (by kernel_rfl) (by kernel_rfl),gDr:=gN.of G (by kernel_rfl),gHe:=gN.of G (by kernel_rfl),gPa:=gN.of G (by kernel_rfl),gSe:=gN.of G (by kernel_rfl),gMa:=gN.of G (by kernel_rfl),gPl:=gN.of G (by kernel_rfl),gTe:=gN.of G (by kernel_rfl),gTk:=gN.of G (by kernel_rfl),gRo:=gN.of G (by kernel_rfl),gOr:=gN.of G (by kernel_rfl) }))
  (fun G=>Def.of (by kernel_rfl) (by kernel_rfl) (by kernel_rfl) (by kernel_rfl) (by kernel_rfl) (by kernel_rfl) (by kernel_rfl) (by kernel_rfl)) (fun G=>bN.of G (by kernel_rfl) (by kernel_rfl)) (fun G=>bN.of G (by kernel_rfl) (by kernel_rfl)) (fun G=>bN.of G (by kernel_rfl) (by kernel_rfl)) (fun G=>bN.of G (by kernel_rfl) (by kernel_rfl)) (fun G=>bN.of G (by kernel_rfl) (by kernel_rfl)) (fun G=>bN.of G (by kernel_rfl) (by kernel_rfl)) rfl ?_
 lia
end Lw
end
section
open PySem PySem.Calls PySem.W PySem.W.X PyProof.Rows
set_option maxRecDepth 1000000
set_option maxHeartbeats 0
namespace Lw
theorem ref_of {a b:Addr} {m:Option Value} (x:m = some (.ref a)) (y:m = some (.ref b)):b = a:=by rw [x] at y;cases y;rfl
end Lw
open Lw
theorem PySem.Challenge.cw_kt0098_01_holds : PySem.Challenge.rw_kt0098_01.Holds := by
 refine holds_law said0 fun said=>?_
 refine holds_openX (q:=q0h) (loose:=loose0) (XP:=fun _ _=>True) left0 (fun _ _=>trivial) (fun _ _ _ _ _=>trivial) (by rfl) (by rfl) (by rfl) (fun s _=>recFacts_of (by rfl)) (by rfl) said (by decide +kernel) ⟨rfl,rfl,rfl,rfl,rfl,by decide +kernel⟩ (by w_witness2) ?_
 intro w s₀ s₁ mg mb G y fa o pm cd doc dV kV ho hd hcd hD hmg hg args vals as L hpre hlay hrd hwl hlo
 have Z:=z_facts (K:=K01) (fun _=>rfl) y
 have KX:(K01 w.params).In s₁.heap:=InK.keeps w _ _ Z.2.1 L.keeps
 have ZN:=Z.2.2.1
 have ZT:=Z.2.2.2
 refine Ground.open G ?_
 intro T B D TE TW
 wrow_args hpre hlay hrd hwl hlo
 obtain ⟨hat,hsz⟩:=script_at L
 have htk:=script_toks L ZT
 rw [ZN] at hat hsz
 subst hat
 have e:=mg_of KX T.g (show nsIn (K01 w.params) mainGlobals "law" = some (some (.ref 993)) by kernel_rfl)
 obtain rfl:=ref_of e hmg
 exact jt KX ⟨T.g,T.b,T.nolimit,T.builtins⟩ hg (script_obj L (by assumption)) (by assumption) (by assumption)
end
