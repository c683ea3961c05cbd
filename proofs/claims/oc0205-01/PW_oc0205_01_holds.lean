import PyProof.Rows.All
import Wide.All
import OpenK.AllK
import Wide.FinOn
import PySem.Challenge.RW_oc0205_01
open PySem PySem.W PyProof.Rows PySem.Calls PySem.Spec
set_option Elab.async false
set_option maxRecDepth 100000
set_option maxHeartbeats 0
set_option rowWalk.seconds 0
set_option linter.unusedVariables false
set_option linter.unusedSimpArgs false
-- HdB
namespace Mine
noncomputable abbrev pg : Program := PySem.Challenge.pw_oc0205_01
noncomputable def top (i : Nat) : Stmt := (pg.main.body[i]?).getD (.Pass default)
noncomputable def inCls (st : Stmt) (j : Nat) : Stmt := match st with
  | .ClassDef _ _ _ b _ _ _ _ _ _ _ => (b[j]?).getD (.Pass default)
  | _ => .Pass default
noncomputable def fArgs (st : Stmt) : Arguments := match st with
  | .FunctionDef _ a _ _ _ _ _ _ _ _ => a
  | _ => ⟨[], [], none, [], [], none, []⟩
noncomputable def fBody (st : Stmt) : List Stmt := match st with
  | .FunctionDef _ _ b _ _ _ _ _ _ _ => b
  | _ => []
noncomputable def fScope (st : Stmt) : Scope := match st with
  | .FunctionDef _ _ _ _ _ _ s _ _ _ => s
  | _ => pg.main.scope
@[reducible] noncomputable def pa46p : PSigma fun b : Arguments => fArgs (top 3) = b := by
  refine ⟨?b, ?h⟩
  case h => (conv => lhs; whnf)
@[reducible] noncomputable def pa46 : Arguments := pa46p.1
@[reducible] noncomputable def bd46p : PSigma fun b : List Stmt => fBody (top 3) = b := by
  refine ⟨?b, ?h⟩
  case h => (conv => lhs; whnf)
@[reducible] noncomputable def bd46 : List Stmt := bd46p.1
@[reducible] noncomputable def sc46p : PSigma fun b : Scope => fScope (top 3) = b := by
  refine ⟨?b, ?h⟩
  case h => (conv => lhs; whnf)
@[reducible] noncomputable def sc46 : Scope := sc46p.1
@[reducible] noncomputable def pa60p : PSigma fun b : Arguments => fArgs (top 6) = b := by
  refine ⟨?b, ?h⟩
  case h => (conv => lhs; whnf)
@[reducible] noncomputable def pa60 : Arguments := pa60p.1
@[reducible] noncomputable def bd60p : PSigma fun b : List Stmt => fBody (top 6) = b := by
  refine ⟨?b, ?h⟩
  case h => (conv => lhs; whnf)
@[reducible] noncomputable def bd60 : List Stmt := bd60p.1
@[reducible] noncomputable def sc60p : PSigma fun b : Scope => fScope (top 6) = b := by
  refine ⟨?b, ?h⟩
  case h => (conv => lhs; whnf)
@[reducible] noncomputable def sc60 : Scope := sc60p.1
@[reducible] noncomputable def pa87p : PSigma fun b : Arguments => fArgs (inCls (top 8) 1) = b := by
  refine ⟨?b, ?h⟩
  case h => (conv => lhs; whnf)
@[reducible] noncomputable def pa87 : Arguments := pa87p.1
@[reducible] noncomputable def bd87p : PSigma fun b : List Stmt => fBody (inCls (top 8) 1) = b := by
  refine ⟨?b, ?h⟩
  case h => (conv => lhs; whnf)
@[reducible] noncomputable def bd87 : List Stmt := bd87p.1
@[reducible] noncomputable def sc87p : PSigma fun b : Scope => fScope (inCls (top 8) 1) = b := by
  refine ⟨?b, ?h⟩
  case h => (conv => lhs; whnf)
@[reducible] noncomputable def sc87 : Scope := sc87p.1
@[reducible] noncomputable def pa364p : PSigma fun b : Arguments => fArgs (inCls (top 12) 1) = b := by
  refine ⟨?b, ?h⟩
  case h => (conv => lhs; whnf)
@[reducible] noncomputable def pa364 : Arguments := pa364p.1
@[reducible] noncomputable def bd364p : PSigma fun b : List Stmt => fBody (inCls (top 12) 1) = b := by
  refine ⟨?b, ?h⟩
  case h => (conv => lhs; whnf)
@[reducible] noncomputable def bd364 : List Stmt := bd364p.1
@[reducible] noncomputable def sc364p : PSigma fun b : Scope => fScope (inCls (top 12) 1) = b := by
  refine ⟨?b, ?h⟩
  case h => (conv => lhs; whnf)
@[reducible] noncomputable def sc364 : Scope := sc364p.1
@[reducible] noncomputable def pa371p : PSigma fun b : Arguments => fArgs (inCls (top 12) 2) = b := by
  refine ⟨?b, ?h⟩
  case h => (conv => lhs; whnf)
@[reducible] noncomputable def pa371 : Arguments := pa371p.1
@[reducible] noncomputable def bd371p : PSigma fun b : List Stmt => fBody (inCls (top 12) 2) = b := by
  refine ⟨?b, ?h⟩
  case h => (conv => lhs; whnf)
@[reducible] noncomputable def bd371 : List Stmt := bd371p.1
@[reducible] noncomputable def sc371p : PSigma fun b : Scope => fScope (inCls (top 12) 2) = b := by
  refine ⟨?b, ?h⟩
  case h => (conv => lhs; whnf)
@[reducible] noncomputable def sc371 : Scope := sc371p.1
@[reducible] noncomputable def pa378p : PSigma fun b : Arguments => fArgs (inCls (top 12) 3) = b := by
  refine ⟨?b, ?h⟩
  case h => (conv => lhs; whnf)
@[reducible] noncomputable def pa378 : Arguments := pa378p.1
@[reducible] noncomputable def bd378p : PSigma fun b : List Stmt => fBody (inCls (top 12) 3) = b := by
  refine ⟨?b, ?h⟩
  case h => (conv => lhs; whnf)
@[reducible] noncomputable def bd378 : List Stmt := bd378p.1
@[reducible] noncomputable def sc378p : PSigma fun b : Scope => fScope (inCls (top 12) 3) = b := by
  refine ⟨?b, ?h⟩
  case h => (conv => lhs; whnf)
@[reducible] noncomputable def sc378 : Scope := sc378p.1
@[reducible] noncomputable def pa392p : PSigma fun b : Arguments => fArgs (inCls (top 12) 5) = b := by
  refine ⟨?b, ?h⟩
  case h => (conv => lhs; whnf)
@[reducible] noncomputable def pa392 : Arguments := pa392p.1
@[reducible] noncomputable def bd392p : PSigma fun b : List Stmt => fBody (inCls (top 12) 5) = b := by
  refine ⟨?b, ?h⟩
  case h => (conv => lhs; whnf)
@[reducible] noncomputable def bd392 : List Stmt := bd392p.1
@[reducible] noncomputable def sc392p : PSigma fun b : Scope => fScope (inCls (top 12) 5) = b := by
  refine ⟨?b, ?h⟩
  case h => (conv => lhs; whnf)
@[reducible] noncomputable def sc392 : Scope := sc392p.1
@[reducible] noncomputable def pa540p : PSigma fun b : Arguments => fArgs (inCls (top 12) 25) = b := by
  refine ⟨?b, ?h⟩
  case h => (conv => lhs; whnf)
@[reducible] noncomputable def pa540 : Arguments := pa540p.1
@[reducible] noncomputable def bd540p : PSigma fun b : List Stmt => fBody (inCls (top 12) 25) = b := by
  refine ⟨?b, ?h⟩
  case h => (conv => lhs; whnf)
@[reducible] noncomputable def bd540 : List Stmt := bd540p.1
@[reducible] noncomputable def sc540p : PSigma fun b : Scope => fScope (inCls (top 12) 25) = b := by
  refine ⟨?b, ?h⟩
  case h => (conv => lhs; whnf)
@[reducible] noncomputable def sc540 : Scope := sc540p.1
@[reducible] noncomputable def pa548p : PSigma fun b : Arguments => fArgs (inCls (top 12) 26) = b := by
  refine ⟨?b, ?h⟩
  case h => (conv => lhs; whnf)
@[reducible] noncomputable def pa548 : Arguments := pa548p.1
@[reducible] noncomputable def bd548p : PSigma fun b : List Stmt => fBody (inCls (top 12) 26) = b := by
  refine ⟨?b, ?h⟩
  case h => (conv => lhs; whnf)
@[reducible] noncomputable def bd548 : List Stmt := bd548p.1
@[reducible] noncomputable def sc548p : PSigma fun b : Scope => fScope (inCls (top 12) 26) = b := by
  refine ⟨?b, ?h⟩
  case h => (conv => lhs; whnf)
@[reducible] noncomputable def sc548 : Scope := sc548p.1
@[reducible] noncomputable def pa653p : PSigma fun b : Arguments => fArgs (inCls (top 21) 0) = b := by
  refine ⟨?b, ?h⟩
  case h => (conv => lhs; whnf)
@[reducible] noncomputable def pa653 : Arguments := pa653p.1
@[reducible] noncomputable def bd653p : PSigma fun b : List Stmt => fBody (inCls (top 21) 0) = b := by
  refine ⟨?b, ?h⟩
  case h => (conv => lhs; whnf)
@[reducible] noncomputable def bd653 : List Stmt := bd653p.1
@[reducible] noncomputable def sc653p : PSigma fun b : Scope => fScope (inCls (top 21) 0) = b := by
  refine ⟨?b, ?h⟩
  case h => (conv => lhs; whnf)
@[reducible] noncomputable def sc653 : Scope := sc653p.1
@[reducible] noncomputable def pa660p : PSigma fun b : Arguments => fArgs (inCls (top 21) 1) = b := by
  refine ⟨?b, ?h⟩
  case h => (conv => lhs; whnf)
@[reducible] noncomputable def pa660 : Arguments := pa660p.1
@[reducible] noncomputable def bd660p : PSigma fun b : List Stmt => fBody (inCls (top 21) 1) = b := by
  refine ⟨?b, ?h⟩
  case h => (conv => lhs; whnf)
@[reducible] noncomputable def bd660 : List Stmt := bd660p.1
@[reducible] noncomputable def sc660p : PSigma fun b : Scope => fScope (inCls (top 21) 1) = b := by
  refine ⟨?b, ?h⟩
  case h => (conv => lhs; whnf)
@[reducible] noncomputable def sc660 : Scope := sc660p.1
@[reducible] noncomputable def pa690p : PSigma fun b : Arguments => fArgs (inCls (top 21) 5) = b := by
  refine ⟨?b, ?h⟩
  case h => (conv => lhs; whnf)
@[reducible] noncomputable def pa690 : Arguments := pa690p.1
@[reducible] noncomputable def bd690p : PSigma fun b : List Stmt => fBody (inCls (top 21) 5) = b := by
  refine ⟨?b, ?h⟩
  case h => (conv => lhs; whnf)
@[reducible] noncomputable def bd690 : List Stmt := bd690p.1
@[reducible] noncomputable def sc690p : PSigma fun b : Scope => fScope (inCls (top 21) 5) = b := by
  refine ⟨?b, ?h⟩
  case h => (conv => lhs; whnf)
@[reducible] noncomputable def sc690 : Scope := sc690p.1
@[reducible] noncomputable def pa697p : PSigma fun b : Arguments => fArgs (inCls (top 21) 6) = b := by
  refine ⟨?b, ?h⟩
  case h => (conv => lhs; whnf)
@[reducible] noncomputable def pa697 : Arguments := pa697p.1
@[reducible] noncomputable def bd697p : PSigma fun b : List Stmt => fBody (inCls (top 21) 6) = b := by
  refine ⟨?b, ?h⟩
  case h => (conv => lhs; whnf)
@[reducible] noncomputable def bd697 : List Stmt := bd697p.1
@[reducible] noncomputable def sc697p : PSigma fun b : Scope => fScope (inCls (top 21) 6) = b := by
  refine ⟨?b, ?h⟩
  case h => (conv => lhs; whnf)
@[reducible] noncomputable def sc697 : Scope := sc697p.1
@[reducible] noncomputable def pa719p : PSigma fun b : Arguments => fArgs (inCls (top 21) 9) = b := by
  refine ⟨?b, ?h⟩
  case h => (conv => lhs; whnf)
@[reducible] noncomputable def pa719 : Arguments := pa719p.1
@[reducible] noncomputable def bd719p : PSigma fun b : List Stmt => fBody (inCls (top 21) 9) = b := by
  refine ⟨?b, ?h⟩
  case h => (conv => lhs; whnf)
@[reducible] noncomputable def bd719 : List Stmt := bd719p.1
@[reducible] noncomputable def sc719p : PSigma fun b : Scope => fScope (inCls (top 21) 9) = b := by
  refine ⟨?b, ?h⟩
  case h => (conv => lhs; whnf)
@[reducible] noncomputable def sc719 : Scope := sc719p.1
@[reducible] noncomputable def pa726p : PSigma fun b : Arguments => fArgs (inCls (top 21) 10) = b := by
  refine ⟨?b, ?h⟩
  case h => (conv => lhs; whnf)
@[reducible] noncomputable def pa726 : Arguments := pa726p.1
@[reducible] noncomputable def bd726p : PSigma fun b : List Stmt => fBody (inCls (top 21) 10) = b := by
  refine ⟨?b, ?h⟩
  case h => (conv => lhs; whnf)
@[reducible] noncomputable def bd726 : List Stmt := bd726p.1
@[reducible] noncomputable def sc726p : PSigma fun b : Scope => fScope (inCls (top 21) 10) = b := by
  refine ⟨?b, ?h⟩
  case h => (conv => lhs; whnf)
@[reducible] noncomputable def sc726 : Scope := sc726p.1
@[reducible] noncomputable def pa741p : PSigma fun b : Arguments => fArgs (top 22) = b := by
  refine ⟨?b, ?h⟩
  case h => (conv => lhs; whnf)
@[reducible] noncomputable def pa741 : Arguments := pa741p.1
@[reducible] noncomputable def bd741p : PSigma fun b : List Stmt => fBody (top 22) = b := by
  refine ⟨?b, ?h⟩
  case h => (conv => lhs; whnf)
@[reducible] noncomputable def bd741 : List Stmt := bd741p.1
@[reducible] noncomputable def sc741p : PSigma fun b : Scope => fScope (top 22) = b := by
  refine ⟨?b, ?h⟩
  case h => (conv => lhs; whnf)
@[reducible] noncomputable def sc741 : Scope := sc741p.1
@[reducible] noncomputable def pa748p : PSigma fun b : Arguments => fArgs (top 24) = b := by
  refine ⟨?b, ?h⟩
  case h => (conv => lhs; whnf)
@[reducible] noncomputable def pa748 : Arguments := pa748p.1
@[reducible] noncomputable def bd748p : PSigma fun b : List Stmt => fBody (top 24) = b := by
  refine ⟨?b, ?h⟩
  case h => (conv => lhs; whnf)
@[reducible] noncomputable def bd748 : List Stmt := bd748p.1
@[reducible] noncomputable def sc748p : PSigma fun b : Scope => fScope (top 24) = b := by
  refine ⟨?b, ?h⟩
  case h => (conv => lhs; whnf)
@[reducible] noncomputable def sc748 : Scope := sc748p.1
@[reducible] noncomputable def pa755p : PSigma fun b : Arguments => fArgs (top 25) = b := by
  refine ⟨?b, ?h⟩
  case h => (conv => lhs; whnf)
@[reducible] noncomputable def pa755 : Arguments := pa755p.1
@[reducible] noncomputable def bd755p : PSigma fun b : List Stmt => fBody (top 25) = b := by
  refine ⟨?b, ?h⟩
  case h => (conv => lhs; whnf)
@[reducible] noncomputable def bd755 : List Stmt := bd755p.1
@[reducible] noncomputable def sc755p : PSigma fun b : Scope => fScope (top 25) = b := by
  refine ⟨?b, ?h⟩
  case h => (conv => lhs; whnf)
@[reducible] noncomputable def sc755 : Scope := sc755p.1
@[reducible] noncomputable def pa762p : PSigma fun b : Arguments => fArgs (top 26) = b := by
  refine ⟨?b, ?h⟩
  case h => (conv => lhs; whnf)
@[reducible] noncomputable def pa762 : Arguments := pa762p.1
@[reducible] noncomputable def bd762p : PSigma fun b : List Stmt => fBody (top 26) = b := by
  refine ⟨?b, ?h⟩
  case h => (conv => lhs; whnf)
@[reducible] noncomputable def bd762 : List Stmt := bd762p.1
@[reducible] noncomputable def sc762p : PSigma fun b : Scope => fScope (top 26) = b := by
  refine ⟨?b, ?h⟩
  case h => (conv => lhs; whnf)
@[reducible] noncomputable def sc762 : Scope := sc762p.1
@[reducible] noncomputable def pa769p : PSigma fun b : Arguments => fArgs (top 27) = b := by
  refine ⟨?b, ?h⟩
  case h => (conv => lhs; whnf)
@[reducible] noncomputable def pa769 : Arguments := pa769p.1
@[reducible] noncomputable def bd769p : PSigma fun b : List Stmt => fBody (top 27) = b := by
  refine ⟨?b, ?h⟩
  case h => (conv => lhs; whnf)
@[reducible] noncomputable def bd769 : List Stmt := bd769p.1
@[reducible] noncomputable def sc769p : PSigma fun b : Scope => fScope (top 27) = b := by
  refine ⟨?b, ?h⟩
  case h => (conv => lhs; whnf)
@[reducible] noncomputable def sc769 : Scope := sc769p.1
@[reducible] noncomputable def pa776p : PSigma fun b : Arguments => fArgs (top 28) = b := by
  refine ⟨?b, ?h⟩
  case h => (conv => lhs; whnf)
@[reducible] noncomputable def pa776 : Arguments := pa776p.1
@[reducible] noncomputable def bd776p : PSigma fun b : List Stmt => fBody (top 28) = b := by
  refine ⟨?b, ?h⟩
  case h => (conv => lhs; whnf)
@[reducible] noncomputable def bd776 : List Stmt := bd776p.1
@[reducible] noncomputable def sc776p : PSigma fun b : Scope => fScope (top 28) = b := by
  refine ⟨?b, ?h⟩
  case h => (conv => lhs; whnf)
@[reducible] noncomputable def sc776 : Scope := sc776p.1
@[reducible] noncomputable def pa783p : PSigma fun b : Arguments => fArgs (top 29) = b := by
  refine ⟨?b, ?h⟩
  case h => (conv => lhs; whnf)
@[reducible] noncomputable def pa783 : Arguments := pa783p.1
@[reducible] noncomputable def bd783p : PSigma fun b : List Stmt => fBody (top 29) = b := by
  refine ⟨?b, ?h⟩
  case h => (conv => lhs; whnf)
@[reducible] noncomputable def bd783 : List Stmt := bd783p.1
@[reducible] noncomputable def sc783p : PSigma fun b : Scope => fScope (top 29) = b := by
  refine ⟨?b, ?h⟩
  case h => (conv => lhs; whnf)
@[reducible] noncomputable def sc783 : Scope := sc783p.1
@[reducible] noncomputable def pa790p : PSigma fun b : Arguments => fArgs (top 30) = b := by
  refine ⟨?b, ?h⟩
  case h => (conv => lhs; whnf)
@[reducible] noncomputable def pa790 : Arguments := pa790p.1
@[reducible] noncomputable def bd790p : PSigma fun b : List Stmt => fBody (top 30) = b := by
  refine ⟨?b, ?h⟩
  case h => (conv => lhs; whnf)
@[reducible] noncomputable def bd790 : List Stmt := bd790p.1
@[reducible] noncomputable def sc790p : PSigma fun b : Scope => fScope (top 30) = b := by
  refine ⟨?b, ?h⟩
  case h => (conv => lhs; whnf)
@[reducible] noncomputable def sc790 : Scope := sc790p.1
@[reducible] noncomputable def pa797p : PSigma fun b : Arguments => fArgs (top 31) = b := by
  refine ⟨?b, ?h⟩
  case h => (conv => lhs; whnf)
@[reducible] noncomputable def pa797 : Arguments := pa797p.1
@[reducible] noncomputable def bd797p : PSigma fun b : List Stmt => fBody (top 31) = b := by
  refine ⟨?b, ?h⟩
  case h => (conv => lhs; whnf)
@[reducible] noncomputable def bd797 : List Stmt := bd797p.1
@[reducible] noncomputable def sc797p : PSigma fun b : Scope => fScope (top 31) = b := by
  refine ⟨?b, ?h⟩
  case h => (conv => lhs; whnf)
@[reducible] noncomputable def sc797 : Scope := sc797p.1
@[reducible] noncomputable def pa802p : PSigma fun b : Arguments => fArgs (top 32) = b := by
  refine ⟨?b, ?h⟩
  case h => (conv => lhs; whnf)
@[reducible] noncomputable def pa802 : Arguments := pa802p.1
@[reducible] noncomputable def bd802p : PSigma fun b : List Stmt => fBody (top 32) = b := by
  refine ⟨?b, ?h⟩
  case h => (conv => lhs; whnf)
@[reducible] noncomputable def bd802 : List Stmt := bd802p.1
@[reducible] noncomputable def sc802p : PSigma fun b : Scope => fScope (top 32) = b := by
  refine ⟨?b, ?h⟩
  case h => (conv => lhs; whnf)
@[reducible] noncomputable def sc802 : Scope := sc802p.1
noncomputable def kx (P : Params) : Frag :=
  (nat_lit 2, ⟨.none, none, (.dict #[⟨PyData.keyHash P (Str.ofString "\x69mport.loaded._collections"), (.str (Str.ofString "\x69mport.loaded._collections") 185), (.bool true)⟩, ⟨PyData.keyHash P (Str.ofString "class._frozen_importlib.BuiltinImporter"), (.str (Str.ofString "class._frozen_importlib.BuiltinImporter") 187), (.ref 15)⟩, ⟨PyData.keyHash P (Str.ofString "watched.\x69mport"), (.str (Str.ofString "watched.\x69mport") 208), (.ref 19)⟩, ⟨PyData.keyHash P (Str.ofString "class._frozen_importlib.ModuleSpec"), (.str (Str.ofString "class._frozen_importlib.ModuleSpec") 218), (.ref 23)⟩, ⟨PyData.keyHash P (Str.ofString "sys.modules.booked-epoch"), (.str (Str.ofString "sys.modules.booked-epoch") 247), (.int 3 0)⟩, ⟨PyData.keyHash P (Str.ofString "sys.modules.landed._collections"), (.str (Str.ofString "sys.modules.landed._collections") 248), (.bool true)⟩, ⟨PyData.keyHash P (Str.ofString "\x69mport.later-laid._collections"), (.str (Str.ofString "\x69mport.later-laid._collections") 263), (.bool true)⟩, ⟨PyData.keyHash P (Str.ofString "watched.library"), (.str (Str.ofString "watched.library") 265), (.ref 28)⟩, ⟨PyData.keyHash P (Str.ofString "watched.library-objects"), (.str (Str.ofString "watched.library-objects") 0), (.str (Str.ofString "\r") 0)⟩, ⟨PyData.keyHash P (Str.ofString "watched.library-deep._collections"), (.str (Str.ofString "watched.library-deep._collections") 266), (.str (Str.ofString "\x04\x00\x00\x0c\x04\x00\x00\x0c\x04\x00\x00\x03\x04\x00\x00\x0c\x08\x04dict\x02") 0)⟩, ⟨PyData.keyHash P (Str.ofString "type.__subclasses__.OSError.0"), (.str (Str.ofString "type.__subclasses__.OSError.0") 331), (.int 70 0)⟩, ⟨PyData.keyHash P (Str.ofString "type.__subclasses__.OSError.n"), (.str (Str.ofString "type.__subclasses__.OSError.n") 332), (.int 1 0)⟩] 12), #[]⟩) ::
  (nat_lit 3, ⟨(.type "dict"), none, (.dict #[⟨PyData.keyHash P (Str.ofString "__name__"), (.str (Str.ofString "__name__") 165), (.str (Str.ofString "law_oc0205_01") 1161)⟩, ⟨PyData.keyHash P (Str.ofString "__doc__"), (.str (Str.ofString "__doc__") 166), .none⟩, ⟨PyData.keyHash P (Str.ofString "__package__"), (.str (Str.ofString "__package__") 167), .none⟩, ⟨PyData.keyHash P (Str.ofString "__loader__"), (.str (Str.ofString "__loader__") 168), (.builtin "__main__.__loader__#opaque")⟩, ⟨PyData.keyHash P (Str.ofString "__spec__"), (.str (Str.ofString "__spec__") 169), .none⟩, ⟨PyData.keyHash P (Str.ofString "__annotations__"), (.str (Str.ofString "__annotations__") 170), (.ref 6)⟩, ⟨PyData.keyHash P (Str.ofString "__builtins__"), (.str (Str.ofString "__builtins__") 171), (.ref 4)⟩, ⟨PyData.keyHash P (Str.ofString "__file__"), (.str (Str.ofString "__file__") 173), (.str (Str.ofString "/claim/cut.py") 172)⟩, ⟨PyData.keyHash P (Str.ofString "__cached__"), (.str (Str.ofString "__cached__") 174), .none⟩, ⟨PyData.keyHash P (Str.ofString "deque"), (.str (Str.ofString "deque") 272), (.type "collections.deque")⟩, ⟨PyData.keyHash P (Str.ofString "_wall"), (.str (Str.ofString "_wall") 285), (.ref 39)⟩, ⟨PyData.keyHash P (Str.ofString "_comment_line"), (.str (Str.ofString "_comment_line") 294), (.ref 46)⟩, ⟨PyData.keyHash P (Str.ofString "_whence"), (.str (Str.ofString "_whence") 304), (.ref 53)⟩, ⟨PyData.keyHash P (Str.ofString "_index"), (.str (Str.ofString "_index") 312), (.ref 60)⟩, ⟨PyData.keyHash P (Str.ofString "UnsupportedOperation"), (.str (Str.ofString "UnsupportedOperation") 334), (.ref 70)⟩, ⟨PyData.keyHash P (Str.ofString "IOBase"), (.str (Str.ofString "IOBase") 366), (.ref 90)⟩, ⟨PyData.keyHash P (Str.ofString "BufferedIOBase"), (.str (Str.ofString "BufferedIOBase") 384), (.ref 105)⟩, ⟨PyData.keyHash P (Str.ofString "TextIOBase"), (.str (Str.ofString "TextIOBase") 402), (.ref 117)⟩, ⟨PyData.keyHash P (Str.ofString "BytesIO"), (.str (Str.ofString "BytesIO") 664), (.ref 347)⟩, ⟨PyData.keyHash P (Str.ofString "StringIO"), (.str (Str.ofString "StringIO") 951), (.ref 594)⟩, ⟨PyData.keyHash P (Str.ofString "_kind"), (.str (Str.ofString "_kind") 962), (.ref 603)⟩, ⟨PyData.keyHash P (Str.ofString "_fspath"), (.str (Str.ofString "_fspath") 971), (.ref 610)⟩, ⟨PyData.keyHash P (Str.ofString "_check_arg_types"), (.str (Str.ofString "_check_arg_types") 981), (.ref 617)⟩, ⟨PyData.keyHash P (Str.ofString "isabs"), (.str (Str.ofString "isabs") 988), (.ref 624)⟩, ⟨PyData.keyHash P (Str.ofString "join"), (.str (Str.ofString "join") 999), (.ref 631)⟩, ⟨PyData.keyHash P (Str.ofString "dirname"), (.str (Str.ofString "dirname") 1009), (.ref 638)⟩, ⟨PyData.keyHash P (Str.ofString "shlex"), (.str (Str.ofString "shlex") 1150), (.ref 729)⟩, ⟨PyData.keyHash P (Str.ofString "split"), (.str (Str.ofString "split") 1160), (.ref 741)⟩, ⟨PyData.keyHash P (Str.ofString "_law_sign"), (.str (Str.ofString "_law_sign") 1170), (.ref 748)⟩, ⟨PyData.keyHash P (Str.ofString "_law_line"), (.str (Str.ofString "_law_line") 1179), (.ref 755)⟩, ⟨PyData.keyHash P (Str.ofString "_law_ended"), (.str (Str.ofString "_law_ended") 1187), (.ref 762)⟩, ⟨PyData.keyHash P (Str.ofString "_law_turn"), (.str (Str.ofString "_law_turn") 1200), (.ref 769)⟩, ⟨PyData.keyHash P (Str.ofString "_law_closed"), (.str (Str.ofString "_law_closed") 1210), (.ref 776)⟩, ⟨PyData.keyHash P (Str.ofString "_law_behind"), (.str (Str.ofString "_law_behind") 1221), (.ref 783)⟩, ⟨PyData.keyHash P (Str.ofString "_law_told"), (.str (Str.ofString "_law_told") 1231), (.ref 790)⟩, ⟨PyData.keyHash P (Str.ofString "_law_split"), (.str (Str.ofString "_law_split") 1239), (.ref 797)⟩, ⟨PyData.keyHash P (Str.ofString "law"), (.str (Str.ofString "law") 1245), (.ref 802)⟩] 37), #[]⟩) ::
  (nat_lit 45, ⟨(.type "code"), none, (.fields #[(.str (Str.ofString "_comment_line") 288), (.str (Str.ofString "_comment_line") 289), (.str (Str.ofString "/claim/cut.py") 290), (.int 6 0), (.int 1 0), (.int 0 0), (.int 0 0), (.int 3 0), (.ref 40), (.bool true), (.int 273 0), (.ref 41), .none, (.ref 42), (.ref 43), (.ref 44), (.int 292 0), (.int 6 0), (.str (Str.ofString "/claim/cut.py") 293)]), #[]⟩) ::
  (nat_lit 46, ⟨(.type "function"), none, (.func (fnOf (Str.ofString "_comment_line") (Str.ofString "_comment_line") pa46 bd46 sc46 .none .none .none (.str (Str.ofString "cpy313.doctest") 286) none (.ref 45) .none)), #[]⟩) ::
  (nat_lit 59, ⟨(.type "code"), none, (.fields #[(.str (Str.ofString "_index") 305), (.str (Str.ofString "_index") 306), (.str (Str.ofString "/claim/cut.py") 307), (.int 18 0), (.int 2 0), (.int 0 0), (.int 0 0), (.int 3 0), (.ref 54), (.bool true), (.int 273 0), (.ref 55), .none, (.ref 56), (.ref 57), (.ref 58), (.int 310 0), (.int 18 0), (.str (Str.ofString "/claim/cut.py") 311)]), #[]⟩) ::
  (nat_lit 60, ⟨(.type "function"), none, (.func (fnOf (Str.ofString "_index") (Str.ofString "_index") pa60 bd60 sc60 .none .none .none (.str (Str.ofString "io") 295) none (.ref 59) .none)), #[]⟩) ::
  (nat_lit 86, ⟨(.type "code"), none, (.fields #[(.str (Str.ofString "__new__") 349), (.str (Str.ofString "IOBase.__new__") 350), (.str (Str.ofString "/claim/cut.py") 351), (.int 30 0), (.int 1 0), (.int 1 0), (.int 0 0), (.int 15 0), (.ref 81), (.bool true), (.int 273 0), (.ref 82), .none, (.ref 83), (.ref 84), (.ref 85), (.int 355 0), (.int 30 0), (.str (Str.ofString "/claim/cut.py") 356)]), #[]⟩) ::
  (nat_lit 87, ⟨(.type "function"), none, (.func (fnOf (Str.ofString "__new__") (Str.ofString "IOBase.__new__") pa87 bd87 sc87 .none .none .none (.str (Str.ofString "io") 295) none (.ref 86) .none)), #[]⟩) ::
  (nat_lit 89, ⟨(.type "dict"), none, (.dict #[⟨PyData.keyHash P (Str.ofString "__module__"), (.str (Str.ofString "__module__") 342), (.str (Str.ofString "io") 347)⟩, ⟨PyData.keyHash P (Str.ofString "__firstlineno__"), (.str (Str.ofString "__firstlineno__") 346), (.int 27 345)⟩, ⟨PyData.keyHash P (Str.ofString "__new__"), (.str (Str.ofString "__new__") 357), (.ref 91)⟩, ⟨PyData.keyHash P (Str.ofString "__static_attributes__"), (.str (Str.ofString "__static_attributes__") 358), (.ref 88)⟩, ⟨PyData.keyHash P (Str.ofString "__dict__"), (.str (Str.ofString "__dict__") 361), (.ref 92)⟩, ⟨PyData.keyHash P (Str.ofString "__weakref__"), (.str (Str.ofString "__weakref__") 363), (.ref 93)⟩, ⟨PyData.keyHash P (Str.ofString "__doc__"), (.str (Str.ofString "__doc__") 364), .none⟩] 4), #[]⟩) ::
  (nat_lit 90, ⟨(.type "type"), none, (.cls { name := (Str.ofString "IOBase"), bases := [(.type "object")], mro := [(.ref 90), (.type "object")], ns := 89, qualname := (Str.ofString "IOBase"), hasDict := true, slotNames := [], subclasses := [(.ref 105), (.ref 117)], abstract := false, collection := none, hasDel := false }), #[none, none, (some (.str (Str.ofString "IOBase") 335)), (some (.str (Str.ofString "IOBase") 343)), (some .none), (some (.bool true))]⟩) ::
  (nat_lit 91, ⟨(.type "staticmethod"), none, (.fields #[(.ref 87)]), #[]⟩) ::
  (nat_lit 116, ⟨(.type "dict"), none, (.dict #[⟨PyData.keyHash P (Str.ofString "__module__"), (.str (Str.ofString "__module__") 392), (.str (Str.ofString "io") 397)⟩, ⟨PyData.keyHash P (Str.ofString "__firstlineno__"), (.str (Str.ofString "__firstlineno__") 396), (.int 36 395)⟩, ⟨PyData.keyHash P (Str.ofString "__static_attributes__"), (.str (Str.ofString "__static_attributes__") 399), (.ref 115)⟩, ⟨PyData.keyHash P (Str.ofString "__doc__"), (.str (Str.ofString "__doc__") 400), .none⟩] 2), #[]⟩) ::
  (nat_lit 117, ⟨(.type "type"), none, (.cls { name := (Str.ofString "TextIOBase"), bases := [(.ref 90)], mro := [(.ref 117), (.ref 90), (.type "object")], ns := 116, qualname := (Str.ofString "TextIOBase"), hasDict := true, slotNames := [], subclasses := [(.ref 594)], abstract := false, collection := none, hasDel := false }), #[(some (.ref 108)), none, (some (.str (Str.ofString "TextIOBase") 385)), (some (.str (Str.ofString "TextIOBase") 393)), (some .none), (some (.bool true))]⟩) ::
  (nat_lit 347, ⟨(.type "type"), none, (.cls { name := (Str.ofString "BytesIO"), bases := [(.ref 105)], mro := [(.ref 347), (.ref 105), (.ref 90), (.type "object")], ns := 346, qualname := (Str.ofString "BytesIO"), hasDict := true, slotNames := [], subclasses := [], abstract := false, collection := none, hasDel := false }), #[(some (.ref 120)), none, (some (.str (Str.ofString "BytesIO") 403)), (some (.str (Str.ofString "BytesIO") 411)), (some .none), (some (.bool true))]⟩) ::
  (nat_lit 357, ⟨(.type "tuple"), none, (.seq #[(.str (Str.ofString "") 679), (.str (Str.ofString "\n") 680)] 0), #[]⟩) ::
  (nat_lit 363, ⟨(.type "code"), none, (.fields #[(.str (Str.ofString "__init__") 681), (.str (Str.ofString "StringIO.__init__") 682), (.str (Str.ofString "/claim/cut.py") 683), (.int 211 0), (.int 3 0), (.int 0 0), (.int 0 0), (.int 3 0), (.ref 358), (.bool true), (.int 273 0), (.ref 359), .none, (.ref 360), (.ref 361), (.ref 362), (.int 687 0), (.int 211 0), (.str (Str.ofString "/claim/cut.py") 688)]), #[]⟩) ::
  (nat_lit 364, ⟨(.type "function"), none, (.func (fnOf (Str.ofString "__init__") (Str.ofString "StringIO.__init__") pa364 bd364 sc364 (.ref 357) .none .none (.str (Str.ofString "io") 295) none (.ref 363) .none)), #[]⟩) ::
  (nat_lit 370, ⟨(.type "code"), none, (.fields #[(.str (Str.ofString "__translated") 690), (.str (Str.ofString "StringIO.__translated") 691), (.str (Str.ofString "/claim/cut.py") 692), (.int 224 0), (.int 2 0), (.int 0 0), (.int 0 0), (.int 3 0), (.ref 365), (.bool true), (.int 273 0), (.ref 366), .none, (.ref 367), (.ref 368), (.ref 369), (.int 696 0), (.int 224 0), (.str (Str.ofString "/claim/cut.py") 697)]), #[]⟩) ::
  (nat_lit 371, ⟨(.type "function"), none, (.func (fnOf (Str.ofString "__translated") (Str.ofString "StringIO.__translated") pa371 bd371 sc371 .none .none .none (.str (Str.ofString "io") 295) none (.ref 370) .none)), #[]⟩) ::
  (nat_lit 377, ⟨(.type "code"), none, (.fields #[(.str (Str.ofString "__check") 699), (.str (Str.ofString "StringIO.__check") 700), (.str (Str.ofString "/claim/cut.py") 701), (.int 232 0), (.int 1 0), (.int 0 0), (.int 0 0), (.int 3 0), (.ref 372), (.bool true), (.int 273 0), (.ref 373), .none, (.ref 374), (.ref 375), (.ref 376), (.int 703 0), (.int 232 0), (.str (Str.ofString "/claim/cut.py") 704)]), #[]⟩) ::
  (nat_lit 378, ⟨(.type "function"), none, (.func (fnOf (Str.ofString "__check") (Str.ofString "StringIO.__check") pa378 bd378 sc378 .none .none .none (.str (Str.ofString "io") 295) none (.ref 377) .none)), #[]⟩) ::
  (nat_lit 391, ⟨(.type "code"), none, (.fields #[(.str (Str.ofString "__line") 713), (.str (Str.ofString "StringIO.__line") 714), (.str (Str.ofString "/claim/cut.py") 715), (.int 240 0), (.int 2 0), (.int 0 0), (.int 0 0), (.int 3 0), (.ref 386), (.bool true), (.int 273 0), (.ref 387), .none, (.ref 388), (.ref 389), (.ref 390), (.int 725 0), (.int 240 0), (.str (Str.ofString "/claim/cut.py") 726)]), #[]⟩) ::
  (nat_lit 392, ⟨(.type "function"), none, (.func (fnOf (Str.ofString "__line") (Str.ofString "StringIO.__line") pa392 bd392 sc392 .none .none .none (.str (Str.ofString "io") 295) none (.ref 391) .none)), #[]⟩) ::
  (nat_lit 533, ⟨(.type "tuple"), none, (.seq #[(.int (-1) 872)] 0), #[]⟩) ::
  (nat_lit 539, ⟨(.type "code"), none, (.fields #[(.str (Str.ofString "read") 873), (.str (Str.ofString "StringIO.read") 874), (.str (Str.ofString "/claim/cut.py") 875), (.int 354 0), (.int 2 0), (.int 2 0), (.int 0 0), (.int 3 0), (.ref 534), (.bool true), (.int 273 0), (.ref 535), .none, (.ref 536), (.ref 537), (.ref 538), (.int 880 0), (.int 354 0), (.str (Str.ofString "/claim/cut.py") 881)]), #[]⟩) ::
  (nat_lit 540, ⟨(.type "function"), none, (.func (fnOf (Str.ofString "read") (Str.ofString "StringIO.read") pa540 bd540 sc540 (.ref 533) .none .none (.str (Str.ofString "io") 295) none (.ref 539) .none)), #[]⟩) ::
  (nat_lit 541, ⟨(.type "tuple"), none, (.seq #[(.int (-1) 884)] 0), #[]⟩) ::
  (nat_lit 547, ⟨(.type "code"), none, (.fields #[(.str (Str.ofString "readline") 885), (.str (Str.ofString "StringIO.readline") 886), (.str (Str.ofString "/claim/cut.py") 887), (.int 368 0), (.int 2 0), (.int 2 0), (.int 0 0), (.int 3 0), (.ref 542), (.bool true), (.int 273 0), (.ref 543), .none, (.ref 544), (.ref 545), (.ref 546), (.int 890 0), (.int 368 0), (.str (Str.ofString "/claim/cut.py") 891)]), #[]⟩) ::
  (nat_lit 548, ⟨(.type "function"), none, (.func (fnOf (Str.ofString "readline") (Str.ofString "StringIO.readline") pa548 bd548 sc548 (.ref 541) .none .none (.str (Str.ofString "io") 295) none (.ref 547) .none)), #[]⟩) ::
  (nat_lit 593, ⟨(.type "dict"), none, (.dict #[⟨PyData.keyHash P (Str.ofString "__module__"), (.str (Str.ofString "__module__") 672), (.str (Str.ofString "_io") 677)⟩, ⟨PyData.keyHash P (Str.ofString "__firstlineno__"), (.str (Str.ofString "__firstlineno__") 676), (.int 208 675)⟩, ⟨PyData.keyHash P (Str.ofString "__init__"), (.str (Str.ofString "__init__") 689), (.ref 364)⟩, ⟨PyData.keyHash P (Str.ofString "_StringIO__translated"), (.str (Str.ofString "_StringIO__translated") 698), (.ref 371)⟩, ⟨PyData.keyHash P (Str.ofString "_StringIO__check"), (.str (Str.ofString "_StringIO__check") 705), (.ref 378)⟩, ⟨PyData.keyHash P (Str.ofString "_StringIO__check_dot"), (.str (Str.ofString "_StringIO__check_dot") 712), (.ref 385)⟩, ⟨PyData.keyHash P (Str.ofString "_StringIO__line"), (.str (Str.ofString "_StringIO__line") 727), (.ref 392)⟩, ⟨PyData.keyHash P (Str.ofString "closed"), (.str (Str.ofString "closed") 735), (.ref 400)⟩, ⟨PyData.keyHash P (Str.ofString "line_buffering"), (.str (Str.ofString "line_buffering") 743), (.ref 408)⟩, ⟨PyData.keyHash P (Str.ofString "newlines"), (.str (Str.ofString "newlines") 751), (.ref 416)⟩, ⟨PyData.keyHash P (Str.ofString "encoding"), (.str (Str.ofString "encoding") 759), (.ref 424)⟩, ⟨PyData.keyHash P (Str.ofString "errors"), (.str (Str.ofString "errors") 767), (.ref 432)⟩, ⟨PyData.keyHash P (Str.ofString "close"), (.str (Str.ofString "close") 774), (.ref 439)⟩, ⟨PyData.keyHash P (Str.ofString "__enter__"), (.str (Str.ofString "__enter__") 781), (.ref 446)⟩, ⟨PyData.keyHash P (Str.ofString "__exit__"), (.str (Str.ofString "__exit__") 789), (.ref 453)⟩, ⟨PyData.keyHash P (Str.ofString "readable"), (.str (Str.ofString "readable") 796), (.ref 460)⟩, ⟨PyData.keyHash P (Str.ofString "writable"), (.str (Str.ofString "writable") 803), (.ref 467)⟩, ⟨PyData.keyHash P (Str.ofString "seekable"), (.str (Str.ofString "seekable") 810), (.ref 474)⟩, ⟨PyData.keyHash P (Str.ofString "isatty"), (.str (Str.ofString "isatty") 817), (.ref 481)⟩, ⟨PyData.keyHash P (Str.ofString "flush"), (.str (Str.ofString "flush") 824), (.ref 488)⟩, ⟨PyData.keyHash P (Str.ofString "fileno"), (.str (Str.ofString "fileno") 831), (.ref 495)⟩, ⟨PyData.keyHash P (Str.ofString "detach"), (.str (Str.ofString "detach") 838), (.ref 502)⟩, ⟨PyData.keyHash P (Str.ofString "getvalue"), (.str (Str.ofString "getvalue") 845), (.ref 509)⟩, ⟨PyData.keyHash P (Str.ofString "tell"), (.str (Str.ofString "tell") 852), (.ref 516)⟩, ⟨PyData.keyHash P (Str.ofString "seek"), (.str (Str.ofString "seek") 862), (.ref 524)⟩, ⟨PyData.keyHash P (Str.ofString "truncate"), (.str (Str.ofString "truncate") 870), (.ref 532)⟩, ⟨PyData.keyHash P (Str.ofString "read"), (.str (Str.ofString "read") 882), (.ref 540)⟩, ⟨PyData.keyHash P (Str.ofString "readline"), (.str (Str.ofString "readline") 892), (.ref 548)⟩, ⟨PyData.keyHash P (Str.ofString "readlines"), (.str (Str.ofString "readlines") 902), (.ref 556)⟩, ⟨PyData.keyHash P (Str.ofString "__iter__"), (.str (Str.ofString "__iter__") 909), (.ref 563)⟩, ⟨PyData.keyHash P (Str.ofString "__next__"), (.str (Str.ofString "__next__") 917), (.ref 570)⟩, ⟨PyData.keyHash P (Str.ofString "write"), (.str (Str.ofString "write") 929), (.ref 577)⟩, ⟨PyData.keyHash P (Str.ofString "writelines"), (.str (Str.ofString "writelines") 937), (.ref 584)⟩, ⟨PyData.keyHash P (Str.ofString "__repr__"), (.str (Str.ofString "__repr__") 944), (.ref 591)⟩, ⟨PyData.keyHash P (Str.ofString "__static_attributes__"), (.str (Str.ofString "__static_attributes__") 948), (.ref 592)⟩, ⟨PyData.keyHash P (Str.ofString "__doc__"), (.str (Str.ofString "__doc__") 949), .none⟩] 2), #[]⟩) ::
  (nat_lit 594, ⟨(.type "type"), none, (.cls { name := (Str.ofString "StringIO"), bases := [(.ref 117)], mro := [(.ref 594), (.ref 117), (.ref 90), (.type "object")], ns := 593, qualname := (Str.ofString "StringIO"), hasDict := true, slotNames := [], subclasses := [], abstract := false, collection := none, hasDel := false }), #[(some (.ref 350)), none, (some (.str (Str.ofString "StringIO") 665)), (some (.str (Str.ofString "StringIO") 673)), (some .none), (some (.bool true))]⟩) ::
  (nat_lit 646, ⟨(.type "tuple"), none, (.seq #[.none, .none, (.bool false), (.bool false)] 0), #[]⟩) ::
  (nat_lit 652, ⟨(.type "code"), none, (.fields #[(.str (Str.ofString "__init__") 1024), (.str (Str.ofString "shlex.__init__") 1025), (.str (Str.ofString "/claim/cut.py") 1026), (.int 479 0), (.int 5 0), (.int 0 0), (.int 0 0), (.int 3 0), (.ref 647), (.bool true), (.int 273 0), (.ref 648), .none, (.ref 649), (.ref 650), (.ref 651), (.int 1033 0), (.int 479 0), (.str (Str.ofString "/claim/cut.py") 1034)]), #[]⟩) ::
  (nat_lit 653, ⟨(.type "function"), none, (.func (fnOf (Str.ofString "__init__") (Str.ofString "shlex.__init__") pa653 bd653 sc653 (.ref 646) .none .none (.str (Str.ofString "cpy313.shlex") 1010) none (.ref 652) .none)), #[]⟩) ::
  (nat_lit 659, ⟨(.type "code"), none, (.fields #[(.str (Str.ofString "punctuation_chars") 1036), (.str (Str.ofString "shlex.punctuation_chars") 1037), (.str (Str.ofString "/claim/cut.py") 1038), (.int 520 0), (.int 1 0), (.int 0 0), (.int 0 0), (.int 3 0), (.ref 654), (.bool true), (.int 273 0), (.ref 655), .none, (.ref 656), (.ref 657), (.ref 658), (.int 1040 0), (.int 520 0), (.str (Str.ofString "/claim/cut.py") 1041)]), #[]⟩) ::
  (nat_lit 660, ⟨(.type "function"), none, (.func (fnOf (Str.ofString "punctuation_chars") (Str.ofString "shlex.punctuation_chars") pa660 bd660 sc660 .none .none .none (.str (Str.ofString "cpy313.shlex") 1010) none (.ref 659) .none)), #[]⟩) ::
  (nat_lit 661, ⟨(.type "property"), none, (.fields #[(.ref 660), .none, .none, .none, (.str (Str.ofString "punctuation_chars") 1043), (.bool false)]), #[]⟩) ::
  (nat_lit 689, ⟨(.type "code"), none, (.fields #[(.str (Str.ofString "get_token") 1068), (.str (Str.ofString "shlex.get_token") 1069), (.str (Str.ofString "/claim/cut.py") 1070), (.int 547 0), (.int 1 0), (.int 0 0), (.int 0 0), (.int 3 0), (.ref 684), (.bool true), (.int 273 0), (.ref 685), .none, (.ref 686), (.ref 687), (.ref 688), (.int 1077 0), (.int 547 0), (.str (Str.ofString "/claim/cut.py") 1078)]), #[]⟩) ::
  (nat_lit 690, ⟨(.type "function"), none, (.func (fnOf (Str.ofString "get_token") (Str.ofString "shlex.get_token") pa690 bd690 sc690 .none .none .none (.str (Str.ofString "cpy313.shlex") 1010) none (.ref 689) .none)), #[]⟩) ::
  (nat_lit 696, ⟨(.type "code"), none, (.fields #[(.str (Str.ofString "read_token") 1080), (.str (Str.ofString "shlex.read_token") 1081), (.str (Str.ofString "/claim/cut.py") 1082), (.int 574 0), (.int 1 0), (.int 0 0), (.int 0 0), (.int 3 0), (.ref 691), (.bool true), (.int 273 0), (.ref 692), .none, (.ref 693), (.ref 694), (.ref 695), (.int 1088 0), (.int 574 0), (.str (Str.ofString "/claim/cut.py") 1089)]), #[]⟩) ::
  (nat_lit 697, ⟨(.type "function"), none, (.func (fnOf (Str.ofString "read_token") (Str.ofString "shlex.read_token") pa697 bd697 sc697 .none .none .none (.str (Str.ofString "cpy313.shlex") 1010) none (.ref 696) .none)), #[]⟩) ::
  (nat_lit 718, ⟨(.type "code"), none, (.fields #[(.str (Str.ofString "__iter__") 1108), (.str (Str.ofString "shlex.__iter__") 1109), (.str (Str.ofString "/claim/cut.py") 1110), (.int 721 0), (.int 1 0), (.int 0 0), (.int 0 0), (.int 3 0), (.ref 713), (.bool true), (.int 273 0), (.ref 714), .none, (.ref 715), (.ref 716), (.ref 717), (.int 1112 0), (.int 721 0), (.str (Str.ofString "/claim/cut.py") 1113)]), #[]⟩) ::
  (nat_lit 719, ⟨(.type "function"), none, (.func (fnOf (Str.ofString "__iter__") (Str.ofString "shlex.__iter__") pa719 bd719 sc719 .none .none .none (.str (Str.ofString "cpy313.shlex") 1010) none (.ref 718) .none)), #[]⟩) ::
  (nat_lit 725, ⟨(.type "code"), none, (.fields #[(.str (Str.ofString "__next__") 1115), (.str (Str.ofString "shlex.__next__") 1116), (.str (Str.ofString "/claim/cut.py") 1117), (.int 724 0), (.int 1 0), (.int 0 0), (.int 0 0), (.int 3 0), (.ref 720), (.bool true), (.int 273 0), (.ref 721), .none, (.ref 722), (.ref 723), (.ref 724), (.int 1120 0), (.int 724 0), (.str (Str.ofString "/claim/cut.py") 1121)]), #[]⟩) ::
  (nat_lit 726, ⟨(.type "function"), none, (.func (fnOf (Str.ofString "__next__") (Str.ofString "shlex.__next__") pa726 bd726 sc726 .none .none .none (.str (Str.ofString "cpy313.shlex") 1010) none (.ref 725) .none)), #[]⟩) ::
  (nat_lit 728, ⟨(.type "dict"), none, (.dict #[⟨PyData.keyHash P (Str.ofString "__module__"), (.str (Str.ofString "__module__") 1019), (.str (Str.ofString "cpy313.shlex") 1010)⟩, ⟨PyData.keyHash P (Str.ofString "__firstlineno__"), (.str (Str.ofString "__firstlineno__") 1023), (.int 477 1022)⟩, ⟨PyData.keyHash P (Str.ofString "__init__"), (.str (Str.ofString "__init__") 1035), (.ref 653)⟩, ⟨PyData.keyHash P (Str.ofString "punctuation_chars"), (.str (Str.ofString "punctuation_chars") 1043), (.ref 661)⟩, ⟨PyData.keyHash P (Str.ofString "push_token"), (.str (Str.ofString "push_token") 1051), (.ref 668)⟩, ⟨PyData.keyHash P (Str.ofString "push_source"), (.str (Str.ofString "push_source") 1060), (.ref 676)⟩, ⟨PyData.keyHash P (Str.ofString "pop_source"), (.str (Str.ofString "pop_source") 1067), (.ref 683)⟩, ⟨PyData.keyHash P (Str.ofString "get_token"), (.str (Str.ofString "get_token") 1079), (.ref 690)⟩, ⟨PyData.keyHash P (Str.ofString "read_token"), (.str (Str.ofString "read_token") 1090), (.ref 697)⟩, ⟨PyData.keyHash P (Str.ofString "sourcehook"), (.str (Str.ofString "sourcehook") 1098), (.ref 704)⟩, ⟨PyData.keyHash P (Str.ofString "error_leader"), (.str (Str.ofString "error_leader") 1107), (.ref 712)⟩, ⟨PyData.keyHash P (Str.ofString "__iter__"), (.str (Str.ofString "__iter__") 1114), (.ref 719)⟩, ⟨PyData.keyHash P (Str.ofString "__next__"), (.str (Str.ofString "__next__") 1122), (.ref 726)⟩, ⟨PyData.keyHash P (Str.ofString "__static_attributes__"), (.str (Str.ofString "__static_attributes__") 1143), (.ref 727)⟩, ⟨PyData.keyHash P (Str.ofString "__dict__"), (.str (Str.ofString "__dict__") 1145), (.ref 730)⟩, ⟨PyData.keyHash P (Str.ofString "__weakref__"), (.str (Str.ofString "__weakref__") 1147), (.ref 731)⟩, ⟨PyData.keyHash P (Str.ofString "__doc__"), (.str (Str.ofString "__doc__") 1148), .none⟩] 4), #[]⟩) ::
  (nat_lit 729, ⟨(.type "type"), none, (.cls { name := (Str.ofString "shlex"), bases := [(.type "object")], mro := [(.ref 729), (.type "object")], ns := 728, qualname := (Str.ofString "shlex"), hasDict := true, slotNames := [], subclasses := [], abstract := false, collection := none, hasDel := false }), #[none, none, (some (.str (Str.ofString "shlex") 1012)), (some (.str (Str.ofString "shlex") 1020)), (some (.builtin "object.__new__")), (some (.bool true))]⟩) ::
  (nat_lit 734, ⟨(.type "tuple"), none, (.seq #[(.bool false), (.bool true)] 0), #[]⟩) ::
  (nat_lit 740, ⟨(.type "code"), none, (.fields #[(.str (Str.ofString "split") 1151), (.str (Str.ofString "split") 1152), (.str (Str.ofString "/claim/cut.py") 1153), (.int 729 0), (.int 3 0), (.int 0 0), (.int 0 0), (.int 3 0), (.ref 735), (.bool true), (.int 273 0), (.ref 736), .none, (.ref 737), (.ref 738), (.ref 739), (.int 1158 0), (.int 729 0), (.str (Str.ofString "/claim/cut.py") 1159)]), #[]⟩) ::
  (nat_lit 741, ⟨(.type "function"), none, (.func (fnOf (Str.ofString "split") (Str.ofString "split") pa741 bd741 sc741 (.ref 734) .none .none (.str (Str.ofString "cpy313.shlex") 1010) none (.ref 740) .none)), #[]⟩) ::
  (nat_lit 747, ⟨(.type "code"), none, (.fields #[(.str (Str.ofString "_law_sign") 1163), (.str (Str.ofString "_law_sign") 1164), (.str (Str.ofString "/claim/cut.py") 1165), (.int 738 0), (.int 1 0), (.int 0 0), (.int 0 0), (.int 3 0), (.ref 742), (.bool true), (.int 273 0), (.ref 743), .none, (.ref 744), (.ref 745), (.ref 746), (.int 1168 0), (.int 738 0), (.str (Str.ofString "/claim/cut.py") 1169)]), #[]⟩) ::
  (nat_lit 748, ⟨(.type "function"), none, (.func (fnOf (Str.ofString "_law_sign") (Str.ofString "_law_sign") pa748 bd748 sc748 .none .none .none (.str (Str.ofString "law_oc0205_01") 1161) none (.ref 747) .none)), #[]⟩) ::
  (nat_lit 754, ⟨(.type "code"), none, (.fields #[(.str (Str.ofString "_law_line") 1171), (.str (Str.ofString "_law_line") 1172), (.str (Str.ofString "/claim/cut.py") 1173), (.int 745 0), (.int 1 0), (.int 0 0), (.int 0 0), (.int 3 0), (.ref 749), (.bool true), (.int 273 0), (.ref 750), .none, (.ref 751), (.ref 752), (.ref 753), (.int 1177 0), (.int 745 0), (.str (Str.ofString "/claim/cut.py") 1178)]), #[]⟩) ::
  (nat_lit 755, ⟨(.type "function"), none, (.func (fnOf (Str.ofString "_law_line") (Str.ofString "_law_line") pa755 bd755 sc755 .none .none .none (.str (Str.ofString "law_oc0205_01") 1161) none (.ref 754) .none)), #[]⟩) ::
  (nat_lit 761, ⟨(.type "code"), none, (.fields #[(.str (Str.ofString "_law_ended") 1180), (.str (Str.ofString "_law_ended") 1181), (.str (Str.ofString "/claim/cut.py") 1182), (.int 752 0), (.int 2 0), (.int 0 0), (.int 0 0), (.int 3 0), (.ref 756), (.bool true), (.int 273 0), (.ref 757), .none, (.ref 758), (.ref 759), (.ref 760), (.int 1185 0), (.int 752 0), (.str (Str.ofString "/claim/cut.py") 1186)]), #[]⟩) ::
  (nat_lit 762, ⟨(.type "function"), none, (.func (fnOf (Str.ofString "_law_ended") (Str.ofString "_law_ended") pa762 bd762 sc762 .none .none .none (.str (Str.ofString "law_oc0205_01") 1161) none (.ref 761) .none)), #[]⟩) ::
  (nat_lit 768, ⟨(.type "code"), none, (.fields #[(.str (Str.ofString "_law_turn") 1188), (.str (Str.ofString "_law_turn") 1189), (.str (Str.ofString "/claim/cut.py") 1190), (.int 754 0), (.int 3 0), (.int 0 0), (.int 0 0), (.int 3 0), (.ref 763), (.bool true), (.int 273 0), (.ref 764), .none, (.ref 765), (.ref 766), (.ref 767), (.int 1198 0), (.int 754 0), (.str (Str.ofString "/claim/cut.py") 1199)]), #[]⟩) ::
  (nat_lit 769, ⟨(.type "function"), none, (.func (fnOf (Str.ofString "_law_turn") (Str.ofString "_law_turn") pa769 bd769 sc769 .none .none .none (.str (Str.ofString "law_oc0205_01") 1161) none (.ref 768) .none)), #[]⟩) ::
  (nat_lit 775, ⟨(.type "code"), none, (.fields #[(.str (Str.ofString "_law_closed") 1201), (.str (Str.ofString "_law_closed") 1202), (.str (Str.ofString "/claim/cut.py") 1203), (.int 778 0), (.int 2 0), (.int 0 0), (.int 0 0), (.int 3 0), (.ref 770), (.bool true), (.int 273 0), (.ref 771), .none, (.ref 772), (.ref 773), (.ref 774), (.int 1208 0), (.int 778 0), (.str (Str.ofString "/claim/cut.py") 1209)]), #[]⟩) ::
  (nat_lit 776, ⟨(.type "function"), none, (.func (fnOf (Str.ofString "_law_closed") (Str.ofString "_law_closed") pa776 bd776 sc776 .none .none .none (.str (Str.ofString "law_oc0205_01") 1161) none (.ref 775) .none)), #[]⟩) ::
  (nat_lit 782, ⟨(.type "code"), none, (.fields #[(.str (Str.ofString "_law_behind") 1211), (.str (Str.ofString "_law_behind") 1212), (.str (Str.ofString "/claim/cut.py") 1213), (.int 785 0), (.int 2 0), (.int 0 0), (.int 0 0), (.int 3 0), (.ref 777), (.bool true), (.int 273 0), (.ref 778), .none, (.ref 779), (.ref 780), (.ref 781), (.int 1219 0), (.int 785 0), (.str (Str.ofString "/claim/cut.py") 1220)]), #[]⟩) ::
  (nat_lit 783, ⟨(.type "function"), none, (.func (fnOf (Str.ofString "_law_behind") (Str.ofString "_law_behind") pa783 bd783 sc783 .none .none .none (.str (Str.ofString "law_oc0205_01") 1161) none (.ref 782) .none)), #[]⟩) ::
  (nat_lit 789, ⟨(.type "code"), none, (.fields #[(.str (Str.ofString "_law_told") 1222), (.str (Str.ofString "_law_told") 1223), (.str (Str.ofString "/claim/cut.py") 1224), (.int 790 0), (.int 3 0), (.int 0 0), (.int 0 0), (.int 3 0), (.ref 784), (.bool true), (.int 273 0), (.ref 785), .none, (.ref 786), (.ref 787), (.ref 788), (.int 1229 0), (.int 790 0), (.str (Str.ofString "/claim/cut.py") 1230)]), #[]⟩) ::
  (nat_lit 790, ⟨(.type "function"), none, (.func (fnOf (Str.ofString "_law_told") (Str.ofString "_law_told") pa790 bd790 sc790 .none .none .none (.str (Str.ofString "law_oc0205_01") 1161) none (.ref 789) .none)), #[]⟩) ::
  (nat_lit 796, ⟨(.type "code"), none, (.fields #[(.str (Str.ofString "_law_split") 1232), (.str (Str.ofString "_law_split") 1233), (.str (Str.ofString "/claim/cut.py") 1234), (.int 794 0), (.int 2 0), (.int 0 0), (.int 0 0), (.int 3 0), (.ref 791), (.bool true), (.int 273 0), (.ref 792), .none, (.ref 793), (.ref 794), (.ref 795), (.int 1237 0), (.int 794 0), (.str (Str.ofString "/claim/cut.py") 1238)]), #[]⟩) ::
  (nat_lit 797, ⟨(.type "function"), none, (.func (fnOf (Str.ofString "_law_split") (Str.ofString "_law_split") pa797 bd797 sc797 .none .none .none (.str (Str.ofString "law_oc0205_01") 1161) none (.ref 796) .none)), #[]⟩) ::
  (nat_lit 801, ⟨(.type "code"), none, (.fields #[(.str (Str.ofString "law") 1240), (.str (Str.ofString "law") 1241), (.str (Str.ofString "/claim/cut.py") 1242), (.int 799 0), (.int 1 0), (.int 0 0), (.int 0 0), (.int 3 0), (.ref 798), (.bool true), (.int 273 0), (.ref 799), .none, .none, .none, (.ref 800), (.int 1243 0), (.int 799 0), (.str (Str.ofString "/claim/cut.py") 1244)]), #[]⟩) ::
  (nat_lit 802, ⟨(.type "function"), none, (.func (fnOf (Str.ofString "law") (Str.ofString "law") pa802 bd802 sc802 .none .none .none (.str (Str.ofString "law_oc0205_01") 1161) none (.ref 801) .none)), #[]⟩) :: []
noncomputable def kas : List Nat := [2, 3, 45, 46, 59, 60, 86, 87, 89, 90, 91, 116, 117, 347, 357, 363, 364, 370, 371, 377, 378, 391, 392, 533, 539, 540, 541, 547, 548, 593, 594, 646, 652, 653, 659, 660, 661, 689, 690, 696, 697, 718, 719, 725, 726, 728, 729, 734, 740, 741, 747, 748, 754, 755, 761, 762, 768, 769, 775, 776, 782, 783, 789, 790, 796, 797, 801, 802]
/-! the run over a tree of objects, whole -/
noncomputable def btGo : List Obj → BT → Nat → Option BT
  | [], T, _ => some T
  | o :: r, T, n => match ((T.ins n o).get n).isSome with
    | true => btGo r (T.ins n o) (n + 1)
    | false => none
theorem btGo_abs (life : Life) : ∀ (l : List Obj) (T T' : BT) (n : Nat), btGo l T n = some T' → (absHeap T' (n + l.length) life).objs = (absHeap T n life).objs ++ l.toArray
  | [], T, T', n, h => by cases h; simp
  | o :: r, T, T', n, h => by
    unfold btGo at h
    cases g : ((T.ins n o).get n).isSome with
    | false => rw [g] at h; cases h
    | true =>
      rw [g] at h
      have z := btGo_abs life r (T.ins n o) T' (n + 1) h
      rw [absHeap_ins g] at z
      rw [show n + (o :: r).length = n + 1 + r.length by simp only [List.length_cons]; omega, z]
      show ((absHeap T n life).objs.push o) ++ r.toArray = _
      simp
noncomputable def toT (s : Shared) : Option SharedT := (btGo s.heap.objs.toList .nil 0).map fun T => ⟨T, s.heap.objs.toList.length, s.heap.life, s.gens, s.drawn, s.toks, s.os⟩
theorem toT_abs {s : Shared} {t : SharedT} (h : toT s = some t) : t.abs = s := by
  obtain ⟨⟨objs, life⟩, gens, drawn, toks, os⟩ := s
  obtain ⟨T, e, rfl⟩ := Option.map_eq_some_iff.mp h
  have z := btGo_abs life _ _ _ _ e
  simp only [Nat.zero_add] at z
  show Shared.mk (absHeap T objs.toList.length life) gens drawn toks os = _
  have : absHeap T objs.toList.length life = ⟨objs, life⟩ := by
    show Heap.mk _ _ = Heap.mk _ _
    have z' : (absHeap T objs.toList.length life).objs = objs := by
      rw [z]
      have : (absHeap BT.nil 0 life).objs = #[] := rfl
      rw [this]; simp
    exact congrArg (Heap.mk · life) z'
  rw [this]
theorem endAt0 {t : Thread} {f : Flow} (h : endAt 0 t = some f) : through t = true := by
  unfold endAt at h
  unfold through
  split at h
  · rename_i h1 h2
    cases hs : t.stack with
    | nil => rw [h2]; rfl
    | cons a r => rw [hs] at h1; cases h1
  · cases h
theorem endAt0n {t : Thread} (h : endAt 0 t = none) : through t = false := by
  cases q : through t with
  | false => rfl
  | true =>
    unfold through at q
    obtain ⟨q1, q2⟩ := Bool.and_eq_true_iff.mp q
    unfold endAt at h
    have hs : t.stack = [] := List.isEmpty_iff.mp q1
    rw [hs] at h
    split at q2
    · rename_i f hc; rw [hc] at h; cases h
    · cases q2
theorem topRun_of {tb : String → Option Builtin} {p : Program} {w : World} {n₀ : Nat} {ann : Option Value} : ∀ {n : Nat} {s s' : Shared} {t : Thread} {f : Flow} {c : Code} {q : Pos}, segRun tb p w n₀ ann 0 n s t = some (f, s', c, q) → topRun tb p w n₀ ann n s t = some s'
  | 0, _, _, _, _, _, _, h => by cases h
  | n + 1, s, s', t, f, c, q, h => by
    unfold segRun at h
    unfold topRun
    cases he : endAt 0 t with
    | some x => rw [he] at h; cases h; rw [endAt0 he]
    | none =>
      rw [he] at h
      rw [endAt0n he]
      cases hk : stepOk n₀ ann t with
      | false => rw [hk] at h; cases h
      | true =>
        rw [hk] at h
        cases hs : step (denote tb) p w s t with
        | halt => rw [hs] at h; cases h
        | go s₂ t₂ => rw [hs] at h; exact topRun_of h
/-- what is looked at behind the run -/
noncomputable def seenK (as : List Nat) (s : SharedT) : List (Option Obj) := as.map fun a => match Nat.blt a s.n with
  | true => (s.tree.get a).bind alive
  | false => none
theorem seenK_eq (as : List Nat) (s : SharedT) (l : List Obj) (h : seenK as s = l.map some) : as.map s.abs.heap.get? = l.map some := by
  have : ∀ (as : List Nat) (l : List Obj), seenK as s = l.map some → as.map s.abs.heap.get? = l.map some := by
    intro as
    induction as with
    | nil => intro l h; cases l with | nil => rfl | cons => cases h
    | cons a r ih =>
      intro l h
      cases l with
      | nil => cases h
      | cons o l =>
        simp only [seenK, List.map_cons, List.cons.injEq] at h
        obtain ⟨h1, h2⟩ := h
        rw [List.map_cons, List.map_cons, ih l h2]
        congr 1
        cases e : Nat.blt a s.n with
        | false => rw [e] at h1; cases h1
        | true =>
          rw [e] at h1
          have lt : a < s.n := Nat.le_of_ble_eq_true e
          obtain ⟨o', ho, hal⟩ := Option.bind_eq_some_iff.mp h1
          show (absHeap s.tree s.n s.life).get? a = _
          rw [abs_get lt ho, hal]
  exact this as l h
noncomputable def qv : Program := { pg with main := { pg.main with body := [top 0, top 32] } }
noncomputable def lv : List Str := ["_wall", "_comment_line", "_whence", "_index", "UnsupportedOperation", "IOBase", "BufferedIOBase", "TextIOBase", "BytesIO", "StringIO", "_kind", "_fspath", "_check_arg_types", "isabs", "join", "dirname", "shlex", "split", "_law_sign", "_law_line", "_law_ended", "_law_turn", "_law_closed", "_law_behind", "_law_told", "_law_split"]
noncomputable def xt (s : Shared) : Bool := xlAt qv [] s && recOk [] s
noncomputable def bigOf (seg : (String → Option Builtin) → Program → World → Nat → Option Value → Nat → Nat → SharedT → Thread → Option (Flow × SharedT × Code × Pos)) (tb : String → Option Builtin)
    (imp : (String → Option Builtin) → Program → World → Nat → Shared → Thread → Option Shared) (fen : Program → Shared → Option Shared) (st : Program → Shared × Thread) (w : World) (N : Nat) :=
  ((imp tb (opening pg) w N (st (opening pg)).1 (st (opening pg)).2).bind (fen pg)).bind fun s₀ =>
  match s₀.heap.isNs mainGlobals && s₀.gens.size == 0 && s₀.heap.objs.size == 29 && decide (s₀.heap.nsMap mainGlobals "__annotations__" = some (.ref 6)) with
  | false => none
  | true => (toT s₀).bind fun t₀ => (seg tb pg w 29 (some (.ref 6)) 0 N t₀ (topStub pg)).map fun r =>
      ((staticsOk (importedModules pg.main.body) s₀.heap r.2.1.abs.heap && namesBound pg r.2.1.abs.heap && gensDone r.2.1.abs && laidKept s₀.heap r.2.1.abs.heap), openSeen qv lv (importedModules pg.main.body) xt true r.2.1.abs, seenK kas r.2.1)
noncomputable def bigRun := bigOf segRunT treeTable importEnds fenceModules? start
noncomputable def bigQ := bigOf PySem.W.Fast.tw10110043849684766642 PySem.W.Fast.tw14364793385576792824 PySem.W.Fast.tw10274390034422433532 PySem.W.Fast.tw14289696077712309145 PySem.W.Fast.tw1435165496053646825
theorem big_eq : bigRun = bigQ := by
  unfold bigRun bigQ
  rw [PySem.W.Fast.te10110043849684766642, PySem.W.Fast.te14364793385576792824, PySem.W.Fast.te10274390034422433532, PySem.W.Fast.te14289696077712309145, PySem.W.Fast.te1435165496053646825]
theorem left_of {N : Nat} (h : ∀ w, bigRun w N = some (true, openGood qv lv, ((kx w.params).map (·.2)).map some)) :
    LeftO pg qv lv xt (fun s => kas.map s.heap.get?) (fun w => (kx w.params).map fun p => some p.2) N := by
  intro w
  obtain ⟨s₀, e0, e1⟩ := Option.bind_eq_some_iff.mp (h w)
  cases hc : (s₀.heap.isNs mainGlobals && s₀.gens.size == 0 && s₀.heap.objs.size == 29 && decide (s₀.heap.nsMap mainGlobals "__annotations__" = some (.ref 6))) with
  | false => rw [hc] at e1; cases e1
  | true =>
    rw [hc] at e1
    obtain ⟨t₀, e2, e3⟩ := Option.bind_eq_some_iff.mp e1
    obtain ⟨⟨f₁, t₁, c₁, p₁⟩, e4, e5⟩ := Option.map_eq_some_iff.mp e3
    simp only [Prod.mk.injEq] at e5
    obtain ⟨l1, l2, l3⟩ := e5
    obtain ⟨hc, c4⟩ := Bool.and_eq_true_iff.mp hc
    obtain ⟨c12, c3⟩ := Bool.and_eq_true_iff.mp hc
    have c3 : s₀.heap.objs.size = 29 := beq_iff_eq.mp c3
    have c4 : s₀.heap.nsMap mainGlobals "__annotations__" = some (.ref 6) := of_decide_eq_true c4
    have r := topRun_of (segRun_of e4)
    rw [toT_abs e2] at r
    have t : topFrom treeTable pg w N s₀ = some t₁.abs := by
      unfold topFrom
      rw [c12, c3, c4, r]
      show (match staticsOk (importedModules pg.main.body) s₀.heap t₁.abs.heap && namesBound pg t₁.abs.heap && gensDone t₁.abs && laidKept s₀.heap t₁.abs.heap with | true => _ | false => _) = _
      rw [l1]
    unfold openEnds
    have e0' : fencedOpening treeTable pg w N = some s₀ := e0
    rw [e0']
    show (topFrom treeTable pg w N _).map _ = _
    rw [t]
    refine congrArg some (Prod.ext l2 ?_)
    show kas.map t₁.abs.heap.get? = _
    rw [seenK_eq kas t₁ ((kx w.params).map (·.2)) l3, List.map_map]
    rfl
theorem big : ∀ w, bigQ w 6000 = some (true, openGood qv lv, ((kx w.params).map (·.2)).map some) := by
  intro w
  kernel_rfl
theorem left : LeftO pg qv lv xt (fun s => kas.map s.heap.get?) (fun w => (kx w.params).map fun p => some p.2) 6000 :=
  left_of fun w => by rw [big_eq]; exact big w
end Mine
-- HdC
namespace Mine
noncomputable def posLaw (st : Stmt) : Pos := match st with
  | .FunctionDef _ _ _ _ _ _ _ _ _ p => p
  | _ => default
noncomputable abbrev hk : Hook := kHook kx kas (fun _ => by kernel_rfl)
noncomputable abbrev dlaw : DefRec := ⟨Str.ofString "law", pa802, bd802, sc802, posLaw (top 32)⟩
theorem c1 : defOf qv (Str.ofString "law") = some (dlaw, []) := by kernel_rfl
theorem c2 : pg.theDef (Str.ofString "law") = some (dlaw.params, dlaw.body, dlaw.scope) := by kernel_rfl
theorem c3 : kwWritten? dlaw.params.kwonlyargs dlaw.params.kw_defaults = some [] := by kernel_rfl
theorem c4q : PySem.W.Fast.tw9446332074065402090 PySem.Challenge.rw_oc0205_01 = true := by kernel_rfl
theorem c4 : PySem.Challenge.rw_oc0205_01.wellSaid = true := by rw [PySem.W.Fast.te9446332074065402090]; exact c4q
theorem c5 : (chainsOk qv && opensWell pg && (frees PySem.Challenge.rw_oc0205_01.row.toRowW && PySem.Challenge.rw_oc0205_01.row.within.isEmpty)) = true := by kernel_rfl
theorem c6 : pg.bare := ⟨rfl, rfl, rfl, rfl, rfl, by decide +kernel⟩
theorem hw : PySem.Challenge.rw_oc0205_01.row.toRowW.promised := ⟨[.list []], by decide +kernel, by decide +kernel⟩
theorem hd (walk : WalkO qv lv (XL qv []) hk.says PySem.Challenge.rw_oc0205_01.row.toRowW dlaw [] fun f vs => PySem.call f vs) : PySem.Challenge.rw_oc0205_01.Holds := by
  refine holds_law c4 fun said => ?_
  exact holds_open (r := PySem.Challenge.rw_oc0205_01.row) (q := qv) (loose := lv) (Xt := xt) (XP := XL qv []) (Yf := hk.obs) (Ya := hk.val) (YP := hk.says) (d := dlaw) (kwd := []) (N := 6000) left hk.of hk.keeps
    (fun s e => xl_of s (Bool.and_eq_true_iff.mp e).1) XL.keeps c1 c2 c3 (fun s e => recFacts_of (Bool.and_eq_true_iff.mp e).2) rfl said c5 c6 hw walk
end Mine
-- Base
namespace Mine
noncomputable def Fill (_ : OpenLaw) (_ : Params → Frag) : Prop := True
theorem fillNow : Fill PySem.Challenge.rw_oc0205_01 kx := by
  k_fill
  exact True.intro
/-- what every heap behind the top holds -/
structure Wd (w : World) (mean : ExcName → Option Value) (mg mb : Str → Option Value) (h : Heap) : Prop where
  X : (kx w.params).In h
  T : Top qv (looseW qv lv) mean mg mb h
theorem Wd.keeps {w : World} {mean : ExcName → Option Value} {mg mb : Str → Option Value} {h h' : Heap} (W : Wd w mean mg mb h) (k : ∀ b o, h.get? b = some o → h'.get? b = some o) : Wd w mean mg mb h' :=
  ⟨Frag.In.keeps W.X k, W.T.keeps k⟩
noncomputable abbrev md (w : World) : Model := model pg w
/-- a def of the text's is entered; what stood stays -/
theorem enterA {w : World} {mean : ExcName → Option Value} {mg mb : Str → Option Value} {A : Around} {s : Shared} {Q E : Value → Shared → Prop} {name qual : Str} {params : Arguments} {body : List Stmt} {scope : Scope} {dV kV doc pm cdv ct oc : Value} {an od : Option Addr}
    {osl : Array (Option Value)} {f : Addr} {args : List Value} {kw : List (Str × Value)} {binds : List (Str × Value)}
    (W : Wd w mean mg mb s.heap) (ho : (kx w.params).lookup f = some ⟨oc, od, .func (fnOf name qual params body scope dV kV doc pm an cdv ct), osl⟩) (hcd : codeIn (kx w.params) cdv qual = true) (hroom : A.depth < recursionLimit)
    (hbind : BindsTo s (fnOf name qual params body scope dV kV doc pm an cdv ct) ⟨args, kw⟩ binds) (hloc : ∀ y ∈ binds, scope.names.lookup y.1 = some .local)
    (h : ∀ h₁ L, L = s.heap.objs.size → Fr s.heap L h₁ (fun y => binds.reverse.lookup y) → News s.heap L h₁ [] →
      wpAny (md w) (A.deeper (envOf qual scope L f cdv)) (execs body (envOf qual scope L f cdv)) (fun fl s' => Q (match fl with | .ret v => v | _ => .none) s')
        (fun e s' => wpAny (md w) (A.deeper (envOf qual scope L f cdv)) (leaving (envOf qual scope L f cdv) e) (fun _ s'' => E e s'') (fun e' s'' => E e' s'') s')
        { s with heap := h₁, toks := s.toks + binds.length })
    (hco : scope.isCoroutine = false) (hgen : scope.isGenerator = false) (hk : scope.kind = .function) (hcell : ∀ x ∈ scope.names, x.2 ≠ .cell) :
    wpAny (md w) A (call (.ref f) args kw) Q E s := by
  refine wpAny_call ?_
  refine codeAny_call_def (fd := fnOf name qual params body scope dV kV doc pm an cdv ct) (body := body) (binds := binds) hroom (W.X _ _ ho) rfl W.T.nolimit (codeRec_of W.X hcd) rfl hbind hcell hloc (fun h₁ hns hk₁ => ?_) hco hgen hk
  exact h h₁ _ rfl ⟨hns, hk₁, Nat.le_refl _⟩ News.nil
/-- the surroundings of a call that no handler stands about -/
noncomputable abbrev AR (dp un : Nat) (fr : Option (List Env)) (gd : Option (List Code)) : Around := { handled := none, depth := dp, frames := fr, guards := gd, units := un }
noncomputable def listObj (vs : List Value) (n : Nat) : Obj := { cls := .type "list", data := .seq vs.toArray n }
noncomputable def tupObj (vs : List Value) : Obj := { cls := .type "tuple", data := .seq vs.toArray }
/-- texts as values -/
inductive SV : List Value → List Str → Prop
  | nil : SV [] []
  | cons {x : Str} {t : Tok} {vs : List Value} {xs : List Str} : SV vs xs → SV (.str x t :: vs) (x :: xs)
theorem SV.snoc {vs : List Value} {xs : List Str} {x : Str} {t : Tok} (h : SV vs xs) : SV (vs ++ [.str x t]) (xs ++ [x]) := by
  induction h with
  | nil => exact .cons .nil
  | cons _ ih => exact .cons ih
theorem SV.length {vs : List Value} {xs : List Str} (h : SV vs xs) : vs.length = xs.length := by
  induction h with
  | nil => rfl
  | cons _ ih => simp [ih]
end Mine
-- Pure1
namespace Mine
noncomputable abbrev sg (c : Nat) : Str := ⟨#[c]⟩
/-- «c in x», as the walk says it: not -/
noncomputable abbrev notIn (x : Str) (c : Nat) : Bool := (Builtin.Str.occurrences x (sg c) 0 x.length 1).isEmpty
structure St where
  mode : Str
  word : Option Str
  words : List Str
noncomputable def ended (w : Option Str) (ws : List Str) : List Str := match w with | none => ws | some x => ws ++ [x]
noncomputable def soFar (w : Option Str) : Str := match w with | none => Str.ofString "" | some x => x
/-- behind the tests for a remark and for white: a mark, a backslash, any other sign -/
noncomputable def turnW (p : Bool) (s : St) (c : Nat) : St :=
  if sg c == Str.ofString "\\" then
    (if p then ⟨Str.ofString "word", some (soFar s.word ++ sg c), s.words⟩ else ⟨Str.ofString "behind a backslash", some (soFar s.word), s.words⟩)
  else ⟨Str.ofString "word", some (soFar s.word ++ sg c), s.words⟩
noncomputable def turnM (p : Bool) (s : St) (c : Nat) : St := ⟨sg c, some (soFar s.word ++ (if p then sg c else Str.ofString "")), s.words⟩
noncomputable def turnQ (p : Bool) (s : St) (c : Nat) : St :=
  if sg c != s.mode then ⟨s.mode, some (soFar s.word ++ sg c), s.words⟩
  else if p then ⟨Str.ofString "gap", none, s.words ++ [soFar s.word ++ sg c]⟩ else ⟨Str.ofString "word", s.word, s.words⟩
noncomputable def turn (p : Bool) (s : St) (c : Nat) : St :=
  if s.mode == Str.ofString "remark" then
    (if sg c == Str.ofString "\n" then ⟨(match s.word with | none => Str.ofString "gap" | some _ => Str.ofString "word"), s.word, s.words⟩ else s)
  else if s.mode == Str.ofString "behind a backslash" then ⟨Str.ofString "word", some (soFar s.word ++ sg c), s.words⟩
  else if s.mode == Str.ofString "behind a backslash in marks" then ⟨Str.ofString "\"", some (soFar s.word ++ (if notIn (Str.ofString "\"\\") c then Str.ofString "\\" else Str.ofString "") ++ sg c), s.words⟩
  else if [Str.ofString "'", Str.ofString "\""].any (fun x => x == s.mode) then
    (if sg c == Str.ofString "\\" then (if s.mode == Str.ofString "\"" then (if p then turnQ p s c else ⟨Str.ofString "behind a backslash in marks", s.word, s.words⟩) else turnQ p s c) else turnQ p s c)
  else if sg c == Str.ofString "#" then (if p then ⟨Str.ofString "remark", s.word, s.words⟩ else ⟨Str.ofString "remark", none, ended s.word s.words⟩)
  else if notIn (Str.ofString " \t\r\n") c then
    (if notIn (Str.ofString "'\"") c then turnW p s c else (if s.mode == Str.ofString "gap" then turnM p s c else (if p then turnW p s c else turnM p s c)))
  else ⟨Str.ofString "gap", none, ended s.word s.words⟩
theorem emptyApp (x : Str) : Str.ofString "" ++ x = x := by
  show Str.append _ _ = _
  unfold Str.append
  obtain ⟨a⟩ := x
  simp [show Str.ofString "" = ⟨#[]⟩ from by decide +kernel]
theorem appEmpty (x : Str) : x ++ Str.ofString "" = x := by
  show Str.append _ _ = _
  unfold Str.append
  obtain ⟨a⟩ := x
  simp [show Str.ofString "" = ⟨#[]⟩ from by decide +kernel]
theorem iteT {α : Type} {b : Bool} {x y : α} (h : b = true) : (if b = true then x else y) = x := if_pos h
theorem iteF {α : Type} {b : Bool} {x y : α} (h : b = false) : (if b = true then x else y) = y := if_neg (by rw [h]; exact Bool.false_ne_true)
/-- a word as a value -/
inductive WV : Value → Option Str → Prop
  | none : WV .none none
  | some {x : Str} {t : Tok} : WV (.str x t) (some x)
/-- a list of texts at a place -/
noncomputable def LsAt (h : Heap) (a : Addr) (xs : List Str) : Prop := ∃ vs n, h.get? a = some (listObj vs n) ∧ SV vs xs
/-- a state at a place, its list of words at lw -/
noncomputable def StIn (h : Heap) (a lw : Addr) (y : St) : Prop := ∃ tm wv vs n, h.get? a = some (tupObj [.str y.mode tm, wv, .ref lw]) ∧ WV wv y.word ∧ h.get? lw = some (listObj vs n) ∧ SV vs y.words
theorem LsAt.keeps {h h' : Heap} {a : Addr} {xs : List Str} (x : LsAt h a xs) (k : h.StaysIn h') : LsAt h' a xs := let ⟨vs, n, e, r⟩ := x; ⟨vs, n, k _ _ e, r⟩
theorem StIn.keeps {h h' : Heap} {a lw : Addr} {y : St} (x : StIn h a lw y) (k : h.StaysIn h') : StIn h' a lw y := let ⟨tm, wv, vs, n, e, r, l, v⟩ := x; ⟨tm, wv, vs, n, k _ _ e, r, k _ _ l, v⟩
theorem stIn_mk {h : Heap} {a lw : Addr} {m : Str} {tm : Tok} {wv : Value} {wd : Option Str} {ws : List Str} {y : St} (h1 : h.get? a = some (tupObj [.str m tm, wv, .ref lw])) (h2 : WV wv wd) (h3 : LsAt h lw ws) (e : y = ⟨m, wd, ws⟩) : StIn h a lw y := by
  subst e
  obtain ⟨vs, n, e, v⟩ := h3
  exact ⟨tm, wv, vs, n, h1, h2, e, v⟩
/-- a new fact onto the ledger: of an object that the caller's base does not hold -/
theorem newsAdd {h₀ h h' : Heap} {L a : Addr} {m : Str → Option Value} {o : Obj} {news : List (Addr × Obj)} (F : Fr h₀ L h m) (N : News h₀ L h' news) (e : h'.get? a = some o) (hf : h.get? a = none) : News h₀ L h' ((a, o) :: news) := by
  intro p hp
  rcases List.mem_cons.mp hp with rfl | hp
  · refine ⟨e, fun q => ?_, ?_⟩
    · obtain ⟨oL, _, _, hL, _⟩ := F.ns
      have q' : a = L := q
      rw [q', hL] at hf; cases hf
    · cases q : h₀.get? a with
      | none => rfl
      | some o' => have z := F.keep _ _ q; rw [z] at hf; cases hf
  · exact N p hp
theorem newsAgain {h₀ h h' : Heap} {L a : Addr} {m : Str → Option Value} {o o₁ : Obj} {news : List (Addr × Obj)} (F : Fr h₀ L h m) (N₁ : News h₀ L h news) (hm : (a, o₁) ∈ news) (N : News h₀ L h' news) (e : h'.get? a = some o) : News h₀ L h' ((a, o) :: news) := by
  intro p hp
  rcases List.mem_cons.mp hp with rfl | hp
  · exact ⟨e, (N₁ _ hm).2⟩
  · exact N p hp
theorem newsFresh {h₀ h : Heap} {L a : Addr} {o : Obj} {news : List (Addr × Obj)} (N : News h₀ L h news) (hm : (a, o) ∈ news) : h₀.get? a = none := (N _ hm).2.2
theorem frStays {h₀ h h' : Heap} {L : Addr} {m : Str → Option Value} (F : Fr h₀ L h m) (k : h.StaysIn h') : Fr h₀ L h' m := by
  obtain ⟨oL, a1, a2, hL, a3⟩ := F.ns
  exact ⟨⟨oL, a1, a2, k _ _ hL, a3⟩, fun b o e => k _ _ (F.keep b o e), F.above⟩
theorem newsStays {h₀ h h' : Heap} {L : Addr} {news : List (Addr × Obj)} (N : News h₀ L h news) (k : h.StaysIn h') : News h₀ L h' news := fun p hp => ⟨k _ _ (N p hp).1, (N p hp).2⟩
end Mine
-- Rules
namespace Mine
theorem lenApp {x y : Str} {a b : Nat} (hx : x.length ≤ a) (hy : y.length ≤ b) : (x ++ y).length ≤ a + b := by
  rw [Str.length_append]; omega
theorem lenSg (c : Nat) : (sg c).length ≤ 1 := Nat.le_refl 1
section
variable {prog : Program} {w : World} {A : Around} {E : Value → Shared → Prop} {s : Shared}
theorem addS {x y : Str} {t u : Tok} {a b : Nat} {Q : Value → Shared → Prop} (hx : x.length ≤ a) (hy : y.length ≤ b) (hab : Nat.ble (a + b) 16777216 = true) (h : ∀ t' tk, Q (.str (x ++ y) t') { s with toks := tk }) :
    wpAny (model prog w) A (binaryOp .Add (.str x t) (.str y u)) Q E s :=
  PyProof.Rows.add_str h (by rw [sizeLine_eq]; have := Nat.le_of_ble_eq_true hab; omega)
theorem iaddS {x y : Str} {t u : Tok} {a b : Nat} {Q : Value → Shared → Prop} (hx : x.length ≤ a) (hy : y.length ≤ b) (hab : Nat.ble (a + b) 16777216 = true) (h : ∀ t' tk, Q (.str (x ++ y) t') { s with toks := tk }) :
    wpAny (model prog w) A (inplaceOp .Add (.str x t) (.str y u)) Q E s :=
  PyProof.Rows.iadd_str h (by rw [sizeLine_eq]; have := Nat.le_of_ble_eq_true hab; omega)
theorem truthySg {c : Nat} {t : Tok} {Q : Bool → Shared → Prop} (h : ∀ k, Q true { s with toks := k }) : wpAny (model prog w) A (truthy (.str (sg c) t)) Q E s :=
  PySem.P.truthy_str (x := sg c) (by show ¬ ((1 : Nat) : Int) ≥ 2 ^ 63; decide) (h _)
theorem truthyT {x : Str} {t : Tok} {a : Nat} {Q : Bool → Shared → Prop} (hx : x.length ≤ a) (ha : Nat.ble a 16777216 = true) (h : ∀ k, Q (x != Str.ofString "") { s with toks := k }) : wpAny (model prog w) A (truthy (.str x t)) Q E s := by
  have ha := Nat.le_of_ble_eq_true ha
  refine PySem.P.truthy_str (x := x) (by omega) ?_
  have e : ((x.length : Int) != 0) = (x != Str.ofString "") := by
    rw [show Str.ofString "" = ⟨#[]⟩ from by decide +kernel]
    obtain ⟨⟨l⟩⟩ := x
    cases l with
    | nil => rfl
    | cons b r =>
      have h1 : (((⟨(b :: r).toArray⟩ : Str).length : Int) != 0) = true := by simp [Str.length]; omega
      have h2 : ((⟨(b :: r).toArray⟩ : Str) != ⟨#[]⟩) = true := by simp
      exact h1.trans h2.symm
  rw [e]; exact h _
theorem notInEmpty {c : Nat} {t u : Tok} {Q : Value → Shared → Prop} (h : Q (.bool true) s) : wpAny (model prog w) A (compareOp .NotIn (.str (sg c) u) (.str (Str.ofString "") t)) Q E s := by
  refine PyProof.Rows.notIn_str ?_
  have e : (!(!(Builtin.Str.occurrences (Str.ofString "") (sg c) 0 (Str.ofString "").length 1).isEmpty)) = true := by
    rw [StrLaws.found_one, show Str.ofString "" = ⟨#[]⟩ from by decide +kernel]
    simp
  rw [e]; exact h
theorem inEmpty {c : Nat} {t u : Tok} {Q : Value → Shared → Prop} (h : Q (.bool false) s) : wpAny (model prog w) A (compareOp .In (.str (sg c) u) (.str (Str.ofString "") t)) Q E s := by
  refine PyProof.Rows.in_str ?_
  have e : (!(Builtin.Str.occurrences (Str.ofString "") (sg c) 0 (Str.ofString "").length 1).isEmpty) = false := by
    rw [StrLaws.found_one, show Str.ofString "" = ⟨#[]⟩ from by decide +kernel]
    simp
  rw [e]; exact h
end
end Mine
-- Turn
namespace Mine
theorem fillTurn : Fill PySem.Challenge.rw_oc0205_01 kx := by
  k_fill
  exact True.intro
local macro_rules | `(tactic| walk_at "my steps") => `(tactic| repeat' (first | (k_unfold; (try dsimp only)) | walk1 | (dsimp only; walk1) | fail "no step"))
local macro_rules | `(tactic| walk_at "my len") => `(tactic| first | with_reducible assumption | exact lenSg _ | (refine lenApp ?_ ?_ <;> walk_at "my len") | exact Nat.le_refl _)
local macro_rules | `(tactic| walk_at "binaryOp Add str str") => `(tactic| ((with_reducible show wpAny _ _ (binaryOp Operator.Add (Value.str _ _) (Value.str _ _)) _ _ _); refine' addS ?kla ?klb ?klc ?_; (case kla => walk_at "my len"); (case klb => walk_at "my len"); (case klc => exact rfl); intro t' tk'))
local macro_rules | `(tactic| walk_at "inplaceOp Add str str") => `(tactic| ((with_reducible show wpAny _ _ (inplaceOp Operator.Add (Value.str _ _) (Value.str _ _)) _ _ _); refine' iaddS ?kla ?klb ?klc ?_; (case kla => walk_at "my len"); (case klb => walk_at "my len"); (case klc => exact rfl); intro t' tk'))
local macro_rules | `(tactic| walk_at "binaryOp Add ref ref") => `(tactic| (k_here; (with_reducible show wpAny _ _ (binaryOp Operator.Add (Value.ref _) (Value.ref _)) _ _ _); k_dflt (refine' add_lists ?F ?N ?a ?b ?_ ?z; (case F => k_asm); (case N => k_asm); (case a => kmk_list); (case b => kmk_list); (case z => (simp only [sizeLine_eq, List.length_cons, List.length_nil]; omega))); intro h' F' N'; (try k_sweep)))
section
variable {w : World} {mean : ExcName → Option Value} {mg mb : Str → Option Value} {dp un : Nat} {fr : Option (List Env)} {gd : Option (List Code)} {s : Shared} {Q E : Value → Shared → Prop}
theorem ended_none {lw : Addr} (W : Wd w mean mg mb s.heap) (hroom : dp < recursionLimit)
    (ret : ∀ h' tk, s.heap.StaysIn h' → Q (.ref lw) { s with heap := h', toks := tk }) :
    wpAny (md w) (AR dp un fr gd) (call (.ref 762) [.none, .ref lw]) Q E s := by
  have X := W.X
  have T := W.T
  refine enterA (binds := [("word", .none), ("words", .ref lw)]) W (by k_is) (by k_is) hroom (BindsTo.of_eq rfl) (locs rfl) ?_ rfl rfl rfl (by decide)
  intro h₁ L hL F N
  w_on
  w_top on
  walk_at "my steps"
  all_goals exact ret _ _ (Fr.keep (by assumption))
theorem ended_some {x : Str} {t : Tok} {lw : Addr} {vs : List Value} {n : Nat} (W : Wd w mean mg mb s.heap) (hroom : dp < recursionLimit) (hl : s.heap.get? lw = some (listObj vs n)) (hn : vs.length < 1000)
    (ret : ∀ a h' tk, s.heap.StaysIn h' → s.heap.get? a = none → h'.get? a = some (listObj (vs ++ [.str x t]) 0) → Q (.ref a) { s with heap := h', toks := tk }) :
    wpAny (md w) (AR dp un fr gd) (call (.ref 762) [.str x t, .ref lw]) Q E s := by
  have X := W.X
  have T := W.T
  have IL : s.heap.IsList lw vs.toArray := ⟨_, hl, rfl, _, rfl⟩
  refine enterA (binds := [("word", .str x t), ("words", .ref lw)]) W (by k_is) (by k_is) hroom (BindsTo.of_eq rfl) (locs rfl) ?_ rfl rfl rfl (by decide)
  intro h₁ L hL F N
  w_on
  w_top on
  walk_at "my steps"
  all_goals exact ret _ _ _ (Fr.keep (by assumption)) (newsFresh (by assumption) (by exact List.Mem.head _)) (News.get (by assumption) (by exact List.Mem.head _))
local macro_rules | `(tactic| walk_at "call ref") => `(tactic| (
  (with_reducible show wpAny _ _ (call (Value.ref 762) [Value.none, _]) _ _ _);
  (with_reducible rename Fr _ _ _ _ => kF); (with_reducible rename News _ _ _ _ => kN);
  refine' ended_none ?k1 ?k2 ?_;
  (case k1 => exact Wd.keeps (by assumption) (Fr.keep kF)); (case k2 => (show _ + 1 < _; omega));
  intro h' tk' st'; replace kF := frStays kF st'; replace kN := newsStays kN st'; try dsimp only))
local macro_rules | `(tactic| walk_at "call ref") => `(tactic| (
  (with_reducible show wpAny _ _ (call (Value.ref 762) [Value.str _ _, _]) _ _ _);
  (with_reducible rename Fr _ _ _ _ => kF); (with_reducible rename News _ _ _ _ => kN);
  refine' ended_some ?k1 ?k2 ?k3 ?k4 ?_;
  (case k1 => exact Wd.keeps (by assumption) (Fr.keep kF)); (case k2 => (show _ + 1 < _; omega)); (case k3 => first | exact Fr.keep kF _ _ (by assumption) | exact News.get kN (by k_mem)); (case k4 => assumption);
  intro a' h' tk' st' fr' ls'; (have kN' := newsAdd kF (newsStays kN st') ls' fr'); replace kF := frStays kF st'; clear kN; try dsimp only))
theorem turn_ct {st lw : Addr} {x : St} {tc : Tok} {c : Nat} {p : Bool}
    (W : Wd w mean mg mb s.heap) (hroom : dp + 1 < recursionLimit) (hst : StIn s.heap st lw x) (hn : x.words.length < 1000) (hx : ∀ y, x.word = some y → y.length ≤ 1000)
    (ret : ∀ a lw' h' tk, s.heap.StaysIn h' → StIn h' a lw' (turn p x c) → (a = st ∨ s.heap.get? a = none) → (lw' = lw ∨ s.heap.get? lw' = none) → Q (.ref a) { s with heap := h', toks := tk }) :
    wpAny (md w) (AR dp un fr gd) (call (.ref 769) [.ref st, .str (sg c) tc, .bool p]) Q E s := by
  have X := W.X
  have T := W.T
  have hst₀ := hst
  obtain ⟨mode, wd, ws⟩ := x
  obtain ⟨tm, wv, vs, n, hst, hw, hl', hv⟩ := hst
  dsimp only at hn hx hw hv
  have hl : LsAt s.heap lw ws := ⟨vs, n, hl', hv⟩
  have hn' : vs.length < 1000 := by rw [hv.length]; exact hn
  have IL : s.heap.IsList lw vs.toArray := ⟨_, hl', rfl, _, rfl⟩
  have IT : IsTup s.heap st #[.str mode tm, wv, .ref lw] := ⟨_, hst, rfl, _, rfl⟩
  refine enterA (binds := [("state", .ref st), ("sign", .str (sg c) tc), ("plain", .bool p)]) W (by k_is) (by k_is) (by show dp < _; omega) (BindsTo.of_eq rfl) (locs rfl) ?_ rfl rfl rfl (by decide)
  intro h₁ L hL F N
  w_on
  w_top on
  rcases hw with _ | @⟨xw, tw⟩
  · walk_at "my steps"
    all_goals (try dsimp only)
    all_goals (
      first
        | exact ret _ _ _ _ (Fr.keep (by assumption)) (stIn_mk (News.get (by assumption) (by exact List.Mem.head _)) (by first | exact WV.none | exact WV.some)
            (by first | exact LsAt.keeps hl (Fr.keep (by assumption)) | exact ⟨_, _, News.get (by assumption) (by exact List.Mem.tail _ (List.Mem.head _)), SV.snoc hv⟩)
            (by (dsimp only [turn, turnQ, turnW, turnM, soFar, ended]); (repeat (first | refine (iteT (by with_reducible assumption)).trans ?_ | refine (iteF (by with_reducible assumption)).trans ?_)); (first | with_reducible rfl | simp (disch := with_reducible assumption) only [iteT, iteF, emptyApp, appEmpty])))
            (.inr (newsFresh (by assumption) (by exact List.Mem.head _))) (by first | exact .inl rfl | exact .inr (newsFresh (by assumption) (by exact List.Mem.tail _ (List.Mem.head _))))
        | exact ret _ _ _ _ (Fr.keep (by assumption)) (by rw [show turn p ⟨mode, none, ws⟩ c = ⟨mode, none, ws⟩ from by (dsimp only [turn]); (repeat (first | refine (iteT (by with_reducible assumption)).trans ?_ | refine (iteF (by with_reducible assumption)).trans ?_)); with_reducible rfl]; exact StIn.keeps hst₀ (Fr.keep (by assumption))) (.inl rfl) (.inl rfl)
        | fail "turn: an end")
  · have hx := hx _ rfl
    walk_at "my steps"
    all_goals (try dsimp only)
    all_goals (
      first
        | exact ret _ _ _ _ (Fr.keep (by assumption)) (stIn_mk (News.get (by assumption) (by exact List.Mem.head _)) (by first | exact WV.none | exact WV.some)
            (by first | exact LsAt.keeps hl (Fr.keep (by assumption)) | exact ⟨_, _, News.get (by assumption) (by exact List.Mem.tail _ (List.Mem.head _)), SV.snoc hv⟩)
            (by (dsimp only [turn, turnQ, turnW, turnM, soFar, ended]); (repeat (first | refine (iteT (by with_reducible assumption)).trans ?_ | refine (iteF (by with_reducible assumption)).trans ?_)); (first | with_reducible rfl | simp (disch := with_reducible assumption) only [iteT, iteF, emptyApp, appEmpty])))
            (.inr (newsFresh (by assumption) (by exact List.Mem.head _))) (by first | exact .inl rfl | exact .inr (newsFresh (by assumption) (by exact List.Mem.tail _ (List.Mem.head _))))
        | exact ret _ _ _ _ (Fr.keep (by assumption)) (by rw [show turn p ⟨mode, some xw, ws⟩ c = ⟨mode, some xw, ws⟩ from by (dsimp only [turn]); (repeat (first | refine (iteT (by with_reducible assumption)).trans ?_ | refine (iteF (by with_reducible assumption)).trans ?_)); with_reducible rfl]; exact StIn.keeps hst₀ (Fr.keep (by assumption))) (.inl rfl) (.inl rfl)
        | fail "turn: an end")
end
end Mine
-- Meth
namespace Mine
noncomputable abbrev ks (ads : List (Addr × Obj)) : List Addr := ads.map (·.1)
/-- a def of the text's is entered; the objects of 'ads' may turn, all else stays -/
theorem enterKc {w : World} {mean : ExcName → Option Value} {mg mb : Str → Option Value} {A : Around} {s : Shared} {Q E : Value → Shared → Prop} {name qual : Str} {params : Arguments} {body : List Stmt} {scope : Scope} {dV kV doc pm cdv ct oc : Value} {an od : Option Addr}
    {osl : Array (Option Value)} {f : Addr} {args : List Value} {kw : List (Str × Value)} {binds : List (Str × Value)} (ads : List (Addr × Obj))
    (W : Wd w mean mg mb (hideAll s.heap (ks ads))) (hN : ∀ p ∈ ads, s.heap.get? p.1 = some p.2) (ho : (kx w.params).lookup f = some ⟨oc, od, .func (fnOf name qual params body scope dV kV doc pm an cdv ct), osl⟩) (hcd : codeIn (kx w.params) cdv qual = true) (hroom : A.depth < recursionLimit)
    (hbind : BindsTo s (fnOf name qual params body scope dV kV doc pm an cdv ct) ⟨args, kw⟩ binds) (hloc : ∀ y ∈ binds, scope.names.lookup y.1 = some .local)
    (h : ∀ h₁ L, L = s.heap.objs.size → Fr (hideAll s.heap (ks ads)) L h₁ (fun y => binds.reverse.lookup y) → News (hideAll s.heap (ks ads)) L h₁ ads →
      wpAny (md w) (A.deeper (envOf qual scope L f cdv)) (execs body (envOf qual scope L f cdv)) (fun fl s' => Q (match fl with | .ret v => v | _ => .none) s')
        (fun e s' => wpAny (md w) (A.deeper (envOf qual scope L f cdv)) (leaving (envOf qual scope L f cdv) e) (fun _ s'' => E e s'') (fun e' s'' => E e' s'') s')
        { s with heap := h₁, toks := s.toks + binds.length })
    (hco : scope.isCoroutine = false) (hgen : scope.isGenerator = false) (hk : scope.kind = .function) (hcell : ∀ x ∈ scope.names, x.2 ≠ .cell) :
    codeAny (md w) A (.call (.ref f) ⟨args, kw⟩) (fun r s' => match r with | .ok (.ret v) => Q v s' | .ok _ => False | .error e => E e s') s := by
  have keep : ∀ b o, (hideAll s.heap (ks ads)).get? b = some o → s.heap.get? b = some o := fun b o e => of_hideAll _ e
  refine codeAny_call_def (fd := fnOf name qual params body scope dV kV doc pm an cdv ct) (body := body) (binds := binds) hroom (keep _ _ (W.X _ _ ho)) rfl (W.T.nolimit.keeps keep) (codeRec_of (W.keeps keep).X hcd) rfl hbind hcell hloc (fun h₁ hns hk₁ => ?_) hco hgen hk
  refine h h₁ _ rfl ⟨hns, fun b o e => hk₁ _ _ (keep _ _ e), Nat.le_of_eq (hideAll_size _ _)⟩ fun p hp => ⟨hk₁ _ _ (hN p hp), Nat.ne_of_lt (Heap.lt_size (hN p hp)), hideAll_none _ (List.mem_map_of_mem hp)⟩
/-- the same, as a call -/
theorem enterK {w : World} {mean : ExcName → Option Value} {mg mb : Str → Option Value} {A : Around} {s : Shared} {Q E : Value → Shared → Prop} {name qual : Str} {params : Arguments} {body : List Stmt} {scope : Scope} {dV kV doc pm cdv ct oc : Value} {an od : Option Addr}
    {osl : Array (Option Value)} {f : Addr} {args : List Value} {kw : List (Str × Value)} {binds : List (Str × Value)} (ads : List (Addr × Obj))
    (W : Wd w mean mg mb (hideAll s.heap (ks ads))) (hN : ∀ p ∈ ads, s.heap.get? p.1 = some p.2) (ho : (kx w.params).lookup f = some ⟨oc, od, .func (fnOf name qual params body scope dV kV doc pm an cdv ct), osl⟩) (hcd : codeIn (kx w.params) cdv qual = true) (hroom : A.depth < recursionLimit)
    (hbind : BindsTo s (fnOf name qual params body scope dV kV doc pm an cdv ct) ⟨args, kw⟩ binds) (hloc : ∀ y ∈ binds, scope.names.lookup y.1 = some .local)
    (h : ∀ h₁ L, L = s.heap.objs.size → Fr (hideAll s.heap (ks ads)) L h₁ (fun y => binds.reverse.lookup y) → News (hideAll s.heap (ks ads)) L h₁ ads →
      wpAny (md w) (A.deeper (envOf qual scope L f cdv)) (execs body (envOf qual scope L f cdv)) (fun fl s' => Q (match fl with | .ret v => v | _ => .none) s')
        (fun e s' => wpAny (md w) (A.deeper (envOf qual scope L f cdv)) (leaving (envOf qual scope L f cdv) e) (fun _ s'' => E e s'') (fun e' s'' => E e' s'') s')
        { s with heap := h₁, toks := s.toks + binds.length })
    (hco : scope.isCoroutine = false) (hgen : scope.isGenerator = false) (hk : scope.kind = .function) (hcell : ∀ x ∈ scope.names, x.2 ≠ .cell) :
    wpAny (md w) A (call (.ref f) args kw) Q E s :=
  wpAny_call (enterKc ads W hN ho hcd hroom hbind hloc h hco hgen hk hcell)
theorem Wd.shown {w : World} {mean : ExcName → Option Value} {mg mb : Str → Option Value} {h : Heap} {as : List Addr} (W : Wd w mean mg mb (hideAll h as)) : Wd w mean mg mb h := W.keeps fun _ _ e => of_hideAll _ e
/-- what the hidden heap holds -/
theorem wdHide {w : World} {mean : ExcName → Option Value} {mg mb : Str → Option Value} {h₀ h : Heap} {L : Addr} {m : Str → Option Value} {news ads : List (Addr × Obj)} (W : Wd w mean mg mb h₀) (F : Fr h₀ L h m) (N : News h₀ L h news) (hs : ∀ p ∈ ads, p ∈ news) :
    Wd w mean mg mb (hideAll h (ks ads)) := W.keeps fun b o e => hideAll_get _ (F.keep b o e) fun q => by
  obtain ⟨p, hp, rfl⟩ := List.mem_map.mp q
  rw [(N p (hs p hp)).2.2] at e; cases e
/-- back from such a call: the caller's frame and ledger -/
theorem frBack {h₀ h h' : Heap} {L : Addr} {m : Str → Option Value} {news ads : List (Addr × Obj)} (F : Fr h₀ L h m) (N : News h₀ L h news) (hs : ∀ p ∈ ads, p ∈ news) (k : (hideAll h (ks ads)).StaysIn h') : Fr h₀ L h' m := by
  have nL : L ∉ ks ads := fun q => by
    obtain ⟨p, hp, e⟩ := List.mem_map.mp q
    exact (N p (hs p hp)).2.1 e
  have nm : ∀ b o, h₀.get? b = some o → b ∉ ks ads := fun b o e q => by
    obtain ⟨p, hp, rfl⟩ := List.mem_map.mp q
    rw [(N p (hs p hp)).2.2] at e; cases e
  obtain ⟨oL, a1, a2, hL, a3⟩ := F.ns
  exact ⟨⟨oL, a1, a2, k _ _ (hideAll_get _ hL nL), a3⟩, fun b o e => k _ _ (hideAll_get _ (F.keep b o e) (nm b o e)), F.above⟩
theorem stayAll {h h' : Heap} {L : Addr} {m : Str → Option Value} {ads : List (Addr × Obj)} (F : Fr (hideAll h (ks ads)) L h' m) (N : News (hideAll h (ks ads)) L h' ads) (hN : ∀ p ∈ ads, h.get? p.1 = some p.2) : h.StaysIn h' := by
  intro b o e
  by_cases q : b ∈ ks ads
  · obtain ⟨p, hp, rfl⟩ := List.mem_map.mp q
    rw [hN p hp] at e
    cases e
    exact (N p hp).1
  · exact F.keep _ _ (hideAll_get _ e q)
theorem hN2 {h : Heap} {x dx : Addr} {o o' : Obj} (hx : h.get? x = some o) (hd : h.get? dx = some o') : ∀ p ∈ [(x, o), (dx, o')], h.get? p.1 = some p.2 := by
  simp only [List.forall_mem_cons]; exact ⟨hx, hd, fun _ h => nomatch h⟩
/-- the changed objects, and those that stayed -/
theorem newsBack {h₀ h h' : Heap} {L : Addr} {news ads ads' rest : List (Addr × Obj)} (N : News h₀ L h news) (hs : ∀ p ∈ ads, p ∈ news) (k : (hideAll h (ks ads)).StaysIn h') (hk : ks ads' = ks ads) (hn : ∀ p ∈ ads', h'.get? p.1 = some p.2)
    (hr : ∀ p ∈ rest, p ∈ news ∧ p.1 ∉ ks ads) : News h₀ L h' (ads' ++ rest) := by
  intro p hp
  rcases List.mem_append.mp hp with q | q
  · have : p.1 ∈ ks ads := hk ▸ List.mem_map_of_mem q
    obtain ⟨r, hr', e⟩ := List.mem_map.mp this
    have z := (N r (hs r hr')).2
    rw [e] at z
    exact ⟨hn p q, z⟩
  · obtain ⟨q1, q2⟩ := hr p q
    exact ⟨k _ _ (hideAll_get _ (N p q1).1 q2), (N p q1).2⟩
theorem sub2 {news : List (Addr × Obj)} {p q : Addr × Obj} (m1 : p ∈ news) (m2 : q ∈ news) : ∀ r ∈ [p, q], r ∈ news := List.forall_mem_cons.mpr ⟨m1, List.forall_mem_cons.mpr ⟨m2, fun _ h => nomatch h⟩⟩
theorem wd2 {w : World} {mean : ExcName → Option Value} {mg mb : Str → Option Value} {h₀ h : Heap} {L x dx : Addr} {o1 o2 : Obj} {m : Str → Option Value} {news : List (Addr × Obj)} (W : Wd w mean mg mb h₀) (F : Fr h₀ L h m) (N : News h₀ L h news) (m1 : (x, o1) ∈ news) (m2 : (dx, o2) ∈ news) :
    Wd w mean mg mb (hideAll h [x, dx]) := wdHide (ads := [(x, o1), (dx, o2)]) W F N (sub2 m1 m2)
theorem back2 {h₀ h h' : Heap} {L x dx : Addr} {o1 o2 : Obj} {m : Str → Option Value} {news : List (Addr × Obj)} (F : Fr h₀ L h m) (N : News h₀ L h news) (k : (hideAll h [x, dx]).StaysIn h') (m1 : (x, o1) ∈ news) (m2 : (dx, o2) ∈ news) : Fr h₀ L h' m :=
  frBack (ads := [(x, o1), (dx, o2)]) F N (sub2 m1 m2) k
theorem backN2 {h₀ h h' : Heap} {L x dx : Addr} {o1 o2 o1' o2' : Obj} {news rest : List (Addr × Obj)} (N : News h₀ L h news) (k : (hideAll h [x, dx]).StaysIn h') (m1 : (x, o1) ∈ news) (m2 : (dx, o2) ∈ news) (hx' : h'.get? x = some o1') (hy' : h'.get? dx = some o2')
    (hr : ∀ p ∈ rest, p ∈ news ∧ p.1 ≠ x ∧ p.1 ≠ dx) : News h₀ L h' ((x, o1') :: (dx, o2') :: rest) :=
  newsBack (ads := [(x, o1), (dx, o2)]) (ads' := [(x, o1'), (dx, o2')]) N (sub2 m1 m2) k rfl (hN2 hx' hy') fun p hp => ⟨(hr p hp).1, fun q => by
    rcases List.mem_cons.mp q with e | q
    · exact (hr p hp).2.1 e
    · exact (hr p hp).2.2 (List.mem_singleton.mp q)⟩
/-- the four objects of a split's run, the stream's two turned -/
theorem back4 {g h h' : Heap} {L lx dl sio ds : Addr} {o2 o4 o3' o4' : Obj} {news : List (Addr × Obj)} (N : News g L h news) (k : (hideAll h [sio, ds]).StaysIn h') (hx : h'.get? sio = some o3') (hy : h'.get? ds = some o4') (m3 : (sio, instObj 594 ds) ∈ news) (m4 : (ds, o4) ∈ news) (m1 : (lx, instObj 729 dl) ∈ news) (m2 : (dl, o2) ∈ news)
    (n2 : lx ≠ sio) (n3 : lx ≠ ds) (n4 : dl ≠ sio) (n5 : dl ≠ ds) : News g L h' [(lx, instObj 729 dl), (dl, o2), (sio, o3'), (ds, o4')] := by
  have N' := backN2 (rest := [(lx, instObj 729 dl), (dl, o2)]) N k m3 m4 hx hy (List.forall_mem_cons.mpr ⟨⟨m1, n2, n3⟩, List.forall_mem_cons.mpr ⟨⟨m2, n4, n5⟩, fun _ h => nomatch h⟩⟩)
  intro p hp
  refine N' p ?_
  simp only [List.mem_cons, List.not_mem_nil, or_false] at hp ⊢
  rcases hp with h | h | h | h
  · exact .inr (.inr (.inl h))
  · exact .inr (.inr (.inr h))
  · exact .inl h
  · exact .inr (.inl h)
end Mine
-- Txtl
namespace Mine
/-- the text of a list of signs -/
noncomputable def ofL (l : List Nat) : Str := ⟨l.toArray⟩
theorem ofL_length (l : List Nat) : (ofL l).length = l.length := by simp [ofL, Str.length]
theorem range_take (l : List Nat) (a k : Nat) (h : a + k ≤ l.length) : ((List.range k).map fun i => a + i).filterMap (fun i => l[i]?) = (l.drop a).take k := by
  induction k with
  | zero => simp
  | succ k ih =>
    rw [List.range_succ, List.map_append, List.filterMap_append, ih (by omega), List.take_add_one]
    have : a + k < l.length := by omega
    simp [List.getElem?_drop, this]
theorem slice_eq (x : Str) (a b : Nat) (hab : a ≤ b) (hb : b ≤ x.length) : Txt.slice x (some (a : Int)) (some (b : Int)) = ofL ((x.cps.toList.drop a).take (b - a)) := by
  have hl : x.length = x.cps.toList.length := by simp [Str.length]
  have idx : Builtin.Str.strSliceIndices (some (a : Int)) (some (b : Int)) 1 x.length = (List.range (b - a)).map fun i => a + i := by
    unfold Builtin.Str.strSliceIndices sliceRange
    simp only [show (1 : Int) > 0 by decide, if_true]
    have e1 : max 0 (min (if (a : Int) < 0 then (a : Int) + (x.length : Int) else (a : Int)) (x.length : Int)) = (a : Int) := by
      rw [if_neg (by omega)]; omega
    have e2 : max 0 (min (if (b : Int) < 0 then (b : Int) + (x.length : Int) else (b : Int)) (x.length : Int)) = (b : Int) := by
      rw [if_neg (by omega)]; omega
    rw [e1, e2]
    have c : (if (a : Int) < (b : Int) then ((b : Int) - (a : Int) + 1 - 1) / 1 else 0).toNat = b - a := by
      split
      · rw [Int.ediv_one]; omega
      · omega
    rw [c]
    apply List.map_congr_left
    intro k _
    omega
  unfold Txt.slice
  rw [idx]
  have fm : (List.filterMap (fun i => x.cps[i]?) ((List.range (b - a)).map fun i => a + i)) = (x.cps.toList.drop a).take (b - a) := by
    have := range_take x.cps.toList a (b - a) (by omega)
    simpa using this
  split
  · rename_i h
    simp only [beq_self_eq_true, Bool.true_and, List.length_map, List.length_range, beq_iff_eq] at h
    have ha : a = 0 := by omega
    subst ha
    have : b - 0 = x.cps.toList.length := by omega
    rw [this, List.drop_zero, List.take_length]
    simp [ofL]
  · rw [fm]; rfl
theorem slice_from (x : Str) (a : Nat) (ha : a ≤ x.length) : Txt.slice x (some (a : Int)) none = ofL (x.cps.toList.drop a) := by
  have e : Txt.slice x (some (a : Int)) none = Txt.slice x (some (a : Int)) (some (x.length : Int)) := by
    unfold Txt.slice Builtin.Str.strSliceIndices
    simp only [show (1 : Int) > 0 by decide, if_true]
    rw [show max 0 (min (if (x.length : Int) < 0 then (x.length : Int) + (x.length : Int) else (x.length : Int)) (x.length : Int)) = (x.length : Int) by rw [if_neg (by omega)]; omega]
  rw [e, slice_eq x a x.length ha (Nat.le_refl _)]
  have : x.length - a = (x.cps.toList.drop a).length := by simp [Str.length]
  rw [this, List.take_length]
theorem slice_to (x : Str) (b : Nat) (hb : b ≤ x.length) : Txt.slice x none (some (b : Int)) = ofL (x.cps.toList.take b) := by
  have e : Txt.slice x none (some (b : Int)) = Txt.slice x (some ((0 : Nat) : Int)) (some (b : Int)) := by
    unfold Txt.slice Builtin.Str.strSliceIndices
    simp only [show (1 : Int) > 0 by decide, if_true]
    rw [show max 0 (min (if ((0 : Nat) : Int) < 0 then ((0 : Nat) : Int) + (x.length : Int) else ((0 : Nat) : Int)) (x.length : Int)) = 0 by rw [if_neg (by omega)]; omega]
  rw [e, slice_eq x 0 b (Nat.zero_le _) hb]
  simp
theorem ofL_sg (c : Nat) : ofL [c] = sg c := rfl
theorem cps_ofL (l : List Nat) : (ofL l).cps.toList = l := by simp [ofL]
theorem ofL_cps (x : Str) : ofL x.cps.toList = x := by simp [ofL]
theorem ofL_append (a b : List Nat) : ofL a ++ ofL b = ofL (a ++ b) := by
  show Str.append _ _ = _
  simp [Str.append, ofL]
end Mine
-- Find
namespace Mine
open PySem.Builtin PySem.Builtin.Str in
theorem gives_find4 (x y : Str) (p : Nat) (t u v v' : Tok) : Gives («str.find» ⟨[.str x t, .str y u, .int (p : Int) v, .int (x.length : Int) v'], []⟩) (.int (match occurrences x y p x.length 1 with | k :: _ => (k : Int) | [] => -1)) := by
  show Gives (match occurrences x y (max 0 (if (p : Int) < 0 then (p : Int) + x.length else (p : Int))).toNat (min (max 0 (if (x.length : Int) < 0 then (x.length : Int) + x.length else (x.length : Int))).toNat x.length) 1 with | k :: _ => retInt k | [] => (do rule "str.find.not-found"; retInt (-1))) _
  rw [show (max 0 (if (p : Int) < 0 then (p : Int) + x.length else (p : Int))).toNat = p by rw [if_neg (by omega)]; omega, show min (max 0 (if (x.length : Int) < 0 then (x.length : Int) + x.length else (x.length : Int))).toNat x.length = x.length by rw [if_neg (by omega)]; omega]
  cases occurrences x y p x.length 1 with
  | nil => exact .rule (.of_eq rfl)
  | cons k _ => exact .of_eq rfl
theorem nlStr : Str.ofString "\n" = sg 10 := by decide +kernel
theorem at_nl (cs : List Nat) (i : Nat) : StrLaws.At (ofL cs) (sg 10) (ofL cs).length i ↔ cs[i]? = some 10 := by
  unfold StrLaws.At
  rw [StrLaws.subAt_one, cps_ofL]
theorem findNl {prog : Program} {w : World} {A : Around} {E : Value → Shared → Prop} {s : Shared} {Q : Value → Shared → Prop} {cs : List Nat} {p : Nat} {tb tn tp tl : Tok}
    (h1 : (∀ i : Nat, p ≤ i → cs[i]? ≠ some 10) → Q (.int (-1) s.toks) { s with toks := s.toks + 1 })
    (h2 : ∀ i : Nat, p ≤ i → cs[i]? = some 10 → (∀ k : Nat, p ≤ k → k < i → cs[k]? ≠ some 10) → Q (.int (i : Int) s.toks) { s with toks := s.toks + 1 }) :
    wpAny (model prog w) A (call (.builtin "str.find") [.str (ofL cs) tb, .str (Str.ofString "\n") tn, .int (p : Int) tp, .int ((ofL cs).length : Int) tl]) Q E s := by
  refine call_gives F.slot_str_find (typeIs_str _ _ _) F.entry_str_find (F.args_str_find_4 _ _ _ _) (gives_find4 (ofL cs) (Str.ofString "\n") p tb tn tp tl) ?_
  rw [nlStr]
  rcases StrLaws.occ_head_from (ofL cs) (sg 10) p 1 (Nat.le_refl _) with ⟨e, hn⟩ | ⟨i, r, e, hp, ha, hn⟩
  · rw [e]
    exact h1 fun i hi q => hn i hi ((at_nl cs i).mpr q)
  · rw [e]
    exact h2 i hp ((at_nl cs i).mp ha) fun k hk hki q => hn k hk hki ((at_nl cs k).mpr q)
/-- behind the line's end -/
noncomputable def dropLine : List Nat → List Nat
  | [] => []
  | c :: r => if c = 10 then r else dropLine r
theorem dropLine_none : ∀ l : List Nat, (∀ i : Nat, l[i]? ≠ some 10) → dropLine l = []
  | [], _ => rfl
  | c :: r, h => by
    unfold dropLine
    rw [if_neg (fun e => h 0 (by rw [e]; rfl))]
    exact dropLine_none r fun i => h (i + 1)
theorem dropLine_at : ∀ (l : List Nat) (i : Nat), l[i]? = some 10 → (∀ k : Nat, k < i → l[k]? ≠ some 10) → dropLine l = l.drop (i + 1)
  | [], i, h, _ => by simp at h
  | c :: r, 0, h, _ => by
    have : c = 10 := by simpa using h
    unfold dropLine
    rw [if_pos this]; rfl
  | c :: r, i + 1, h, hk => by
    unfold dropLine
    rw [if_neg (fun e => hk 0 (Nat.zero_lt_succ _) (by rw [e]; rfl))]
    exact dropLine_at r i (by simpa using h) fun k hki => by have := hk (k + 1) (by omega); simpa using this
theorem lineEnd {cs : List Nat} {p i : Nat} (hj : cs[i]? = some 10) (hi : p ≤ i) (hk : ∀ k : Nat, p ≤ k → k < i → cs[k]? ≠ some 10) : i + 1 ≤ cs.length ∧ cs.drop (i + 1) = dropLine (cs.drop p) := by
  have hlt : i < cs.length := (List.getElem?_eq_some_iff.mp hj).1
  refine ⟨hlt, ?_⟩
  rw [dropLine_at (cs.drop p) (i - p) (by rw [List.getElem?_drop, show p + (i - p) = i by omega]; exact hj) (fun k hki => by rw [List.getElem?_drop]; exact hk _ (by omega) (by omega)), List.drop_drop]
  congr 1
  omega
theorem dropLine_len : ∀ l : List Nat, (dropLine l).length ≤ l.length
  | [] => Nat.le_refl _
  | c :: r => by
    unfold dropLine
    split
    · simp
    · have := dropLine_len r; simp only [List.length_cons]; omega
end Mine
namespace Mine
local macro_rules | `(tactic| walk_at "my steps") => `(tactic| repeat' (first | (k_unfold; (try dsimp only)) | walk1 | (dsimp only; walk1) | fail "no step"))
local macro_rules | `(tactic| walk_at "my len") => `(tactic| first | with_reducible assumption | exact lenSg _ | exact lenApp (by walk_at "my len") (by walk_at "my len") | exact Nat.le_refl _)
local macro_rules | `(tactic| walk_at "binaryOp Add str str") => `(tactic| ((with_reducible show wpAny _ _ (binaryOp Operator.Add (Value.str _ _) (Value.str _ _)) _ _ _); k_dflt (refine' addS ?kla ?klb ?klc ?_; (case kla => walk_at "my len"); (case klb => walk_at "my len"); (case klc => exact rfl)); intro t' tk'))
local macro_rules | `(tactic| walk_at "inplaceOp Add str str") => `(tactic| ((with_reducible show wpAny _ _ (inplaceOp Operator.Add (Value.str _ _) (Value.str _ _)) _ _ _); k_dflt (refine' iaddS ?kla ?klb ?klc ?_; (case kla => walk_at "my len"); (case klb => walk_at "my len"); (case klc => exact rfl)); intro t' tk'))
local macro_rules | `(tactic| walk_at "binaryOp Add ref ref") => `(tactic| (k_here; (with_reducible show wpAny _ _ (binaryOp Operator.Add (Value.ref _) (Value.ref _)) _ _ _); k_dflt (refine' add_lists ?F ?N ?a ?b ?_ ?z; (case F => k_asm); (case N => k_asm); (case a => kmk_list); (case b => kmk_list); (case z => (simp only [sizeLine_eq, List.length_cons, List.length_nil]; omega))); intro h' F' N'; (try k_sweep)))
local macro_rules | `(tactic| walk_at "truthy str") => `(tactic| ((with_reducible show wpAny _ _ (truthy (Value.str (sg _) _)) _ _ _); refine truthySg ?_; intro tk'))
local macro_rules | `(tactic| walk_at "compareOp In str str") => `(tactic| ((with_reducible show wpAny _ _ (compareOp CmpOp.In (Value.str (sg _) _) (Value.str (PySem.Str.ofString "") _)) _ _ _); refine inEmpty ?_))
local macro_rules | `(tactic| walk_at "compareOp NotIn str str") => `(tactic| ((with_reducible show wpAny _ _ (compareOp CmpOp.NotIn (Value.str (sg _) _) (Value.str (PySem.Str.ofString "") _)) _ _ _); refine notInEmpty ?_))
local macro_rules | `(tactic| walk_at "truthy str") => `(tactic| ((with_reducible rename PySem.Str.length _ ≤ 200000 => hTk); (with_reducible show wpAny _ _ (truthy (Value.str _ _)) _ _ _); refine truthyT hTk rfl ?_; intro tk'))
local macro_rules | `(tactic| walk_at "ite") => `(tactic| (k_closed; k_dflt (first | refine ite_pos (by decide +kernel) ?_ | refine ite_neg (by decide +kernel) ?_)))
theorem rstS1 {w : World} {A : Around} {s : Shared} {Q : Bool → Shared → Prop} {E : Value → Shared → Prop} (h : wpAny (md w) A (truthy (.bool true)) Q E s) : wpAny (md w) A (truthy (.bool true)) Q E s := by
  first | (walk1; fail) | exact h
-- S1
theorem fillS1 : Fill PySem.Challenge.rw_oc0205_01 kx := by
  k_fill
  exact True.intro
section
variable {w : World} {mean : ExcName → Option Value} {mg mb : Str → Option Value} {dp un : Nat} {fr : Option (List Env)} {gd : Option (List Code)} {s : Shared} {Q E : Value → Shared → Prop}
theorem index_ct {n : Int} {t : Tok} {x : Str} {tx : Tok} (W : Wd w mean mg mb s.heap) (hroom : dp < recursionLimit) (hn : -1 ≤ n) (hn' : n ≤ 1000)
    (ret : ∀ t' h' tk, s.heap.StaysIn h' → Q (.int n t') { s with heap := h', toks := tk }) :
    wpAny (md w) (AR dp un fr gd) (call (.ref 60) [.int n t, .str x tx]) Q E s := by
  have X := W.X
  have T := W.T
  refine enterA (binds := [("n", .int n t), ("what", .str x tx)]) W (by k_is) (by k_is) hroom (BindsTo.of_eq rfl) (locs rfl) ?_ rfl rfl rfl (by decide)
  intro h₁ L hL F N
  w_on
  w_top on
  walk_at "my steps"
  all_goals (try dsimp only)
  all_goals exact ret _ _ _ (Fr.keep (by assumption))
end
local macro_rules | `(tactic| walk_at "call ref") => `(tactic| (
  (with_reducible show wpAny _ _ (call (Value.ref 60) _) _ _ _);
  (with_reducible rename Fr _ _ _ _ => kF); (with_reducible rename News _ _ _ _ => kN);
  refine' index_ct ?k1 ?k2 ?k3 ?k4 ?_;
  (case k1 => exact Wd.keeps (by assumption) (Fr.keep kF)); (case k2 => (show _ + 1 < _; omega)); (case k3 => first | decide | omega); (case k4 => first | decide | omega);
  intro t' h' tk' st'; replace kF := frStays kF st'; replace kN := newsStays kN st'; try dsimp only))
section
variable {w : World} {mean : ExcName → Option Value} {mg mb : Str → Option Value} {dp un : Nat} {fr : Option (List Env)} {gd : Option (List Code)} {s : Shared} {Q E : Value → Shared → Prop}
/-- a StringIO's own dict -/
noncomputable abbrev sioD (e1 e2 e3 : Int) (k1 k2 k3 : Tok) (nl : Value) (buf : Str) (tb : Tok) (pos : Int) (tp : Tok) : Obj :=
  dictOf [⟨e1, .str (Str.ofString "_StringIO__newline") k1, nl⟩, ⟨e2, .str (Str.ofString "_StringIO__buf") k2, .str buf tb⟩, ⟨e3, .str (Str.ofString "_StringIO__pos") k3, .int pos tp⟩] 3
variable {e1 e2 e3 : Int} {k1 k2 k3 tb tp : Tok} {nl : Value} {buf : Str} {pos : Int} {x dx : Addr}
theorem check_ct (W : Wd w mean mg mb (hideAll s.heap [x, dx])) (hroom : dp < recursionLimit) (hx : s.heap.get? x = some (instObj 594 dx)) (hd : s.heap.get? dx = some (sioD e1 e2 e3 k1 k2 k3 nl buf tb pos tp))
    (ret : ∀ h' tk, s.heap.StaysIn h' → Q .none { s with heap := h', toks := tk }) :
    wpAny (md w) (AR dp un fr gd) (call (.ref 378) [.ref x]) Q E s := by
  have X := W.X
  have T := W.T
  refine enterK (binds := [("self", .ref x)]) [(x, instObj 594 dx), (dx, sioD e1 e2 e3 k1 k2 k3 nl buf tb pos tp)] W (hN2 hx hd) (by k_is) (by k_is) hroom (BindsTo.of_eq rfl) (locs rfl) ?_ rfl rfl rfl (by decide)
  intro h₁ L hL F N
  dsimp only [ks, List.map] at F N
  w_on
  w_top on
  walk_at "my steps"
  all_goals (try dsimp only)
  all_goals exact ret _ _ (stayAll (by assumption) (by assumption) (hN2 hx hd))
end
local macro_rules | `(tactic| walk_at "call ref") => `(tactic| (
  (with_reducible show wpAny _ _ (call (Value.ref 378) _) _ _ _);
  (with_reducible rename Fr _ _ _ _ => kF); (with_reducible rename News _ _ _ _ => kN);
  refine' check_ct ?k1 ?k2 ?k3 ?k4 ?_;
  (case k3 => exact News.get kN (by k_mem)); (case k4 => exact News.get kN (by k_mem)); (case k1 => exact wd2 (by assumption) kF kN (by k_mem) (by k_mem)); (case k2 => (show _ + 1 < _; omega));
  intro h' tk' st'; replace kF := frStays kF st'; replace kN := newsStays kN st'; try dsimp only))
section
variable {w : World} {mean : ExcName → Option Value} {mg mb : Str → Option Value} {dp un : Nat} {fr : Option (List Env)} {gd : Option (List Code)} {s : Shared} {Q E : Value → Shared → Prop}
variable {e1 e2 e3 : Int} {k1 k2 k3 tb tp : Tok} {nl : Value} {buf : Str} {pos : Int} {x dx : Addr}
theorem read_ct {t1 : Tok} {cs : List Nat} {p : Nat} (W : Wd w mean mg mb (hideAll s.heap [x, dx])) (hroom : dp + 1 < recursionLimit) (hx : s.heap.get? x = some (instObj 594 dx)) (hd : s.heap.get? dx = some (sioD e1 e2 e3 k1 k2 k3 nl (ofL cs) tb (p : Int) tp)) (hne : x ≠ dx)
    (hp : p ≤ cs.length) (hc : cs.length ≤ 100000)
    (retE : ∀ t' h' tk, p = cs.length → s.heap.StaysIn h' → Q (.str (Str.ofString "") t') { s with heap := h', toks := tk })
    (retC : ∀ c t' tp' h' tk, cs[p]? = some c → (hideAll s.heap [x, dx]).StaysIn h' → h'.get? x = some (instObj 594 dx) → h'.get? dx = some (sioD e1 e2 e3 k1 k2 k3 nl (ofL cs) tb ((p + 1 : Nat) : Int) tp') → Q (.str (sg c) t') { s with heap := h', toks := tk }) :
    wpAny (md w) (AR dp un fr gd) (call (.ref 540) [.ref x, .int 1 t1]) Q E s := by
  have X := W.X
  have T := W.T
  have hl : (ofL cs).length = cs.length := ofL_length cs
  have hc' : (ofL cs).length ≤ 100000 := by rw [hl]; exact hc
  refine enterK (binds := [("self", .ref x), ("size", .int 1 t1)]) [(x, instObj 594 dx), (dx, sioD e1 e2 e3 k1 k2 k3 nl (ofL cs) tb (p : Int) tp)] W (hN2 hx hd) (by k_is) (by k_is) (by show dp < _; omega) (binds_K W.shown.X rfl (by k_is) rfl rfl rfl) (locs rfl) ?_ rfl rfl rfl (by decide)
  intro h₁ L hL F N
  dsimp only [ks, List.map] at F N
  w_on
  w_top on
  walk_at "my steps"
  all_goals (try dsimp only)
  · refine retE _ _ _ ?_ (stayAll (by assumption) (by assumption) (hN2 hx hd))
    simp only [decide_eq_true_eq] at *
    omega
  · have hlt : p < cs.length := by simp only [decide_eq_true_eq, decide_eq_false_iff_not] at *; omega
    have hi : cs[p]? = some cs[p] := by simp [hlt]
    have e : Txt.slice (ofL cs) (some (p : Int)) (some ((p : Int) + 1)) = sg cs[p] := by
      rw [show (p : Int) + 1 = ((p + 1 : Nat) : Int) by omega, slice_eq _ p (p + 1) (by omega) (by rw [hl]; omega), cps_ofL, show p + 1 - p = 1 by omega]
      rw [List.drop_eq_getElem_cons hlt]; rfl
    rw [e]
    exact retC _ _ _ _ _ hi (Fr.keep (by assumption)) (News.get (by assumption) (by k_mem)) (News.get (by assumption) (by k_mem))
  · have hlt : p + 1 = cs.length := by simp only [decide_eq_true_eq, decide_eq_false_iff_not] at *; omega
    have hlt' : p < cs.length := by omega
    have hi : cs[p]? = some cs[p] := by simp [hlt']
    have e : Txt.slice (ofL cs) (some (p : Int)) (some ((ofL cs).length : Int)) = sg cs[p] := by
      rw [slice_eq _ p _ (by rw [hl]; omega) (Nat.le_refl _), cps_ofL, hl, show cs.length - p = 1 by omega]
      rw [List.drop_eq_getElem_cons hlt']; rfl
    rw [e]
    have e2 : ((ofL cs).length : Int) = ((p + 1 : Nat) : Int) := by rw [hl, hlt]
    exact retC _ _ _ _ _ hi (Fr.keep (by assumption)) (News.get (by assumption) (by k_mem)) (by rw [← e2]; exact News.get (by assumption) (by k_mem))
end
theorem rstS2 {w : World} {A : Around} {s : Shared} {Q : Bool → Shared → Prop} {E : Value → Shared → Prop} (h : wpAny (md w) A (truthy (.bool true)) Q E s) : wpAny (md w) A (truthy (.bool true)) Q E s := by
  first | (walk1; fail) | exact h
-- S2
theorem fillS2 : Fill PySem.Challenge.rw_oc0205_01 kx := by
  k_fill
  exact True.intro
section
variable {w : World} {mean : ExcName → Option Value} {mg mb : Str → Option Value} {dp un : Nat} {fr : Option (List Env)} {gd : Option (List Code)} {s : Shared} {Q E : Value → Shared → Prop}
local macro_rules | `(tactic| walk_at "call builtin:str.find") => `(tactic| (refine' findNl ?_ ?_ <;> intros))
variable {e1 e2 e3 : Int} {k1 k2 k3 tb tp tn : Tok} {x dx : Addr} {cs : List Nat} {p : Nat}
theorem line_ct {t1 : Tok} (W : Wd w mean mg mb (hideAll s.heap [x, dx])) (hroom : dp < recursionLimit) (hx : s.heap.get? x = some (instObj 594 dx)) (hd : s.heap.get? dx = some (sioD e1 e2 e3 k1 k2 k3 (.str (Str.ofString "\n") tn) (ofL cs) tb (p : Int) tp)) (hne : x ≠ dx)
    (hp : p ≤ cs.length) (hc : cs.length ≤ 100000)
    (ret : ∀ r t' tp' (p' : Nat) h' tk, cs.drop p' = dropLine (cs.drop p) → p' ≤ cs.length → (hideAll s.heap [x, dx]).StaysIn h' → h'.get? x = some (instObj 594 dx) → h'.get? dx = some (sioD e1 e2 e3 k1 k2 k3 (.str (Str.ofString "\n") tn) (ofL cs) tb (p' : Int) tp') → Q (.str r t') { s with heap := h', toks := tk }) :
    wpAny (md w) (AR dp un fr gd) (call (.ref 392) [.ref x, .int (-1) t1]) Q E s := by
  have X := W.X
  have T := W.T
  have hl : (ofL cs).length = cs.length := ofL_length cs
  have hc' : (ofL cs).length ≤ 100000 := by rw [hl]; exact hc
  refine enterK (binds := [("self", .ref x), ("limit", .int (-1) t1)]) [(x, instObj 594 dx), (dx, sioD e1 e2 e3 k1 k2 k3 (.str (Str.ofString "\n") tn) (ofL cs) tb (p : Int) tp)] W (hN2 hx hd) (by k_is) (by k_is) hroom (BindsTo.of_eq rfl) (locs rfl) ?_ rfl rfl rfl (by decide)
  intro h₁ L hL F N
  dsimp only [ks, List.map] at F N
  w_on
  w_top on
  walk_at "my steps"
  all_goals (try dsimp only)
  · have hp' : p = cs.length := by simp only [decide_eq_true_eq] at *; omega
    refine ret _ _ _ p _ _ ?_ hp (Fr.keep (by assumption)) (News.get (by assumption) (by k_mem)) (News.get (by assumption) (by k_mem))
    rw [hp', List.drop_length]; rfl
  · refine ret _ _ _ cs.length _ _ ?_ (Nat.le_refl _) (Fr.keep (by assumption)) (News.get (by assumption) (by k_mem)) (by rw [← hl]; exact News.get (by assumption) (by k_mem))
    rw [List.drop_length]
    refine (dropLine_none _ fun i => ?_).symm
    rw [List.getElem?_drop]
    exact (by assumption : ∀ i : Nat, p ≤ i → cs[i]? ≠ some 10) _ (Nat.le_add_right _ _)
  · have z := lineEnd (cs := cs) (p := p) (by assumption) (by assumption) (by assumption)
    exact ret _ _ _ _ _ _ z.2 z.1 (Fr.keep (by assumption)) (News.get (by assumption) (by k_mem)) (by rw [Int.natCast_add]; exact News.get (by assumption) (by k_mem))
local macro_rules | `(tactic| walk_at "call ref") => `(tactic| (
  (with_reducible show wpAny _ _ (call (Value.ref 392) _) _ _ _);
  (with_reducible rename Fr _ _ _ _ => kF); (with_reducible rename News _ _ _ _ => kN);
  refine' line_ct ?k1 ?k2 ?k3 ?k4 ?k5 ?k6 ?k7 ?_;
  (case k3 => exact News.get kN (by k_mem)); (case k4 => exact News.get kN (by k_mem)); (case k1 => exact wd2 (by assumption) kF kN (by k_mem) (by k_mem)); (case k2 => (show _ + 1 < _; omega));
  (case k5 => assumption); (case k6 => assumption); (case k7 => assumption);
  intro r' t' tp' p' h' tk' hd' hp' st' hx' hy'; (have kF' := back2 kF kN st' (by k_mem) (by k_mem)); (have kN' := backN2 (rest := []) kN st' (by k_mem) (by k_mem) hx' hy' (fun _ h => nomatch h)); clear kF kN; try dsimp only))
theorem readline_ct (W : Wd w mean mg mb (hideAll s.heap [x, dx])) (hroom : dp + 1 < recursionLimit) (hx : s.heap.get? x = some (instObj 594 dx)) (hd : s.heap.get? dx = some (sioD e1 e2 e3 k1 k2 k3 (.str (Str.ofString "\n") tn) (ofL cs) tb (p : Int) tp)) (hne : x ≠ dx)
    (hp : p ≤ cs.length) (hc : cs.length ≤ 100000)
    (ret : ∀ r t' tp' (p' : Nat) h' tk, cs.drop p' = dropLine (cs.drop p) → p' ≤ cs.length → (hideAll s.heap [x, dx]).StaysIn h' → h'.get? x = some (instObj 594 dx) → h'.get? dx = some (sioD e1 e2 e3 k1 k2 k3 (.str (Str.ofString "\n") tn) (ofL cs) tb (p' : Int) tp') → Q (.str r t') { s with heap := h', toks := tk }) :
    wpAny (md w) (AR dp un fr gd) (call (.ref 548) [.ref x]) Q E s := by
  have X := W.X
  have T := W.T
  refine enterK (binds := [("self", .ref x), ("size", .int (-1) 884)]) [(x, instObj 594 dx), (dx, sioD e1 e2 e3 k1 k2 k3 (.str (Str.ofString "\n") tn) (ofL cs) tb (p : Int) tp)] W (hN2 hx hd) (by k_is) (by k_is) (by show dp < _; omega) (binds_K W.shown.X rfl (by k_is) rfl rfl rfl) (locs rfl) ?_ rfl rfl rfl (by decide)
  intro h₁ L hL F N
  dsimp only [ks, List.map] at F N
  w_on
  w_top on
  walk_at "my steps"
  all_goals (try dsimp only)
  all_goals exact ret _ _ _ _ _ _ (by assumption) (by assumption) (Fr.keep (by assumption)) (News.get (by assumption) (by exact List.Mem.head _)) (News.get (by assumption) (by exact List.Mem.tail _ (List.Mem.head _)))
end
theorem rstR2 {w : World} {A : Around} {s : Shared} {Q : Bool → Shared → Prop} {E : Value → Shared → Prop} (h : wpAny (md w) A (truthy (.bool true)) Q E s) : wpAny (md w) A (truthy (.bool true)) Q E s := by
  first | (walk1; fail) | exact h
-- R2
theorem fillR2 : Fill PySem.Challenge.rw_oc0205_01 kx := by
  k_fill
  exact True.intro
section
variable {w : World} {mean : ExcName → Option Value} {mg mb : Str → Option Value} {dp un : Nat} {fr : Option (List Env)} {gd : Option (List Code)} {s : Shared} {Q E : Value → Shared → Prop}
@[reducible] noncomputable def wlp : PSigma fun st : Stmt => (bd697[2]?).getD (.Pass default) = st := by
  refine ⟨?b, ?h⟩
  case h => (conv => lhs; whnf)
noncomputable def whBody (st : Stmt) : List Stmt := match st with
  | .While _ b _ _ => b
  | _ => []
@[reducible] noncomputable def wbp : PSigma fun b : List Stmt => whBody wlp.1 = b := by
  refine ⟨?b, ?h⟩
  case h => (conv => lhs; whnf)
@[reducible] noncomputable def wb : List Stmt := wbp.1
@[reducible] noncomputable def ws1p : PSigma fun st : Stmt => (wb[0]?).getD (.Pass default) = st := by
  refine ⟨?b, ?h⟩
  case h => (conv => lhs; whnf)
@[reducible] noncomputable def ws2p : PSigma fun st : Stmt => (wb[1]?).getD (.Pass default) = st := by
  refine ⟨?b, ?h⟩
  case h => (conv => lhs; whnf)
@[reducible] noncomputable def ws3p : PSigma fun st : Stmt => (wb[2]?).getD (.Pass default) = st := by
  refine ⟨?b, ?h⟩
  case h => (conv => lhs; whnf)
@[reducible] noncomputable def ws4p : PSigma fun st : Stmt => (wb[3]?).getD (.Pass default) = st := by
  refine ⟨?b, ?h⟩
  case h => (conv => lhs; whnf)
@[reducible] noncomputable def wpre : List Stmt := [ws1p.1, ws2p.1, ws3p.1]
@[reducible] noncomputable def ws4 : Stmt := ws4p.1
theorem wb_eq : wb = wpre ++ [ws4] := rfl
theorem execsAppW {M : Model} {A : Around} {env : Env} {E : Value → Shared → Prop} {QF : Flow → Shared → Prop} {Γ : PySem.Ctx} (hΓ : Γ.In A) : ∀ {a c : List Stmt} {s : Shared} {p : Pos},
    Sem.wp M Γ (execs a env) (fun f _ s' => match f with | .next => wpAny M A (execs c env) QF E s' | f => QF f s') (fun e _ s' => E e s') p s → Sem.wp M Γ (execs (a ++ c) env) (fun f _ s' => QF f s') (fun e _ s' => E e s') p s
  | [], c, s, p, h => h Γ p hΓ
  | x :: a, c, s, p, h => by
    rw [execs_cons, Sem.wp_bind'] at h
    rw [List.cons_append, execs_cons, Sem.wp_bind']
    refine Sem.wp_mono M Γ _ (fun f p' s' h' => ?_) (fun _ _ _ h' => h') _ _ h
    cases f with
    | next => exact execsAppW hΓ h'
    | brk => exact h'
    | cont => exact h'
    | ret v => exact h'
theorem execsApp {M : Model} {A : Around} {env : Env} {E : Value → Shared → Prop} {QF : Flow → Shared → Prop} {a c : List Stmt} {s : Shared} (h : wpAny M A (execs a env) (fun f s' => match f with | .next => wpAny M A (execs c env) QF E s' | f => QF f s') E s) : wpAny M A (execs (a ++ c) env) QF E s :=
  fun Γ p hΓ => execsAppW hΓ (h Γ p hΓ)
/-- what of a shlex's dict a run of read_token does not turn -/
structure LP where
  hs : Nat → Int
  kt : Nat → Tok
  b : Bool
  eof : Value
  wc : Str
  tcm : Tok
  tw : Tok
  tws : Tok
  twq : Tok
  tqe : Tok
  tqq : Tok
  tdb : Tok
  tpc : Tok
  pb : Addr
  fs : Addr
structure SP where
  e1 : Int
  e2 : Int
  e3 : Int
  k1 : Tok
  k2 : Tok
  k3 : Tok
  tn : Tok
  tb : Tok
noncomputable abbrev lexO (P : LP) (sio : Addr) (st : Value) (ln : Int) (tl : Tok) (tok : Str) (tt : Tok) : Obj :=
  dictOf [⟨P.hs 1, .str (Str.ofString "instream") (P.kt 1), .ref sio⟩, ⟨P.hs 2, .str (Str.ofString "infile") (P.kt 2), .none⟩, ⟨P.hs 3, .str (Str.ofString "posix") (P.kt 3), .bool P.b⟩, ⟨P.hs 4, .str (Str.ofString "eof") (P.kt 4), P.eof⟩,
    ⟨P.hs 5, .str (Str.ofString "commenters") (P.kt 5), .str (Str.ofString "#") P.tcm⟩, ⟨P.hs 6, .str (Str.ofString "wordchars") (P.kt 6), .str P.wc P.tw⟩, ⟨P.hs 7, .str (Str.ofString "whitespace") (P.kt 7), .str (Str.ofString " \t\r\n") P.tws⟩,
    ⟨P.hs 8, .str (Str.ofString "whitespace_split") (P.kt 8), .bool true⟩, ⟨P.hs 9, .str (Str.ofString "quotes") (P.kt 9), .str (Str.ofString "'\"") P.twq⟩, ⟨P.hs 10, .str (Str.ofString "escape") (P.kt 10), .str (Str.ofString "\\") P.tqe⟩,
    ⟨P.hs 11, .str (Str.ofString "escapedquotes") (P.kt 11), .str (Str.ofString "\"") P.tqq⟩, ⟨P.hs 12, .str (Str.ofString "state") (P.kt 12), st⟩, ⟨P.hs 13, .str (Str.ofString "pushback") (P.kt 13), .ref P.pb⟩, ⟨P.hs 14, .str (Str.ofString "lineno") (P.kt 14), .int ln tl⟩,
    ⟨P.hs 15, .str (Str.ofString "debug") (P.kt 15), .int 0 P.tdb⟩, ⟨P.hs 16, .str (Str.ofString "token") (P.kt 16), .str tok tt⟩, ⟨P.hs 17, .str (Str.ofString "filestack") (P.kt 17), .ref P.fs⟩, ⟨P.hs 18, .str (Str.ofString "source") (P.kt 18), .none⟩,
    ⟨P.hs 19, .str (Str.ofString "_punctuation_chars") (P.kt 19), .str (Str.ofString "") P.tpc⟩] 19
noncomputable abbrev sioO (S : SP) (cs : List Nat) (p : Nat) (tp : Tok) : Obj := sioD S.e1 S.e2 S.e3 S.k1 S.k2 S.k3 (.str (Str.ofString "\n") S.tn) (ofL cs) S.tb (p : Int) tp
noncomputable abbrev L4 (lx dl sio ds : Addr) (o2 o4 : Obj) : List (Addr × Obj) := [(lx, instObj 729 dl), (dl, o2), (sio, instObj 594 ds), (ds, o4)]
noncomputable abbrev rtE (L : Addr) : Env := envOf (Str.ofString "shlex.read_token") sc697 L 697 (.ref 696)
local macro_rules | `(tactic| walk_at "my rest") => `(tactic| first | exact List.forall_mem_nil _ | (refine' List.forall_mem_cons.mpr ⟨⟨?ra, ?rb, ?rc⟩, ?rd⟩; (case ra => k_mem); (case rb => k_ne); (case rc => k_ne); (case rd => walk_at "my rest")))
end
local macro_rules | `(tactic| walk_at "call ref") => `(tactic| (
  (with_reducible show wpAny _ _ (call (Value.ref 540) _) _ _ _);
  (with_reducible rename Fr _ _ _ _ => kF); (with_reducible rename News _ _ _ _ => kN);
  refine' read_ct ?k1 ?k2 ?k3 ?k4 ?k5 ?k6 ?k7 ?kE ?kC;
  (case k3 => exact News.get kN (by k_mem)); (case k4 => exact News.get kN (by k_mem)); (case k1 => exact wd2 (by assumption) kF kN (by k_mem) (by k_mem)); (case k2 => (show _ + 1 < _; omega));
  (case k5 => k_ne); (case k6 => assumption); (case k7 => assumption);
  (case' kE => (intro t' h' tk' he' st'; replace kF := frStays kF st'; replace kN := newsStays kN st'; try dsimp only));
  (case' kC => (intro c' t' tp' h' tk' hc' st' hx' hy'; (have kF' := back2 kF kN st' (by k_mem) (by k_mem)); (have kN' := back4 kN st' hx' hy' (by k_mem) (by k_mem) (by k_mem) (by k_mem) (by k_ne) (by k_ne) (by k_ne) (by k_ne)); clear kF kN; try dsimp only))))
section
variable {w : World} {mean : ExcName → Option Value} {mg mb : Str → Option Value} {dp un : Nat} {fr : Option (List Env)} {gd : Option (List Code)} {s : Shared} {Q E : Value → Shared → Prop}
local macro_rules | `(tactic| k_get) => `(tactic| with_reducible assumption)
theorem punct_code {lx dl : Addr} {es : List DictEntry} {tpc : Tok} {nn : Nat} (W : Wd w mean mg mb (hideAll s.heap [lx, dl])) (hroom : dp < recursionLimit) (hx : s.heap.get? lx = some (instObj 729 dl)) (hd : s.heap.get? dl = some (dictOf es nn)) (hg : getL (Str.ofString "_punctuation_chars") es = some (some (.str (Str.ofString "") tpc)))
    (ret : ∀ h' tk, s.heap.StaysIn h' → Q (.str (Str.ofString "") tpc) { s with heap := h', toks := tk }) :
    codeAny (md w) (AR dp un fr gd) (.call (.ref 660) ⟨[.ref lx], []⟩) (fun r s' => match r with | .ok (.ret v) => Q v s' | .ok _ => False | .error e => E e s') s := by
  have X := W.X
  have T := W.T
  refine enterKc (binds := [("self", .ref lx)]) [(lx, instObj 729 dl), (dl, dictOf es nn)] W (hN2 hx hd) (by k_is) (by k_is) hroom (BindsTo.of_eq rfl) (locs rfl) ?_ rfl rfl rfl (by decide)
  intro h₁ L hL F N
  dsimp only [ks, List.map] at F N
  w_on
  w_top on
  walk_at "my steps"
  all_goals (try dsimp only)
  all_goals exact ret _ _ (stayAll (by assumption) (by assumption) (hN2 hx hd))
theorem punct_get {lx dl : Addr} {es : List DictEntry} {tpc : Tok} {nn : Nat} {g : Heap} {L : Addr} {m : Str → Option Value} {news : List (Addr × Obj)} {ex : Bool} (W : Wd w mean mg mb g) (F : Fr g L s.heap m) (N : News g L s.heap news) (m1 : (lx, instObj 729 dl) ∈ news) (m2 : (dl, dictOf es nn) ∈ news) (hroom : dp < recursionLimit)
    (hg : getL (Str.ofString "_punctuation_chars") es = some (some (.str (Str.ofString "") tpc)))
    (ret : ∀ h' tk, s.heap.StaysIn h' → Q (.str (Str.ofString "") tpc) { s with heap := h', toks := tk }) :
    wpAny (md w) (AR dp un fr gd) (getAttr (.ref lx) (Str.ofString "punctuation_chars") ex) Q E s := by
  have X := W.X
  refine get_prop F X (InstAt.of_news N m1 m2) (by k_is) (by k_is) (by k_is) (by k_is) (by k_is) (by k_is) ?_
  exact punct_code (dp := dp) (un := un + 1) (fr := fr) (gd := gd) (Q := fun v s' => wpAny (md w) (AR dp un fr gd) (handedOut v) Q E s') (E := fun e s' => wpAny (md w) (AR dp un fr gd) (noteIf true (.ref lx) (.str (Str.ofString "punctuation_chars") s.toks) e) (fun _ s'' => E e s'') E s')
    (wd2 W F N m1 m2) hroom (N.get m1) (N.get m2) hg (fun h' tk st => handed_on rfl (ret h' tk st))
end
local macro_rules | `(tactic| walk_at "getAttr ref") => `(tactic| (
  (with_reducible show wpAny _ _ (getAttr (Value.ref _) (PySem.Str.ofString "punctuation_chars") _) _ _ _);
  (with_reducible rename Fr _ _ _ _ => kF); (with_reducible rename News _ _ _ _ => kN);
  refine' punct_get ?k1 kF kN ?k3 ?k4 ?k2 ?k5 ?_;
  (case k3 => k_mem); (case k4 => k_mem); (case k5 => k_get); (case k1 => assumption); (case k2 => (show _ < _; omega));
  intro h' tk' st'; replace kF := frStays kF st'; replace kN := newsStays kN st'; try dsimp only))
section
variable {w : World} {mean : ExcName → Option Value} {mg mb : Str → Option Value} {dp un : Nat} {fr : Option (List Env)} {gd : Option (List Code)} {s : Shared} {Q E : Value → Shared → Prop}
/-- the frame of read_token -/
noncomputable abbrev rtM (lx : Addr) (q : Bool) (es : Str) (te : Tok) (nc : Option Value) : Str → Option Value := fun y =>
  if y = Str.ofString "nextchar" then nc else if y = Str.ofString "escapedstate" then some (.str es te) else if y = Str.ofString "quoted" then some (.bool q) else if y = Str.ofString "self" then some (.ref lx) else none
theorem rtM_nc (lx : Addr) (q : Bool) (es : Str) (te : Tok) (nc : Option Value) (v : Value) : (fun y => if y = Str.ofString "nextchar" then some v else rtM lx q es te nc y) = rtM lx q es te (some v) := by
  funext y
  unfold rtM
  by_cases h : y = Str.ofString "nextchar"
  · simp only [h, if_true]
  · simp only [h, if_false]
theorem rtM_es (lx : Addr) (q : Bool) (es es' : Str) (te te' : Tok) (nc : Option Value) : (fun y => if y = Str.ofString "escapedstate" then some (.str es' te') else rtM lx q es te nc y) = rtM lx q es' te' nc := by
  funext y
  unfold rtM
  by_cases h : y = Str.ofString "escapedstate"
  · subst h
    rw [if_pos rfl, if_neg (by decide +kernel), if_pos rfl]
  · simp only [h, if_false]
theorem rtM_q (lx : Addr) (q q' : Bool) (es : Str) (te : Tok) (nc : Option Value) : (fun y => if y = Str.ofString "quoted" then some (.bool q') else rtM lx q es te nc y) = rtM lx q' es te nc := by
  funext y
  unfold rtM
  by_cases h : y = Str.ofString "quoted"
  · subst h
    rw [if_pos rfl, if_neg (by decide +kernel), if_neg (by decide +kernel), if_pos rfl]
  · simp only [h, if_false]
theorem frEq {g h : Heap} {L : Addr} {m m' : Str → Option Value} (F : Fr g L h m) (e : m = m') : Fr g L h m' := e ▸ F
theorem pre_ct {g : Heap} {L : Addr} {lx dl sio ds : Nat} {P : LP} {S : SP} {sv : Value} {ln : Int} {tl tt te tp : Tok} {tok : Str} {q : Bool} {es : Str} {nc : Option Value} {p : Nat} {cs : List Nat} {QF : Flow → Shared → Prop}
    (W : Wd w mean mg mb g) (hroom : dp + 3 < recursionLimit) (F : Fr g L s.heap (rtM lx q es te nc)) (hp : p ≤ cs.length) (hc : cs.length ≤ 100000)
    (N : News g L s.heap (L4 lx dl sio ds (lexO P sio sv ln tl tok tt) (sioO S cs p tp)))
    (n1 : lx ≠ dl) (n2 : lx ≠ sio) (n3 : lx ≠ ds) (n4 : dl ≠ sio) (n5 : dl ≠ ds) (n6 : sio ≠ ds)
    (retE : ∀ t' h' tk, p = cs.length → Fr g L h' (rtM lx q es te (some (.str (Str.ofString "") t'))) → News g L h' (L4 lx dl sio ds (lexO P sio sv ln tl tok tt) (sioO S cs p tp)) → QF .next { s with heap := h', toks := tk })
    (retC : ∀ c ln' tl' tp' t' h' tk, cs[p]? = some c → Fr g L h' (rtM lx q es te (some (.str (sg c) t'))) → News g L h' (L4 lx dl sio ds (lexO P sio sv ln' tl' tok tt) (sioO S cs (p + 1) tp')) → QF .next { s with heap := h', toks := tk }) :
    wpAny (md w) (AR dp un fr gd) (execs wpre (rtE L)) QF E s := by
  have X := W.X
  have T := W.T
  w_on
  w_top on
  walk_at "my steps"
  all_goals (try dsimp only)
  · exact retC _ _ _ _ _ _ _ (by assumption) (frEq (by assumption) (rtM_nc ..)) (by assumption)
  · exact retC _ _ _ _ _ _ _ (by assumption) (frEq (by assumption) (rtM_nc ..)) (by assumption)
  · exact retE _ _ _ (by assumption) (frEq (by assumption) (rtM_nc ..)) (by assumption)
end
theorem rstR3 {w : World} {A : Around} {s : Shared} {Q : Bool → Shared → Prop} {E : Value → Shared → Prop} (h : wpAny (md w) A (truthy (.bool true)) Q E s) : wpAny (md w) A (truthy (.bool true)) Q E s := by
  first | (walk1; fail) | exact h
-- R3
theorem fillR3 : Fill PySem.Challenge.rw_oc0205_01 kx := by
  k_fill
  exact True.intro
section
variable {w : World} {mean : ExcName → Option Value} {mg mb : Str → Option Value} {dp un : Nat} {fr : Option (List Env)} {gd : Option (List Code)} {s : Shared} {Q E : Value → Shared → Prop}
/-- a turn of read_token's loop: does it leave, the new state, token, quoted, escapedstate; is the rest of the line passed over -/
structure RR where
  brk : Bool
  st : Option Str
  tok : Str
  q : Bool
  es : Str
  line : Bool
inductive SVv : Value → Option Str → Prop
  | none : SVv .none none
  | some {x : Str} {t : Tok} : SVv (.str x t) (some x)
inductive FlowOk : Bool → Flow → Prop
  | brk : FlowOk true .brk
  | next : FlowOk false .next
  | cont : FlowOk false .cont
noncomputable def rOut (b : Bool) (tok : Str) (q : Bool) (r : Bool → RR) : RR := if tok != Str.ofString "" then r true else (if b then (if q then r true else r false) else r false)
noncomputable def rSp2 (b : Bool) (wc : Str) (q : Bool) (es : Str) (c : Nat) : RR :=
  if notIn wc c then (if notIn (Str.ofString "'\"") c then ⟨false, some (Str.ofString "a"), sg c, q, es, false⟩ else (if b then ⟨false, some (sg c), Str.ofString "", q, es, false⟩ else ⟨false, some (sg c), sg c, q, es, false⟩))
  else ⟨false, some (Str.ofString "a"), sg c, q, es, false⟩
noncomputable def rSp (b : Bool) (wc : Str) (q : Bool) (es : Str) (c : Nat) : RR :=
  if notIn (Str.ofString " \t\r\n") c then
    (if notIn (Str.ofString "#") c then
      (if b then (if notIn (Str.ofString "\\") c then rSp2 b wc q es c else ⟨false, some (sg c), Str.ofString "", q, Str.ofString "a", false⟩) else rSp2 b wc q es c)
     else ⟨false, some (Str.ofString " "), Str.ofString "", q, es, true⟩)
  else (if b then (if q then ⟨true, some (Str.ofString " "), Str.ofString "", q, es, false⟩ else ⟨false, some (Str.ofString " "), Str.ofString "", q, es, false⟩) else ⟨false, some (Str.ofString " "), Str.ofString "", q, es, false⟩)
local macro_rules | `(tactic| walk_at "call ref") => `(tactic| (
  (with_reducible show wpAny _ _ (call (Value.ref 548) _) _ _ _);
  (with_reducible rename Fr _ _ _ _ => kF); (with_reducible rename News _ _ _ _ => kN);
  refine' readline_ct ?k1 ?k2 ?k3 ?k4 ?k5 ?k6 ?k7 ?_;
  (case k3 => exact News.get kN (by k_mem)); (case k4 => exact News.get kN (by k_mem)); (case k1 => exact wd2 (by assumption) kF kN (by k_mem) (by k_mem)); (case k2 => (show _ + 1 < _; omega));
  (case k5 => k_ne); (case k6 => assumption); (case k7 => assumption);
  intro r' t' tp' p' h' tk' hd' hp' st' hx' hy'; (have kF' := back2 kF kN st' (by k_mem) (by k_mem)); (have kN' := back4 kN st' hx' hy' (by k_mem) (by k_mem) (by k_mem) (by k_mem) (by k_ne) (by k_ne) (by k_ne) (by k_ne)); clear kF kN; try dsimp only))
theorem rtM_qes (lx : Addr) (q q' : Bool) (es es' : Str) (te te' : Tok) (nc : Option Value) : (fun y => if y = Str.ofString "escapedstate" then some (.str es' te') else (fun y => if y = Str.ofString "quoted" then some (.bool q') else rtM lx q es te nc y) y) = rtM lx q' es' te' nc := by
  rw [rtM_q]; exact rtM_es ..
theorem newsTail {g h : Heap} {L : Addr} {x : Addr × Obj} {l : List (Addr × Obj)} (N : News g L h (x :: l)) : News g L h l := fun p hp => N p (List.Mem.tail _ hp)
noncomputable def rA (b : Bool) (wc : Str) (tok : Str) (q : Bool) (es : Str) (c : Nat) : RR :=
  if notIn (Str.ofString " \t\r\n") c then
    (if notIn (Str.ofString "#") c then
      (if b then
        (if notIn (Str.ofString "'\"") c then
          (if notIn (Str.ofString "\\") c then ⟨false, some (Str.ofString "a"), tok ++ sg c, q, es, false⟩ else ⟨false, some (sg c), tok, q, Str.ofString "a", false⟩)
         else ⟨false, some (sg c), tok, q, es, false⟩)
       else ⟨false, some (Str.ofString "a"), tok ++ sg c, q, es, false⟩)
     else (if b then (if tok != Str.ofString "" then ⟨true, some (Str.ofString " "), tok, q, es, true⟩ else (if q then ⟨true, some (Str.ofString " "), tok, q, es, true⟩ else ⟨false, some (Str.ofString " "), tok, q, es, true⟩))
       else ⟨false, some (Str.ofString "a"), tok, q, es, true⟩))
  else (if tok != Str.ofString "" then ⟨true, some (Str.ofString " "), tok, q, es, false⟩ else (if b then (if q then ⟨true, some (Str.ofString " "), tok, q, es, false⟩ else ⟨false, some (Str.ofString " "), tok, q, es, false⟩) else ⟨false, some (Str.ofString " "), tok, q, es, false⟩))
noncomputable def rQ (b : Bool) (d : Nat) (tok : Str) (es : Str) (c : Nat) : RR :=
  if sg c == sg d then (if b then ⟨false, some (Str.ofString "a"), tok, true, es, false⟩ else ⟨true, some (Str.ofString " "), tok ++ sg c, true, es, false⟩)
  else (if b then (if notIn (Str.ofString "\\") c then ⟨false, some (sg d), tok ++ sg c, true, es, false⟩ else (if d == 34 then ⟨false, some (sg c), tok, true, sg d, false⟩ else ⟨false, some (sg d), tok ++ sg c, true, es, false⟩)) else ⟨false, some (sg d), tok ++ sg c, true, es, false⟩)
noncomputable def rEa (tok : Str) (q : Bool) (c : Nat) : RR := ⟨false, some (Str.ofString "a"), tok ++ sg c, q, Str.ofString "a", false⟩
noncomputable def rEq (tok : Str) (q : Bool) (c : Nat) : RR :=
  if sg c != sg 92 then (if sg c != sg 34 then ⟨false, some (sg 34), tok ++ sg 92 ++ sg c, q, sg 34, false⟩ else ⟨false, some (sg 34), tok ++ sg c, q, sg 34, false⟩) else ⟨false, some (sg 34), tok ++ sg c, q, sg 34, false⟩
section
variable {g : Heap} {L : Addr} {lx dl sio ds : Nat} {P : LP} {S : SP} {ln : Int} {tl tt te tp ts tc : Tok} {tok : Str} {q : Bool} {es : Str} {p : Nat} {cs : List Nat} {c : Nat} {QF : Flow → Shared → Prop}
theorem a_C (W : Wd w mean mg mb g) (hroom : dp + 3 < recursionLimit) (F : Fr g L s.heap (rtM lx q es te (some (.str (sg c) tc)))) (hp : p ≤ cs.length) (hc : cs.length ≤ 100000) (ht : tok.length ≤ 200000)
    (N : News g L s.heap (L4 lx dl sio ds (lexO P sio (.str (Str.ofString "a") ts) ln tl tok tt) (sioO S cs p tp)))
    (n1 : lx ≠ dl) (n2 : lx ≠ sio) (n3 : lx ≠ ds) (n4 : dl ≠ sio) (n5 : dl ≠ ds) (n6 : sio ≠ ds)
    (ret : ∀ f brk st' tok' q' es' line sv' tt' te' ln' tl' tp' (p' : Nat) h' tk, News g L h' (L4 lx dl sio ds (lexO P sio sv' ln' tl' tok' tt') (sioO S cs p' tp')) → Fr g L h' (rtM lx q' es' te' (some (.str (sg c) tc))) →
      cs.drop p' = (if line then dropLine (cs.drop p) else cs.drop p) → SVv sv' st' → FlowOk brk f → rA P.b P.wc tok q es c = ⟨brk, st', tok', q', es', line⟩ → p' ≤ cs.length → QF f { s with heap := h', toks := tk }) :
    wpAny (md w) (AR dp un fr gd) (execs [ws4] (rtE L)) QF E s := by
  have X := W.X
  have T := W.T
  w_on
  w_top on
  walk_at "my steps"
  all_goals (try dsimp only)
  all_goals first
    | exact ret _ _ _ _ _ _ false _ _ _ _ _ _ p _ _ (by first | assumption | exact newsTail (by assumption)) (by first | assumption | exact frEq (by assumption) (rtM_es ..) | exact frEq (by assumption) (rtM_q ..) | exact frEq (by assumption) (rtM_qes ..)) rfl (by first | exact SVv.none | exact SVv.some) (by first | exact FlowOk.next | exact FlowOk.brk | exact FlowOk.cont) (by first | exact rfl | (simp (disch := with_reducible assumption) only [rA, iteT, iteF]; done) | (simp (disch := with_reducible assumption) only [rA, iteT, iteF]; rfl)) hp
    | exact ret _ _ _ _ _ _ true _ _ _ _ _ _ _ _ _ (by first | assumption | exact newsTail (by assumption)) (by first | assumption | exact frEq (by assumption) (rtM_es ..)) (by assumption) (by first | exact SVv.none | exact SVv.some) (by first | exact FlowOk.next | exact FlowOk.brk | exact FlowOk.cont) (by simp (disch := with_reducible assumption) only [rA, iteT, iteF]) (by assumption)
    | fail "a_C: an end"
theorem sp_C (W : Wd w mean mg mb g) (hroom : dp + 3 < recursionLimit) (F : Fr g L s.heap (rtM lx q es te (some (.str (sg c) tc)))) (hp : p ≤ cs.length) (hc : cs.length ≤ 100000) (ht : tok.length ≤ 200000)
    (N : News g L s.heap (L4 lx dl sio ds (lexO P sio (.str (Str.ofString " ") ts) ln tl (Str.ofString "") tt) (sioO S cs p tp)))
    (n1 : lx ≠ dl) (n2 : lx ≠ sio) (n3 : lx ≠ ds) (n4 : dl ≠ sio) (n5 : dl ≠ ds) (n6 : sio ≠ ds)
    (ret : ∀ f brk st' tok' q' es' line sv' tt' te' ln' tl' tp' (p' : Nat) h' tk, News g L h' (L4 lx dl sio ds (lexO P sio sv' ln' tl' tok' tt') (sioO S cs p' tp')) → Fr g L h' (rtM lx q' es' te' (some (.str (sg c) tc))) →
      cs.drop p' = (if line then dropLine (cs.drop p) else cs.drop p) → SVv sv' st' → FlowOk brk f → rSp P.b P.wc q es c = ⟨brk, st', tok', q', es', line⟩ → p' ≤ cs.length → QF f { s with heap := h', toks := tk }) :
    wpAny (md w) (AR dp un fr gd) (execs [ws4] (rtE L)) QF E s := by
  have X := W.X
  have T := W.T
  w_on
  w_top on
  walk_at "my steps"
  all_goals (try dsimp only)
  all_goals first
    | exact ret _ _ _ _ _ _ false _ _ _ _ _ _ p _ _ (by first | assumption | exact newsTail (by assumption)) (by first | assumption | exact frEq (by assumption) (rtM_es ..) | exact frEq (by assumption) (rtM_q ..) | exact frEq (by assumption) (rtM_qes ..)) rfl (by first | exact SVv.none | exact SVv.some) (by first | exact FlowOk.next | exact FlowOk.brk | exact FlowOk.cont) (by first | exact rfl | (simp (disch := with_reducible assumption) only [rSp, rSp2, iteT, iteF]; done) | (simp (disch := with_reducible assumption) only [rSp, rSp2, iteT, iteF]; rfl)) hp
    | exact ret _ _ _ _ _ _ true _ _ _ _ _ _ _ _ _ (by first | assumption | exact newsTail (by assumption)) (by first | assumption | exact frEq (by assumption) (rtM_es ..)) (by assumption) (by first | exact SVv.none | exact SVv.some) (by first | exact FlowOk.next | exact FlowOk.brk | exact FlowOk.cont) (by simp (disch := with_reducible assumption) only [rSp, rSp2, iteT, iteF]) (by assumption)
    | fail "sp_C: an end"
theorem sp_E (W : Wd w mean mg mb g) (hroom : dp + 3 < recursionLimit) (F : Fr g L s.heap (rtM lx q es te (some (.str (Str.ofString "") tc)))) (hp : p ≤ cs.length) (hc : cs.length ≤ 100000) (ht : tok.length ≤ 200000)
    (N : News g L s.heap (L4 lx dl sio ds (lexO P sio (.str (Str.ofString " ") ts) ln tl tok tt) (sioO S cs p tp)))
    (n1 : lx ≠ dl) (n2 : lx ≠ sio) (n3 : lx ≠ ds) (n4 : dl ≠ sio) (n5 : dl ≠ ds) (n6 : sio ≠ ds)
    (ret : ∀ f brk st' tok' q' es' line sv' tt' te' ln' tl' tp' (p' : Nat) h' tk, News g L h' (L4 lx dl sio ds (lexO P sio sv' ln' tl' tok' tt') (sioO S cs p' tp')) → Fr g L h' (rtM lx q' es' te' (some (.str (Str.ofString "") tc))) →
      cs.drop p' = (if line then dropLine (cs.drop p) else cs.drop p) → SVv sv' st' → FlowOk brk f → (⟨true, none, tok, q, es, false⟩ : RR) = ⟨brk, st', tok', q', es', line⟩ → p' ≤ cs.length → QF f { s with heap := h', toks := tk }) :
    wpAny (md w) (AR dp un fr gd) (execs [ws4] (rtE L)) QF E s := by
  have X := W.X
  have T := W.T
  w_on
  w_top on
  walk_at "my steps"
  all_goals (try dsimp only)
  all_goals first
    | exact ret _ _ _ _ _ _ false _ _ _ _ _ _ p _ _ (by first | assumption | exact newsTail (by assumption)) (by first | assumption | exact frEq (by assumption) (rtM_es ..) | exact frEq (by assumption) (rtM_q ..) | exact frEq (by assumption) (rtM_qes ..)) rfl (by first | exact SVv.none | exact SVv.some) (by first | exact FlowOk.next | exact FlowOk.brk | exact FlowOk.cont) (by first | exact rfl | (simp (disch := with_reducible assumption) only [rA, iteT, iteF]; done) | (simp (disch := with_reducible assumption) only [rA, iteT, iteF]; rfl)) hp
    | exact ret _ _ _ _ _ _ true _ _ _ _ _ _ _ _ _ (by first | assumption | exact newsTail (by assumption)) (by first | assumption | exact frEq (by assumption) (rtM_es ..)) (by assumption) (by first | exact SVv.none | exact SVv.some) (by first | exact FlowOk.next | exact FlowOk.brk | exact FlowOk.cont) (by simp (disch := with_reducible assumption) only [rA, iteT, iteF]) (by assumption)
    | fail "sp_E: an end"
theorem a_E (W : Wd w mean mg mb g) (hroom : dp + 3 < recursionLimit) (F : Fr g L s.heap (rtM lx q es te (some (.str (Str.ofString "") tc)))) (hp : p ≤ cs.length) (hc : cs.length ≤ 100000) (ht : tok.length ≤ 200000)
    (N : News g L s.heap (L4 lx dl sio ds (lexO P sio (.str (Str.ofString "a") ts) ln tl tok tt) (sioO S cs p tp)))
    (n1 : lx ≠ dl) (n2 : lx ≠ sio) (n3 : lx ≠ ds) (n4 : dl ≠ sio) (n5 : dl ≠ ds) (n6 : sio ≠ ds)
    (ret : ∀ f brk st' tok' q' es' line sv' tt' te' ln' tl' tp' (p' : Nat) h' tk, News g L h' (L4 lx dl sio ds (lexO P sio sv' ln' tl' tok' tt') (sioO S cs p' tp')) → Fr g L h' (rtM lx q' es' te' (some (.str (Str.ofString "") tc))) →
      cs.drop p' = (if line then dropLine (cs.drop p) else cs.drop p) → SVv sv' st' → FlowOk brk f → (⟨true, none, tok, q, es, false⟩ : RR) = ⟨brk, st', tok', q', es', line⟩ → p' ≤ cs.length → QF f { s with heap := h', toks := tk }) :
    wpAny (md w) (AR dp un fr gd) (execs [ws4] (rtE L)) QF E s := by
  have X := W.X
  have T := W.T
  w_on
  w_top on
  walk_at "my steps"
  all_goals (try dsimp only)
  all_goals first
    | exact ret _ _ _ _ _ _ false _ _ _ _ _ _ p _ _ (by first | assumption | exact newsTail (by assumption)) (by first | assumption | exact frEq (by assumption) (rtM_es ..) | exact frEq (by assumption) (rtM_q ..) | exact frEq (by assumption) (rtM_qes ..)) rfl (by first | exact SVv.none | exact SVv.some) (by first | exact FlowOk.next | exact FlowOk.brk | exact FlowOk.cont) (by first | exact rfl | (simp (disch := with_reducible assumption) only [rA, iteT, iteF]; done) | (simp (disch := with_reducible assumption) only [rA, iteT, iteF]; rfl)) hp
    | exact ret _ _ _ _ _ _ true _ _ _ _ _ _ _ _ _ (by first | assumption | exact newsTail (by assumption)) (by first | assumption | exact frEq (by assumption) (rtM_es ..)) (by assumption) (by first | exact SVv.none | exact SVv.some) (by first | exact FlowOk.next | exact FlowOk.brk | exact FlowOk.cont) (by simp (disch := with_reducible assumption) only [rA, iteT, iteF]) (by assumption)
    | fail "a_E: an end"
theorem none_E (W : Wd w mean mg mb g) (hroom : dp + 3 < recursionLimit) (F : Fr g L s.heap (rtM lx q es te (some (.str (Str.ofString "") tc)))) (hp : p ≤ cs.length) (hc : cs.length ≤ 100000) (ht : tok.length ≤ 200000)
    (N : News g L s.heap (L4 lx dl sio ds (lexO P sio .none ln tl tok tt) (sioO S cs p tp)))
    (n1 : lx ≠ dl) (n2 : lx ≠ sio) (n3 : lx ≠ ds) (n4 : dl ≠ sio) (n5 : dl ≠ ds) (n6 : sio ≠ ds)
    (ret : ∀ f brk st' tok' q' es' line sv' tt' te' ln' tl' tp' (p' : Nat) h' tk, News g L h' (L4 lx dl sio ds (lexO P sio sv' ln' tl' tok' tt') (sioO S cs p' tp')) → Fr g L h' (rtM lx q' es' te' (some (.str (Str.ofString "") tc))) →
      cs.drop p' = (if line then dropLine (cs.drop p) else cs.drop p) → SVv sv' st' → FlowOk brk f → (⟨true, none, Str.ofString "", q, es, false⟩ : RR) = ⟨brk, st', tok', q', es', line⟩ → p' ≤ cs.length → QF f { s with heap := h', toks := tk }) :
    wpAny (md w) (AR dp un fr gd) (execs [ws4] (rtE L)) QF E s := by
  have X := W.X
  have T := W.T
  w_on
  w_top on
  walk_at "my steps"
  all_goals (try dsimp only)
  all_goals first
    | exact ret _ _ _ _ _ _ false _ _ _ _ _ _ p _ _ (by first | assumption | exact newsTail (by assumption)) (by first | assumption | exact frEq (by assumption) (rtM_es ..) | exact frEq (by assumption) (rtM_q ..) | exact frEq (by assumption) (rtM_qes ..)) rfl (by first | exact SVv.none | exact SVv.some) (by first | exact FlowOk.next | exact FlowOk.brk | exact FlowOk.cont) (by first | exact rfl | (simp (disch := with_reducible assumption) only [rA, iteT, iteF]; done) | (simp (disch := with_reducible assumption) only [rA, iteT, iteF]; rfl)) hp
    | exact ret _ _ _ _ _ _ true _ _ _ _ _ _ _ _ _ (by first | assumption | exact newsTail (by assumption)) (by first | assumption | exact frEq (by assumption) (rtM_es ..)) (by assumption) (by first | exact SVv.none | exact SVv.some) (by first | exact FlowOk.next | exact FlowOk.brk | exact FlowOk.cont) (by simp (disch := with_reducible assumption) only [rA, iteT, iteF]) (by assumption)
    | fail "none_E: an end"
theorem q39_C (W : Wd w mean mg mb g) (hroom : dp + 3 < recursionLimit) (F : Fr g L s.heap (rtM lx q es te (some (.str (sg c) tc)))) (hp : p ≤ cs.length) (hc : cs.length ≤ 100000) (ht : tok.length ≤ 200000)
    (N : News g L s.heap (L4 lx dl sio ds (lexO P sio (.str (sg 39) ts) ln tl tok tt) (sioO S cs p tp)))
    (n1 : lx ≠ dl) (n2 : lx ≠ sio) (n3 : lx ≠ ds) (n4 : dl ≠ sio) (n5 : dl ≠ ds) (n6 : sio ≠ ds)
    (ret : ∀ f brk st' tok' q' es' line sv' tt' te' ln' tl' tp' (p' : Nat) h' tk, News g L h' (L4 lx dl sio ds (lexO P sio sv' ln' tl' tok' tt') (sioO S cs p' tp')) → Fr g L h' (rtM lx q' es' te' (some (.str (sg c) tc))) →
      cs.drop p' = (if line then dropLine (cs.drop p) else cs.drop p) → SVv sv' st' → FlowOk brk f → rQ P.b 39 tok es c = ⟨brk, st', tok', q', es', line⟩ → p' ≤ cs.length → QF f { s with heap := h', toks := tk }) :
    wpAny (md w) (AR dp un fr gd) (execs [ws4] (rtE L)) QF E s := by
  have X := W.X
  have T := W.T
  w_on
  w_top on
  walk_at "my steps"
  all_goals (try dsimp only)
  all_goals first
    | exact ret _ _ _ _ _ _ false _ _ _ _ _ _ p _ _ (by first | assumption | exact newsTail (by assumption)) (by first | assumption | exact frEq (by assumption) (rtM_es ..) | exact frEq (by assumption) (rtM_q ..) | exact frEq (by assumption) (rtM_qes ..)) rfl (by first | exact SVv.none | exact SVv.some) (by first | exact FlowOk.next | exact FlowOk.brk | exact FlowOk.cont) (by first | exact rfl | (simp (disch := with_reducible assumption) only [rQ, iteT, iteF]; done) | (simp (disch := with_reducible assumption) only [rQ, iteT, iteF]; rfl)) hp
    | exact ret _ _ _ _ _ _ true _ _ _ _ _ _ _ _ _ (by first | assumption | exact newsTail (by assumption)) (by first | assumption | exact frEq (by assumption) (rtM_es ..)) (by assumption) (by first | exact SVv.none | exact SVv.some) (by first | exact FlowOk.next | exact FlowOk.brk | exact FlowOk.cont) (by simp (disch := with_reducible assumption) only [rQ, iteT, iteF]) (by assumption)
    | fail "q39_C: an end"
theorem q34_C (W : Wd w mean mg mb g) (hroom : dp + 3 < recursionLimit) (F : Fr g L s.heap (rtM lx q es te (some (.str (sg c) tc)))) (hp : p ≤ cs.length) (hc : cs.length ≤ 100000) (ht : tok.length ≤ 200000)
    (N : News g L s.heap (L4 lx dl sio ds (lexO P sio (.str (sg 34) ts) ln tl tok tt) (sioO S cs p tp)))
    (n1 : lx ≠ dl) (n2 : lx ≠ sio) (n3 : lx ≠ ds) (n4 : dl ≠ sio) (n5 : dl ≠ ds) (n6 : sio ≠ ds)
    (ret : ∀ f brk st' tok' q' es' line sv' tt' te' ln' tl' tp' (p' : Nat) h' tk, News g L h' (L4 lx dl sio ds (lexO P sio sv' ln' tl' tok' tt') (sioO S cs p' tp')) → Fr g L h' (rtM lx q' es' te' (some (.str (sg c) tc))) →
      cs.drop p' = (if line then dropLine (cs.drop p) else cs.drop p) → SVv sv' st' → FlowOk brk f → rQ P.b 34 tok es c = ⟨brk, st', tok', q', es', line⟩ → p' ≤ cs.length → QF f { s with heap := h', toks := tk }) :
    wpAny (md w) (AR dp un fr gd) (execs [ws4] (rtE L)) QF E s := by
  have X := W.X
  have T := W.T
  w_on
  w_top on
  walk_at "my steps"
  all_goals (try dsimp only)
  all_goals first
    | exact ret _ _ _ _ _ _ false _ _ _ _ _ _ p _ _ (by first | assumption | exact newsTail (by assumption)) (by first | assumption | exact frEq (by assumption) (rtM_es ..) | exact frEq (by assumption) (rtM_q ..) | exact frEq (by assumption) (rtM_qes ..)) rfl (by first | exact SVv.none | exact SVv.some) (by first | exact FlowOk.next | exact FlowOk.brk | exact FlowOk.cont) (by first | exact rfl | (simp (disch := with_reducible assumption) only [rQ, iteT, iteF]; done) | (simp (disch := with_reducible assumption) only [rQ, iteT, iteF]; rfl)) hp
    | exact ret _ _ _ _ _ _ true _ _ _ _ _ _ _ _ _ (by first | assumption | exact newsTail (by assumption)) (by first | assumption | exact frEq (by assumption) (rtM_es ..)) (by assumption) (by first | exact SVv.none | exact SVv.some) (by first | exact FlowOk.next | exact FlowOk.brk | exact FlowOk.cont) (by simp (disch := with_reducible assumption) only [rQ, iteT, iteF]) (by assumption)
    | fail "q34_C: an end"
theorem ea_C (W : Wd w mean mg mb g) (hroom : dp + 3 < recursionLimit) (F : Fr g L s.heap (rtM lx q (Str.ofString "a") te (some (.str (sg c) tc)))) (hp : p ≤ cs.length) (hc : cs.length ≤ 100000) (ht : tok.length ≤ 200000)
    (N : News g L s.heap (L4 lx dl sio ds (lexO P sio (.str (sg 92) ts) ln tl tok tt) (sioO S cs p tp)))
    (n1 : lx ≠ dl) (n2 : lx ≠ sio) (n3 : lx ≠ ds) (n4 : dl ≠ sio) (n5 : dl ≠ ds) (n6 : sio ≠ ds)
    (ret : ∀ f brk st' tok' q' es' line sv' tt' te' ln' tl' tp' (p' : Nat) h' tk, News g L h' (L4 lx dl sio ds (lexO P sio sv' ln' tl' tok' tt') (sioO S cs p' tp')) → Fr g L h' (rtM lx q' es' te' (some (.str (sg c) tc))) →
      cs.drop p' = (if line then dropLine (cs.drop p) else cs.drop p) → SVv sv' st' → FlowOk brk f → rEa tok q c = ⟨brk, st', tok', q', es', line⟩ → p' ≤ cs.length → QF f { s with heap := h', toks := tk }) :
    wpAny (md w) (AR dp un fr gd) (execs [ws4] (rtE L)) QF E s := by
  have X := W.X
  have T := W.T
  w_on
  w_top on
  walk_at "my steps"
  all_goals (try dsimp only)
  all_goals first
    | exact ret _ _ _ _ _ _ false _ _ _ _ _ _ p _ _ (by first | assumption | exact newsTail (by assumption)) (by first | assumption | exact frEq (by assumption) (rtM_es ..) | exact frEq (by assumption) (rtM_q ..) | exact frEq (by assumption) (rtM_qes ..)) rfl (by first | exact SVv.none | exact SVv.some) (by first | exact FlowOk.next | exact FlowOk.brk | exact FlowOk.cont) (by first | exact rfl | (simp (disch := with_reducible assumption) only [rEa, iteT, iteF]; done) | (simp (disch := with_reducible assumption) only [rEa, iteT, iteF]; rfl)) hp
    | exact ret _ _ _ _ _ _ true _ _ _ _ _ _ _ _ _ (by first | assumption | exact newsTail (by assumption)) (by first | assumption | exact frEq (by assumption) (rtM_es ..)) (by assumption) (by first | exact SVv.none | exact SVv.some) (by first | exact FlowOk.next | exact FlowOk.brk | exact FlowOk.cont) (by simp (disch := with_reducible assumption) only [rEa, iteT, iteF]) (by assumption)
    | fail "ea_C: an end"
theorem eq_C (W : Wd w mean mg mb g) (hroom : dp + 3 < recursionLimit) (F : Fr g L s.heap (rtM lx q (sg 34) te (some (.str (sg c) tc)))) (hp : p ≤ cs.length) (hc : cs.length ≤ 100000) (ht : tok.length ≤ 200000)
    (N : News g L s.heap (L4 lx dl sio ds (lexO P sio (.str (sg 92) ts) ln tl tok tt) (sioO S cs p tp)))
    (n1 : lx ≠ dl) (n2 : lx ≠ sio) (n3 : lx ≠ ds) (n4 : dl ≠ sio) (n5 : dl ≠ ds) (n6 : sio ≠ ds)
    (ret : ∀ f brk st' tok' q' es' line sv' tt' te' ln' tl' tp' (p' : Nat) h' tk, News g L h' (L4 lx dl sio ds (lexO P sio sv' ln' tl' tok' tt') (sioO S cs p' tp')) → Fr g L h' (rtM lx q' es' te' (some (.str (sg c) tc))) →
      cs.drop p' = (if line then dropLine (cs.drop p) else cs.drop p) → SVv sv' st' → FlowOk brk f → rEq tok q c = ⟨brk, st', tok', q', es', line⟩ → p' ≤ cs.length → QF f { s with heap := h', toks := tk }) :
    wpAny (md w) (AR dp un fr gd) (execs [ws4] (rtE L)) QF E s := by
  have X := W.X
  have T := W.T
  w_on
  w_top on
  walk_at "my steps"
  all_goals (try dsimp only)
  all_goals first
    | exact ret _ _ _ _ _ _ false _ _ _ _ _ _ p _ _ (by first | assumption | exact newsTail (by assumption)) (by first | assumption | exact frEq (by assumption) (rtM_es ..) | exact frEq (by assumption) (rtM_q ..) | exact frEq (by assumption) (rtM_qes ..)) rfl (by first | exact SVv.none | exact SVv.some) (by first | exact FlowOk.next | exact FlowOk.brk | exact FlowOk.cont) (by first | exact rfl | (simp (disch := with_reducible assumption) only [rEq, iteT, iteF]; done) | (simp (disch := with_reducible assumption) only [rEq, iteT, iteF]; rfl)) hp
    | exact ret _ _ _ _ _ _ true _ _ _ _ _ _ _ _ _ (by first | assumption | exact newsTail (by assumption)) (by first | assumption | exact frEq (by assumption) (rtM_es ..)) (by assumption) (by first | exact SVv.none | exact SVv.some) (by first | exact FlowOk.next | exact FlowOk.brk | exact FlowOk.cont) (by simp (disch := with_reducible assumption) only [rEq, iteT, iteF]) (by assumption)
    | fail "eq_C: an end"
theorem q39_X (W : Wd w mean mg mb g) (hroom : dp + 3 < recursionLimit) (F : Fr g L s.heap (rtM lx q es te (some (.str (Str.ofString "") tc))))
    (N : News g L s.heap (L4 lx dl sio ds (lexO P sio (.str (sg 39) ts) ln tl tok tt) (sioO S cs p tp)))
    (n1 : lx ≠ dl) (n2 : lx ≠ sio) (n3 : lx ≠ ds) (n4 : dl ≠ sio) (n5 : dl ≠ ds) (n6 : sio ≠ ds)
    (retX : ∀ h₁ m₁ h' e tk, Fr g L h₁ m₁ → Heap.NewExc h₁ h' e "ValueError" → E (.ref e) { s with heap := h', toks := tk }) :
    wpAny (md w) (AR dp un fr gd) (execs [ws4] (rtE L)) QF E s := by
  have X := W.X
  have T := W.T
  w_on
  w_top on
  walk_at "my steps"
  all_goals exact retX _ _ _ _ _ (by assumption) (by assumption)
theorem q34_X (W : Wd w mean mg mb g) (hroom : dp + 3 < recursionLimit) (F : Fr g L s.heap (rtM lx q es te (some (.str (Str.ofString "") tc))))
    (N : News g L s.heap (L4 lx dl sio ds (lexO P sio (.str (sg 34) ts) ln tl tok tt) (sioO S cs p tp)))
    (n1 : lx ≠ dl) (n2 : lx ≠ sio) (n3 : lx ≠ ds) (n4 : dl ≠ sio) (n5 : dl ≠ ds) (n6 : sio ≠ ds)
    (retX : ∀ h₁ m₁ h' e tk, Fr g L h₁ m₁ → Heap.NewExc h₁ h' e "ValueError" → E (.ref e) { s with heap := h', toks := tk }) :
    wpAny (md w) (AR dp un fr gd) (execs [ws4] (rtE L)) QF E s := by
  have X := W.X
  have T := W.T
  w_on
  w_top on
  walk_at "my steps"
  all_goals exact retX _ _ _ _ _ (by assumption) (by assumption)
theorem e_X (W : Wd w mean mg mb g) (hroom : dp + 3 < recursionLimit) (F : Fr g L s.heap (rtM lx q es te (some (.str (Str.ofString "") tc))))
    (N : News g L s.heap (L4 lx dl sio ds (lexO P sio (.str (sg 92) ts) ln tl tok tt) (sioO S cs p tp)))
    (n1 : lx ≠ dl) (n2 : lx ≠ sio) (n3 : lx ≠ ds) (n4 : dl ≠ sio) (n5 : dl ≠ ds) (n6 : sio ≠ ds)
    (retX : ∀ h₁ m₁ h' e tk, Fr g L h₁ m₁ → Heap.NewExc h₁ h' e "ValueError" → E (.ref e) { s with heap := h', toks := tk }) :
    wpAny (md w) (AR dp un fr gd) (execs [ws4] (rtE L)) QF E s := by
  have X := W.X
  have T := W.T
  w_on
  w_top on
  walk_at "my steps"
  all_goals exact retX _ _ _ _ _ (by assumption) (by assumption)
end
end
-- Fly
/-- an error of class X has left a call: what stood in B stands, the frames stand up to their slots -/
noncomputable def FlyX (X : String) (B g : Heap) (outer : List Env) (e : Addr) (h' : Heap) : Prop := (∃ a0, Heap.FlyingW B outer e (.type X) a0 h') ∧ g.UpToSlots h'
noncomputable abbrev Fly (B g : Heap) (outer : List Env) (e : Addr) (h' : Heap) : Prop := FlyX "ValueError" B g outer e h'
section
variable {M : Model} {A : Around} {E : Value → Shared → Prop} {s' : Shared} {B g h : Heap} {outer : List Env} {L a e : Addr} {m : Str → Option Value} {name : Str} {scope : Scope} {cd : Value} {Q : Unit → Shared → Prop} {X : String}
theorem leaveNew (K : Below A B outer g) (hx : Heap.NewExc h s'.heap e X) (F : Fr g L h m) (hQ : ∀ h', FlyX X B g outer e h' → Q () { s' with heap := h' }) (hk : scope.kind = .function := by rfl) :
    wpAny M (A.deeper (envOf name scope L a cd)) (leaving (envOf name scope L a cd) (.ref e)) Q E s' := by
  have K' := K.push (name := name) (a := a) (cd := cd) F hk
  obtain ⟨ob, tp, he, hcls, hd⟩ := hx.there
  have hkb : B.StaysIn s'.heap := fun b o q => hx.keeps b o (K'.stays b o q)
  have hl : s'.heap.FunFrames B (envOf name scope L a cd :: outer) := K'.frames.of_keeps (fun b o e _ => ⟨o, hx.keeps b o e, rfl⟩)
  have hen : B.get? e = none := fresh_of_stays K'.stays hx.new
  refine wpAny_leaving_firstW K'.stack hl rfl he hkb hen hd (by simp) (a0 := tp) (by simp) fun h' Lf => ?_
  obtain ⟨k1, ⟨_, _, k2⟩, k3, k4⟩ := Lf
  rw [hcls] at k3
  refine hQ h' ⟨⟨tp, k1, hen, k2, k3⟩, ?_⟩
  exact ((Heap.UpToSlots.of_keeps F.keep).trans (Heap.UpToSlots.of_keeps hx.keeps)).trans k4
theorem leaveOn {ads : List Addr} (K : Below A B outer g) (F : Fr g L h m) (fl : FlyX X B (hideAll h ads) (envOf name scope L a cd :: outer) e s'.heap) (hads : ∀ b ∈ ads, g.get? b = none) (hQ : ∀ h', FlyX X B g outer e h' → Q () { s' with heap := h' }) :
    wpAny M (A.deeper (envOf name scope L a cd)) (leaving (envOf name scope L a cd) (.ref e)) Q E s' := by
  obtain ⟨⟨a0, fl⟩, up⟩ := fl
  refine wpAny_leaves_onW (Around.frames_deeper K.stack) rfl fl fun h' x1 x2 => ?_
  refine hQ h' ⟨⟨a0, x1⟩, ?_⟩
  have z : g.UpToSlots s'.heap := fun b o q hn => up b o (hideAll_get _ (F.keep b o q) fun hm => by rw [hads b hm] at q; cases q) hn
  exact z.trans x2
/-- below a call that may turn the objects of 'ads' -/
theorem belowHide {news ads : List (Addr × Obj)} (K : Below A B outer g) (F : Fr g L h m) (N : News g L h news) (hs : ∀ p ∈ ads, p ∈ news) (hk : scope.kind = .function := by rfl) :
    Below (A.deeper (envOf name scope L a cd)) B (envOf name scope L a cd :: outer) (hideAll h (ks ads)) := by
  have K' := K.push (name := name) (a := a) (cd := cd) F hk
  have ng : ∀ b ∈ ks ads, g.get? b = none := fun b q => by
    obtain ⟨p, hp, rfl⟩ := List.mem_map.mp q
    exact (N p (hs p hp)).2.2
  have nL : L ∉ ks ads := fun q => by
    obtain ⟨p, hp, e⟩ := List.mem_map.mp q
    exact (N p (hs p hp)).2.1 e
  refine ⟨K'.stack, fun b o q => hideAll_get _ (K'.stays b o q) fun hm => ?_, ?_⟩
  · have := K.stays b o q
    rw [ng b hm] at this; cases this
  · obtain ⟨oL, a1, a2, hL, a3, a4⟩ := F.ns
    refine .cons (m := m) (by show scope.kind ≠ .module; rw [hk]; decide) rfl ⟨oL, a1, a2, hideAll_get _ hL nL, a3, a4⟩ ?_ (K.frames.of_keeps fun b o q _ => ⟨o, hideAll_get _ (F.keep b o q) (fun hm => by rw [ng b hm] at q; cases q), rfl⟩)
    cases hq : B.get? L with
    | none => rfl
    | some o => exact absurd (Nat.lt_of_lt_of_le (Heap.lt_size (K.stays L o hq)) F.above) (Nat.lt_irrefl _)
/-- all but the frames stay -/
theorem belowAll (K : Below A B outer g) : Below A (hideAll g (outer.filterMap (·.frame))) outer g :=
  ⟨K.stack, fun b o q => of_hideAll _ q, funFrames_hide K.frames fun env he b hb => List.mem_filterMap.mpr ⟨env, he, hb⟩⟩
theorem baseAll (K : Below A B outer g) : B.StaysIn (hideAll g (outer.filterMap (·.frame))) := fun b o q => hideAll_get _ (K.stays b o q) fun hm => by
  rw [(K.frames.mem hm).1] at q; cases q
theorem FlyX.base {B' : Heap} (hB : B.StaysIn B') (f : FlyX X B' g outer e h) : FlyX X B g outer e h := by
  obtain ⟨⟨a0, f⟩, u⟩ := f
  exact ⟨⟨a0, flyingW_base hB f⟩, u⟩
end
-- Rtp
/-- read_token's states: a gap, a word, in marks, behind a backslash (of a word, in marks), none -/
inductive SK
  | sp | wd | q39 | q34 | ea | eq | no
noncomputable def stOf : SK → Option Str
  | .sp => some (Str.ofString " ")
  | .wd => some (Str.ofString "a")
  | .q39 => some (sg 39)
  | .q34 => some (sg 34)
  | .ea => some (sg 92)
  | .eq => some (sg 92)
  | .no => none
noncomputable def esOk : SK → Str → Prop
  | .ea, es => es = Str.ofString "a"
  | .eq, es => es = sg 34
  | _, _ => True
structure NX where
  brk : Bool
  k : SK
  tok : Str
  q : Bool
  line : Bool
noncomputable def isWs (c : Nat) : Bool := c == 32 || (c == 9 || (c == 13 || c == 10))
noncomputable abbrev eS : Str := Str.ofString ""
noncomputable def nx (b : Bool) : SK → Str → Bool → Nat → NX
  | .sp, _, q, c => if isWs c then ⟨b && q, .sp, eS, q, false⟩ else if c == 35 then ⟨false, .sp, eS, q, true⟩ else if b && c == 92 then ⟨false, .ea, eS, q, false⟩
      else if c == 39 then ⟨false, .q39, if b then eS else sg c, q, false⟩ else if c == 34 then ⟨false, .q34, if b then eS else sg c, q, false⟩ else ⟨false, .wd, sg c, q, false⟩
  | .wd, tok, q, c => if isWs c then ⟨(tok != eS) || (b && q), .sp, tok, q, false⟩ else if c == 35 then (if b then ⟨(tok != eS) || q, .sp, tok, q, true⟩ else ⟨false, .wd, tok, q, true⟩)
      else if b && c == 39 then ⟨false, .q39, tok, q, false⟩ else if b && c == 34 then ⟨false, .q34, tok, q, false⟩ else if b && c == 92 then ⟨false, .ea, tok, q, false⟩ else ⟨false, .wd, tok ++ sg c, q, false⟩
  | .q39, tok, _, c => if c == 39 then (if b then ⟨false, .wd, tok, true, false⟩ else ⟨true, .sp, tok ++ sg c, true, false⟩) else ⟨false, .q39, tok ++ sg c, true, false⟩
  | .q34, tok, _, c => if c == 34 then (if b then ⟨false, .wd, tok, true, false⟩ else ⟨true, .sp, tok ++ sg c, true, false⟩) else if b && c == 92 then ⟨false, .eq, tok, true, false⟩ else ⟨false, .q34, tok ++ sg c, true, false⟩
  | .ea, tok, q, c => ⟨false, .wd, tok ++ sg c, q, false⟩
  | .eq, tok, q, c => ⟨false, .q34, (if c == 92 || c == 34 then tok else tok ++ sg 92) ++ sg c, q, false⟩
  | .no, _, q, _ => ⟨true, .no, eS, q, false⟩
theorem notIn_mem (x : Str) (c : Nat) : notIn x c = !decide (c ∈ x.cps.toList) := by
  rw [← StrLaws.found_one, Bool.not_not]
theorem notIn_ws (c : Nat) : notIn (Str.ofString " \t\r\n") c = !isWs c := by
  rw [notIn_mem, show (Str.ofString " \t\r\n").cps.toList = [32, 9, 13, 10] from by decide +kernel]
  unfold isWs
  simp [Bool.decide_or]
  rfl
theorem notIn_cm (c : Nat) : notIn (Str.ofString "#") c = !(c == 35) := by
  rw [notIn_mem, show (Str.ofString "#").cps.toList = [35] from by decide +kernel]
  simp
  rfl
theorem notIn_qs (c : Nat) : notIn (Str.ofString "'\"") c = !(c == 39 || c == 34) := by
  rw [notIn_mem, show (Str.ofString "'\"").cps.toList = [39, 34] from by decide +kernel]
  simp [Bool.decide_or]
  rfl
theorem notIn_bs (c : Nat) : notIn (Str.ofString "\\") c = !(c == 92) := by
  rw [notIn_mem, show (Str.ofString "\\").cps.toList = [92] from by decide +kernel]
  simp
  rfl
theorem sg_beq (c d : Nat) : (sg c == sg d) = (c == d) := by
  by_cases h : c = d
  · subst h; simp
  · rw [show (c == d) = false from by simpa using h]
    rw [beq_eq_false_iff_ne]
    intro e; apply h
    have := congrArg (fun x : Str => x.cps.toList) e
    simpa using this
theorem sg_bne (c d : Nat) : (sg c != sg d) = !(c == d) := by
  show (!(sg c == sg d)) = _
  rw [sg_beq]
noncomputable def NxOk (x : NX) (y : RR) : Prop := stOf x.k = y.st ∧ esOk x.k y.es ∧ x.brk = y.brk ∧ x.tok = y.tok ∧ x.q = y.q ∧ x.line = y.line
theorem ok_sp (b : Bool) (wc : Str) (q : Bool) (es : Str) (c : Nat) (h39 : notIn wc 39 = true) (h34 : notIn wc 34 = true) : NxOk (nx b .sp eS q c) (rSp b wc q es c) := by
  simp only [nx]
  unfold rSp rSp2
  rw [notIn_ws, notIn_cm, notIn_bs, notIn_qs]
  cases h1 : isWs c
  · cases h2 : (c == 35)
    · cases b
      · cases h3 : (c == 39)
        · cases h4 : (c == 34)
          · cases h5 : notIn wc c <;> simp [NxOk, stOf, esOk]
          · obtain rfl := beq_iff_eq.mp h4
            simp [NxOk, stOf, esOk, h34]
        · obtain rfl := beq_iff_eq.mp h3
          simp [NxOk, stOf, esOk, h39]
      · cases h6 : (c == 92)
        · cases h3 : (c == 39)
          · cases h4 : (c == 34)
            · cases h5 : notIn wc c <;> simp [NxOk, stOf, esOk]
            · obtain rfl := beq_iff_eq.mp h4
              simp [NxOk, stOf, esOk, h34]
          · obtain rfl := beq_iff_eq.mp h3
            simp [NxOk, stOf, esOk, h39]
        · obtain rfl := beq_iff_eq.mp h6
          simp [NxOk, stOf, esOk]
    · simp [NxOk, stOf, esOk]
  · cases b <;> cases q <;> simp [NxOk, stOf, esOk]
theorem ok_wd (b : Bool) (wc : Str) (tok : Str) (q : Bool) (es : Str) (c : Nat) : NxOk (nx b .wd tok q c) (rA b wc tok q es c) := by
  simp only [nx]
  unfold rA
  rw [notIn_ws, notIn_cm, notIn_bs, notIn_qs]
  cases h1 : isWs c
  · cases h2 : (c == 35)
    · cases b
      · simp [NxOk, stOf, esOk]
      · cases h3 : (c == 39)
        · cases h4 : (c == 34)
          · cases h6 : (c == 92)
            · simp [NxOk, stOf, esOk]
            · obtain rfl := beq_iff_eq.mp h6
              simp [NxOk, stOf, esOk]
          · obtain rfl := beq_iff_eq.mp h4
            simp [NxOk, stOf, esOk]
        · obtain rfl := beq_iff_eq.mp h3
          simp [NxOk, stOf, esOk]
    · cases b <;> cases q <;> cases h7 : (tok != Str.ofString "") <;> simp [NxOk, stOf, esOk, eS, h7]
  · cases b <;> cases q <;> cases h7 : (tok != Str.ofString "") <;> simp [NxOk, stOf, esOk, eS, h7]
theorem ok_q39 (b : Bool) (tok : Str) (q : Bool) (es : Str) (c : Nat) : NxOk (nx b .q39 tok q c) (rQ b 39 tok es c) := by
  simp only [nx]
  unfold rQ
  rw [notIn_bs, sg_beq]
  cases h1 : (c == 39) <;> cases b <;> cases h2 : (c == 92) <;> simp [NxOk, stOf, esOk]
theorem ok_q34 (b : Bool) (tok : Str) (q : Bool) (es : Str) (c : Nat) : NxOk (nx b .q34 tok q c) (rQ b 34 tok es c) := by
  simp only [nx]
  unfold rQ
  rw [notIn_bs, sg_beq]
  cases h1 : (c == 34)
  · cases b
    · simp [NxOk, stOf, esOk]
    · cases h2 : (c == 92)
      · simp [NxOk, stOf, esOk]
      · obtain rfl := beq_iff_eq.mp h2
        simp [NxOk, stOf, esOk]
  · cases b <;> simp [NxOk, stOf, esOk]
theorem ok_ea (b : Bool) (tok : Str) (q : Bool) (c : Nat) : NxOk (nx b .ea tok q c) (rEa tok q c) := by
  simp [nx, rEa, NxOk, stOf, esOk]
theorem ok_eq (b : Bool) (tok : Str) (q : Bool) (c : Nat) : NxOk (nx b .eq tok q c) (rEq tok q c) := by
  simp only [nx]
  unfold rEq
  rw [sg_bne, sg_bne]
  cases h1 : (c == 92) <;> cases h2 : (c == 34) <;> simp [NxOk, stOf, esOk]
theorem dropLine_le : ∀ l : List Nat, (dropLine l).length ≤ l.length
  | [] => Nat.le_refl _
  | c :: r => by
    unfold dropLine
    split
    · exact Nat.le_succ _
    · exact Nat.le_succ_of_le (dropLine_le r)
inductive RTo
  | err
  | ok (tok : Str) (q fin : Bool) (rest : List Nat)
noncomputable def rtP (b : Bool) : SK → Str → Bool → List Nat → RTo
  | k, tok, q, [] => match k with
    | .sp => .ok tok q true []
    | .wd => .ok tok q true []
    | .no => .ok eS q true []
    | _ => .err
  | k, tok, q, c :: r =>
    if (nx b k tok q c).brk then .ok (nx b k tok q c).tok (nx b k tok q c).q false (if (nx b k tok q c).line then dropLine r else r)
    else rtP b (nx b k tok q c).k (nx b k tok q c).tok (nx b k tok q c).q (if (nx b k tok q c).line then dropLine r else r)
termination_by _ _ _ l => l.length
decreasing_by
  split
  · exact Nat.lt_succ_of_le (dropLine_le r)
  · exact Nat.lt_succ_self _
/-- a turn that leaves comes to a gap; one in a gap has an empty token -/
theorem nx_brk {b : Bool} {k : SK} {tok : Str} {q : Bool} {c : Nat} (hk : k ≠ .no) (h : (nx b k tok q c).brk = true) : (nx b k tok q c).k = .sp := by
  cases k <;> first
    | exact absurd rfl hk
    | (simp only [nx] at h ⊢
       repeat' split at h
       all_goals first
         | (cases h; done)
         | (simp only [*, if_true, if_false, Bool.false_eq_true]; done)
         | (simp_all; done))
theorem nx_sp {b : Bool} {k : SK} {tok : Str} {q : Bool} {c : Nat} (hk : k ≠ .no) (ht : k = .sp → tok = eS) (hb : (nx b k tok q c).brk = false) (h : (nx b k tok q c).k = .sp) : (nx b k tok q c).tok = eS := by
  cases k <;> first
    | exact absurd rfl hk
    | (simp only [nx] at hb h ⊢
       repeat' split at h
       all_goals first
         | (cases h; done)
         | (simp_all; done))
theorem nx_no {b : Bool} {k : SK} {tok : Str} {q : Bool} {c : Nat} (hk : k ≠ .no) : (nx b k tok q c).k ≠ .no := by
  cases k <;> first
    | exact absurd rfl hk
    | (simp only [nx]
       repeat' split
       all_goals (intro h; cases h))
theorem str_len_app (a b : Str) : (a ++ b).length = a.length + b.length := by
  show (Str.append a b).length = _
  unfold Str.append Str.length
  simp
theorem eS_len : eS.length = 0 := by decide +kernel
theorem sg_len (c : Nat) : (sg c).length = 1 := rfl
theorem nx_len {b : Bool} {k : SK} {tok : Str} {q : Bool} {c : Nat} : (nx b k tok q c).tok.length ≤ tok.length + 2 := by
  cases k <;> simp only [nx] <;> repeat' split
  all_goals (simp only [str_len_app, eS_len, sg_len]; omega)
-- Deq
noncomputable abbrev dqT : String := "collections.deque"
theorem dq_noBool : typeLookup (.type "collections.deque") "__bool__" = pure none := by rw [typeLookup_type, builtinLookup_eq_fast]; kernel_rfl
theorem slot_dq_len : Slot "collections.deque" "__len__" "collections.deque.__len__" :=
  .of (owner := "collections.deque") (n := "__len__") (by rw [typeLookup_type, builtinLookup_eq_fast]; kernel_rfl) (by decide +kernel) (by decide +kernel) (by decide +kernel)
    (by first | exact .inl (by decide +kernel) | exact .inr (by decide +kernel)) (by rw [isSubtype_type]; kernel_rfl)
theorem entry_dq_len : entryFor table "collections.deque.__len__" = some Builtin.«collections.deque.__len__» := entryFor_of_tree (by kernel_rfl)
theorem args_dq_len (a : Value) : argsOk "collections.deque.__len__" ⟨[a], []⟩ := by
  unfold argsOk; kernel_rfl
/-- an empty deque -/
noncomputable def dqObj : Obj := { cls := .type "collections.deque", dict := none, data := .fields #[.none, rawInt 0] }
section
variable {prog : Program} {w : World} {A : Around} {E : Value → Shared → Prop} {s : Shared} {t : Addr}
theorem dq_lenB {Q : Value → Shared → Prop} (ht : s.heap.get? t = some dqObj) (h : ∀ k, Q (.int 0 k) { s with toks := s.toks + 1 }) :
    wpAny (model prog w) A (call (.builtin "collections.deque.__len__") [.ref t]) Q E s := by
  refine wpAny_call_entry slot_dq_len ⟨_, ht, rfl⟩ entry_dq_len ?_ (args_dq_len _)
  unfold Builtin.«collections.deque.__len__» Builtin.Deque.size
  refine wpAny_bind (m := slotArgs _ _ _) (wpAny_pure ?_)
  dsimp only
  refine wpAny_bind (wpAny_bind (wpAny_fieldsOf ht rfl (wpAny_pure ?_)))
  exact wpAny_bind (wpAny_mkInt (wpAny_pure ⟨_, rfl, h _⟩))
theorem dq_len {Q : Value → Shared → Prop} (ht : s.heap.get? t = some dqObj)
    (h : ∀ k, Q (.int 0 k) { s with toks := s.toks + 1 + 1 }) : wpAny (model prog w) A (Builtin.«len» ⟨[.ref t], []⟩) (fun fin s' => ∃ r, fin = .done (.ret r) ∧ Q r s') E s := by
  have hT : s.TypeIs (.ref t) "collections.deque" := ⟨_, ht, rfl⟩
  unfold Builtin.«len»
  refine wpAny_bind (m := oneArg "len" _) (wpAny_pure ?_)
  refine wpAny_bind (m := callSpecial? (.ref t) (Str.ofString "__len__")) (wpAny_callSpecial?_slot (name := Str.ofString "__len__") hT slot_dq_len (dq_lenB ht fun k => ?_))
  refine wpAny_bind (wpAny_holding (wpAny_pure ?_))
  refine wpAny_bind (wpAny_letGo ?_)
  show wpAny _ _ (if (0 : Int) < 0 then _ else _) _ _ _
  rw [if_neg (by omega)]
  show wpAny _ _ (if (0 : Int) ≥ 2 ^ 63 then _ else _) _ _ _
  rw [if_neg (by decide)]
  exact wpAny_bind (wpAny_mkInt (wpAny_pure ⟨_, rfl, h _⟩))
theorem dq_truthy {Q : Bool → Shared → Prop} (ht : s.heap.get? t = some dqObj) (h : Q false { s with toks := s.toks + 1 + 1 }) : wpAny (model prog w) A (truthy (.ref t)) Q E s := by
  have hT : s.TypeIs (.ref t) "collections.deque" := ⟨_, ht, rfl⟩
  have key : wpAny (model prog w) A (runValue (.builtin "len" ⟨[.ref t], []⟩)) (fun r s' => (∃ k, r = .int 0 k) ∧ Q false s') E s := by
    refine wpAny_runValue (codeAny_builtin entry_len ?_)
    rw [Around.under_plainId plain_len _]
    exact wpAny_mono (dq_len (Q := fun r s' => (∃ k, r = .int 0 k) ∧ Q false s') ht fun k => ⟨⟨_, rfl⟩, h⟩)
      (fun fin s' h' => by obtain ⟨r, rfl, hq⟩ := h'; exact hq) fun _ _ e => e
  unfold truthy
  first
    | refine wpAny_bind (wpAny_callSpecial?_none (name := Str.ofString "__bool__") hT dq_noBool ?_)
    | refine wpAny_bind (wpAny_pure (wpAny_bind (wpAny_callSpecial?_none (name := Str.ofString "__bool__") hT dq_noBool ?_)))
  first
    | refine wpAny_bind (wpAny_specialOf (name := Str.ofString "__len__") hT slot_dq_len.lookup ?_)
    | refine wpAny_bind (wpAny_pure (wpAny_bind (wpAny_specialOf (name := Str.ofString "__len__") hT slot_dq_len.lookup ?_)))
  first
    | exact wpAny_bind (wpAny_mono key (fun r s' h' => by obtain ⟨⟨k, rfl⟩, hq⟩ := h'; exact wpAny_pure hq) fun _ _ e => e)
    | exact wpAny_bind (wpAny_pure (wpAny_bind (wpAny_mono key (fun r s' h' => by obtain ⟨⟨k, rfl⟩, hq⟩ := h'; exact wpAny_pure hq) fun _ _ e => e)))
end
theorem rstR4 {w : World} {A : Around} {s : Shared} {Q : Bool → Shared → Prop} {E : Value → Shared → Prop} (h : wpAny (md w) A (truthy (.bool true)) Q E s) : wpAny (md w) A (truthy (.bool true)) Q E s := by
  first | (walk1; fail) | exact h
-- R4
theorem fillR4 : Fill PySem.Challenge.rw_oc0205_01 kx := by
  k_fill
  exact True.intro
section
variable {w : World} {mean : ExcName → Option Value} {mg mb : Str → Option Value} {dp un : Nat} {fr : Option (List Env)} {gd : Option (List Code)} {s : Shared} {Q E : Value → Shared → Prop}
/-- a turn, told in whole -/
noncomputable def TS (b : Bool) (k : SK) (tok : Str) (q : Bool) (rest : List Nat) (brk : Bool) (k' : SK) (tok' : Str) (q' : Bool) (r' : List Nat) : Prop := match rest with
  | [] => brk = true ∧ k' = .no ∧ q' = q ∧ r' = [] ∧ (((k = .sp ∨ k = .wd) ∧ tok' = tok) ∨ (k = .no ∧ tok' = eS))
  | c :: r => (nx b k tok q c).brk = brk ∧ (nx b k tok q c).k = k' ∧ (nx b k tok q c).tok = tok' ∧ (nx b k tok q c).q = q' ∧ (if (nx b k tok q c).line then dropLine r else r) = r'
noncomputable def erK : SK → Prop
  | .sp => False
  | .wd => False
  | .no => False
  | _ => True
theorem ts_of {b : Bool} {k : SK} {tok : Str} {q : Bool} {c : Nat} {r : List Nat} {y : RR} (h : NxOk (nx b k tok q c) y) : TS b k tok q (c :: r) y.brk (nx b k tok q c).k y.tok y.q (if y.line then dropLine r else r) := by
  obtain ⟨_, _, h3, h4, h5, h6⟩ := h
  exact ⟨h3, rfl, h4, h5, by rw [h6]⟩
theorem drop_some {cs : List Nat} {p c : Nat} (h : cs[p]? = some c) : cs.drop p = c :: cs.drop (p + 1) ∧ p + 1 ≤ cs.length := by
  obtain ⟨h1, h2⟩ := List.getElem?_eq_some_iff.mp h
  refine ⟨?_, h1⟩
  rw [← h2]; exact List.drop_eq_getElem_cons h1
section
variable {g : Heap} {L : Addr} {lx dl sio ds : Nat} {P : LP} {S : SP} {ln : Int} {tl tt te tp tc : Tok} {tok : Str} {q : Bool} {es : Str} {p : Nat} {cs : List Nat} {QF : Flow → Shared → Prop} {k : SK} {sv : Value} {nc : Option Value}
theorem turn_rt (W : Wd w mean mg mb g) (hroom : dp + 3 < recursionLimit) (F : Fr g L s.heap (rtM lx q es te nc)) (hp : p ≤ cs.length) (hc : cs.length ≤ 100000) (ht : tok.length ≤ 200000)
    (N : News g L s.heap (L4 lx dl sio ds (lexO P sio sv ln tl tok tt) (sioO S cs p tp)))
    (n1 : lx ≠ dl) (n2 : lx ≠ sio) (n3 : lx ≠ ds) (n4 : dl ≠ sio) (n5 : dl ≠ ds) (n6 : sio ≠ ds) (h39 : notIn P.wc 39 = true) (h34 : notIn P.wc 34 = true)
    (hsv : SVv sv (stOf k)) (hes : esOk k es) (hk : k = .no → cs.drop p = []) (htk : k = .sp → tok = eS)
    (ret : ∀ f brk k' tok' q' es' sv' tt' te' ln' tl' tp' nc' (p' : Nat) h' tk, News g L h' (L4 lx dl sio ds (lexO P sio sv' ln' tl' tok' tt') (sioO S cs p' tp')) → Fr g L h' (rtM lx q' es' te' nc') →
      SVv sv' (stOf k') → esOk k' es' → FlowOk brk f → TS P.b k tok q (cs.drop p) brk k' tok' q' (cs.drop p') → p' ≤ cs.length → QF f { s with heap := h', toks := tk })
    (retX : cs.drop p = [] → erK k → ∀ h₁ m₁ h' e tk, Fr g L h₁ m₁ → Heap.NewExc h₁ h' e "ValueError" → E (.ref e) { s with heap := h', toks := tk }) :
    wpAny (md w) (AR dp un fr gd) (execs wb (rtE L)) QF E s := by
  rw [wb_eq]
  refine execsApp (pre_ct W hroom F hp hc N n1 n2 n3 n4 n5 n6 ?_ ?_)
  · intro t' h' tk hpl F' N'
    dsimp only
    have hd : cs.drop p = [] := by rw [hpl, List.drop_length]
    cases k with
    | sp =>
      obtain ⟨ts⟩ := hsv
      refine sp_E (s := { s with heap := h', toks := tk }) W hroom F' hp hc ht N' n1 n2 n3 n4 n5 n6 ?_
      intro f brk st' tok' q' es' line sv' tt' te' ln' tl' tp' p' h₂ tk₂ N₂ F₂ hdr hs₂ hf he hp'
      injection he with e1 e2 e3 e4 e5 e6
      subst e1 e2 e3 e4 e5 e6
      refine ret f true .no tok q es sv' tt' te' ln' tl' tp' _ p' h₂ tk₂ N₂ F₂ hs₂ trivial hf ?_ hp'
      rw [if_neg Bool.false_ne_true, hd] at hdr
      rw [hd, hdr]
      exact ⟨rfl, rfl, rfl, rfl, .inl ⟨.inl rfl, rfl⟩⟩
    | wd =>
      obtain ⟨ts⟩ := hsv
      refine a_E (s := { s with heap := h', toks := tk }) W hroom F' hp hc ht N' n1 n2 n3 n4 n5 n6 ?_
      intro f brk st' tok' q' es' line sv' tt' te' ln' tl' tp' p' h₂ tk₂ N₂ F₂ hdr hs₂ hf he hp'
      injection he with e1 e2 e3 e4 e5 e6
      subst e1 e2 e3 e4 e5 e6
      refine ret f true .no tok q es sv' tt' te' ln' tl' tp' _ p' h₂ tk₂ N₂ F₂ hs₂ trivial hf ?_ hp'
      rw [if_neg Bool.false_ne_true, hd] at hdr
      rw [hd, hdr]
      exact ⟨rfl, rfl, rfl, rfl, .inl ⟨.inr rfl, rfl⟩⟩
    | no =>
      obtain ⟨⟩ := hsv
      refine none_E (s := { s with heap := h', toks := tk }) W hroom F' hp hc ht N' n1 n2 n3 n4 n5 n6 ?_
      intro f brk st' tok' q' es' line sv' tt' te' ln' tl' tp' p' h₂ tk₂ N₂ F₂ hdr hs₂ hf he hp'
      injection he with e1 e2 e3 e4 e5 e6
      subst e1 e2 e3 e4 e5 e6
      refine ret f true .no eS q es sv' tt' te' ln' tl' tp' _ p' h₂ tk₂ N₂ F₂ hs₂ trivial hf ?_ hp'
      rw [if_neg Bool.false_ne_true, hd] at hdr
      rw [hd, hdr]
      exact ⟨rfl, rfl, rfl, rfl, .inr ⟨rfl, rfl⟩⟩
    | q39 =>
      obtain ⟨ts⟩ := hsv
      exact q39_X (s := { s with heap := h', toks := tk }) W hroom F' N' n1 n2 n3 n4 n5 n6 (retX hd trivial)
    | q34 =>
      obtain ⟨ts⟩ := hsv
      exact q34_X (s := { s with heap := h', toks := tk }) W hroom F' N' n1 n2 n3 n4 n5 n6 (retX hd trivial)
    | ea =>
      obtain ⟨ts⟩ := hsv
      exact e_X (s := { s with heap := h', toks := tk }) W hroom F' N' n1 n2 n3 n4 n5 n6 (retX hd trivial)
    | eq =>
      obtain ⟨ts⟩ := hsv
      exact e_X (s := { s with heap := h', toks := tk }) W hroom F' N' n1 n2 n3 n4 n5 n6 (retX hd trivial)
  · intro c ln' tl' tp' t' h' tk hcp F' N'
    dsimp only
    obtain ⟨hd, hp1⟩ := drop_some hcp
    have fin : ∀ {y : RR}, NxOk (nx P.b k tok q c) y → ∀ f brk st' tok' q' es' line sv' tt' te' ln' tl' tp' (p' : Nat) h' tk, News g L h' (L4 lx dl sio ds (lexO P sio sv' ln' tl' tok' tt') (sioO S cs p' tp')) → Fr g L h' (rtM lx q' es' te' (some (.str (sg c) t'))) →
        cs.drop p' = (if line then dropLine (cs.drop (p + 1)) else cs.drop (p + 1)) → SVv sv' st' → FlowOk brk f → y = ⟨brk, st', tok', q', es', line⟩ → p' ≤ cs.length → QF f { s with heap := h', toks := tk } := by
      intro y hy f brk st' tok' q' es' line sv' tt' te' ln' tl' tp' p' h₂ tk₂ N₂ F₂ hdr hs₂ hf he hp'
      subst he
      refine ret f brk _ tok' q' es' sv' tt' te' ln' tl' tp' _ p' h₂ tk₂ N₂ F₂ (hy.1 ▸ hs₂) hy.2.1 hf ?_ hp'
      rw [hd, hdr]
      exact ts_of hy
    cases k with
    | sp =>
      obtain ⟨ts⟩ := hsv
      obtain rfl := htk rfl
      exact sp_C (s := { s with heap := h', toks := tk }) (tok := eS) W hroom F' hp1 hc ht N' n1 n2 n3 n4 n5 n6 (fin (ok_sp P.b P.wc q es c h39 h34))
    | wd =>
      obtain ⟨ts⟩ := hsv
      exact a_C (s := { s with heap := h', toks := tk }) W hroom F' hp1 hc ht N' n1 n2 n3 n4 n5 n6 (fin (ok_wd P.b P.wc tok q es c))
    | no =>
      have := hk rfl
      rw [hd] at this; cases this
    | q39 =>
      obtain ⟨ts⟩ := hsv
      exact q39_C (s := { s with heap := h', toks := tk }) W hroom F' hp1 hc ht N' n1 n2 n3 n4 n5 n6 (fin (ok_q39 P.b tok q es c))
    | q34 =>
      obtain ⟨ts⟩ := hsv
      exact q34_C (s := { s with heap := h', toks := tk }) W hroom F' hp1 hc ht N' n1 n2 n3 n4 n5 n6 (fin (ok_q34 P.b tok q es c))
    | ea =>
      obtain ⟨ts⟩ := hsv
      obtain rfl : es = Str.ofString "a" := hes
      exact ea_C (s := { s with heap := h', toks := tk }) W hroom F' hp1 hc ht N' n1 n2 n3 n4 n5 n6 (fin (ok_ea P.b tok q c))
    | eq =>
      obtain ⟨ts⟩ := hsv
      obtain rfl : es = sg 34 := hes
      exact eq_C (s := { s with heap := h', toks := tk }) W hroom F' hp1 hc ht N' n1 n2 n3 n4 n5 n6 (fin (ok_eq P.b tok q c))
/-- what holds at the head of a turn, R being what the whole run comes to -/
structure LI (P : LP) (S : SP) (g : Heap) (L : Addr) (lx dl sio ds : Nat) (cs : List Nat) (R : RTo) (n : Nat) (h : Heap) (k : SK) (tok : Str) (q : Bool) (es : Str) (sv : Value) (te tl tt tp : Tok) (ln : Int) (p : Nat) (nc : Option Value) : Prop where
  N : News g L h (L4 lx dl sio ds (lexO P sio sv ln tl tok tt) (sioO S cs p tp))
  F : Fr g L h (rtM lx q es te nc)
  hp : p ≤ cs.length
  hsv : SVv sv (stOf k)
  hes : esOk k es
  hk : k = .no → cs.drop p = []
  htk : k = .sp → tok = eS
  hn : n = cs.length - p
  hlen : tok.length ≤ 2 * p
  hR : rtP P.b k tok q (cs.drop p) = R
theorem loop_rt (hE : PassesOwn (md w) (AR dp un fr gd) (rtE L) E) (W : Wd w mean mg mb g) (hroom : dp + 3 < recursionLimit) (hc : cs.length ≤ 100000) {R : RTo} {n : Nat} {te : Tok}
    (n1 : lx ≠ dl) (n2 : lx ≠ sio) (n3 : lx ≠ ds) (n4 : dl ≠ sio) (n5 : dl ≠ ds) (n6 : sio ≠ ds) (h39 : notIn P.wc 39 = true) (h34 : notIn P.wc 34 = true)
    (I : LI P S g L lx dl sio ds cs R n s.heap k tok q es sv te tl tt tp ln p nc)
    (ret : ∀ k' tok' q' es' sv' tt' te' ln' tl' tp' nc' (p' : Nat) h' tk, News g L h' (L4 lx dl sio ds (lexO P sio sv' ln' tl' tok' tt') (sioO S cs p' tp')) → Fr g L h' (rtM lx q' es' te' nc') → tok'.length ≤ 200000 →
      SVv sv' (stOf k') → R = .ok tok' q' (match k' with | .no => true | _ => false) (cs.drop p') → (k' = .sp ∨ k' = .no) → (k' = .no → cs.drop p' = []) → p' ≤ cs.length → QF .next { s with heap := h', toks := tk })
    (retX : R = .err → ∀ h₁ m₁ h' e tk, Fr g L h₁ m₁ → Heap.NewExc h₁ h' e "ValueError" → E (.ref e) { s with heap := h', toks := tk }) :
    wpAny (md w) (AR dp un fr gd) (exec wlp.1 (rtE L)) QF E s := by
  refine wpAny_While (codeAny_whileLoop (fun n s' => ∃ h tk k tok q es sv te tl tt tp ln p nc, s' = { s with heap := h, toks := tk } ∧ LI P S g L lx dl sio ds cs R n h k tok q es sv te tl tt tp ln p nc) ?_ n ⟨s.heap, s.toks, _, _, _, _, _, _, _, _, _, _, _, _, rfl, I⟩)
  rintro n s' ⟨h, tk, k, tok, q, es, sv, te, tl, tt, tp, ln, p, nc, rfl, I⟩
  refine isTrue_plain (wpAny_pure (a := Value.bool true) (wpAny_truthy_bool ?_))
  rw [if_pos rfl]
  refine wpAny_mono (turn_rt (s := { s with heap := h, toks := tk }) (QF := fun f s₃ => match f with
            | .next | .cont => ∃ m, m < n ∧ ∃ h tk k tok q es sv te tl tt tp ln p nc, s₃ = { s with heap := h, toks := tk } ∧ LI P S g L lx dl sio ds cs R m h k tok q es sv te tl tt tp ln p nc
            | .brk => QF .next s₃
            | .ret v => QF (.ret v) s₃) (E := E) W hroom I.F I.hp hc (by have := I.hlen; have := I.hp; omega) I.N n1 n2 n3 n4 n5 n6 h39 h34 I.hsv I.hes I.hk I.htk ?_ ?_) (fun f s₃ x => x) hE
  · intro f brk k' tok' q' es' sv' tt' te' ln' tl' tp' nc' p' h' tk' N' F' hs' he' hf hts hp'
    have hR := I.hR
    cases hcs : cs.drop p with
    | nil =>
      rw [hcs] at hts hR
      obtain ⟨rfl, rfl, rfl, hr, ht⟩ := hts
      cases hf
      refine ret .no tok' q' es' sv' tt' te' ln' tl' tp' nc' p' h' tk' N' F' (by have := I.hlen; have := I.hp; rcases ht with ⟨_, rfl⟩ | ⟨_, rfl⟩; omega; rw [eS_len]; omega) hs' ?_ (.inr rfl) (fun _ => hr) hp'
      rw [← hR, hr]
      rcases ht with ⟨rfl | rfl, rfl⟩ | ⟨rfl, rfl⟩ <;> (unfold rtP; rfl)
    | cons c r =>
      rw [hcs] at hts hR
      have hno : k ≠ .no := fun e => by have := I.hk e; rw [hcs] at this; cases this
      obtain ⟨e1, e2, e3, e4, e5⟩ := hts
      rw [rtP] at hR
      have hlt : cs.length - p' < cs.length - p ∧ p < p' := by
        have a1 : (cs.drop p).length = cs.length - p := List.length_drop
        have a2 : (cs.drop p').length = cs.length - p' := List.length_drop
        rw [hcs] at a1
        have a3 : (cs.drop p').length ≤ r.length := by
          rw [← e5]; split
          · exact dropLine_le r
          · exact Nat.le_refl _
        simp only [List.length_cons] at a1
        have := I.hp
        omega
      cases brk with
      | true =>
        cases hf
        have hsp := nx_brk hno e1
        rw [e2] at hsp
        rw [if_pos e1, e3, e4, e5] at hR
        subst hsp
        exact ret .sp tok' q' es' sv' tt' te' ln' tl' tp' nc' p' h' tk' N' F' (by have z := nx_len (b := P.b) (k := k) (tok := tok) (q := q) (c := c); rw [e3] at z; have := I.hlen; have := I.hp; omega) hs' hR.symm (.inl rfl) (fun x => nomatch x) hp'
      | false =>
        rw [if_neg (by rw [e1]; exact Bool.false_ne_true), e2, e3, e4, e5] at hR
        have J : LI P S g L lx dl sio ds cs R (cs.length - p') h' k' tok' q' es' sv' te' tl' tt' tp' ln' p' nc' := by
          refine ⟨N', F', hp', hs', he', fun e => absurd (e2.trans e) (nx_no hno), fun e => ?_, rfl, ?_, hR⟩
          · rw [← e3]; exact nx_sp hno I.htk e1 (e2.trans e)
          · have z := nx_len (b := P.b) (k := k) (tok := tok) (q := q) (c := c)
            rw [e3] at z
            have := I.hlen
            omega
        have hm : cs.length - p' < n := by rw [I.hn]; exact hlt.1
        cases hf with
        | next => exact ⟨_, hm, h', tk', k', tok', q', es', sv', te', tl', tt', tp', ln', p', nc', rfl, J⟩
        | cont => exact ⟨_, hm, h', tk', k', tok', q', es', sv', te', tl', tt', tp', ln', p', nc', rfl, J⟩
  · intro hd hk h₁ m₁ h' e tk' F' hx
    refine retX ?_ h₁ m₁ h' e tk' F' hx
    rw [← I.hR, hd]
    unfold rtP
    cases k <;> first | exact False.elim hk | rfl
end
end
theorem rstR5 {w : World} {A : Around} {s : Shared} {Q : Bool → Shared → Prop} {E : Value → Shared → Prop} (h : wpAny (md w) A (truthy (.bool true)) Q E s) : wpAny (md w) A (truthy (.bool true)) Q E s := by
  first | (walk1; fail) | exact h
-- R5
theorem fillR5 : Fill PySem.Challenge.rw_oc0205_01 kx := by
  k_fill
  exact True.intro
section
variable {w : World} {mean : ExcName → Option Value} {mg mb : Str → Option Value} {dp un : Nat} {fr : Option (List Env)} {gd : Option (List Code)} {s : Shared} {Q E : Value → Shared → Prop}
@[reducible] noncomputable def rtTailP : PSigma fun b : List Stmt => bd697.drop 3 = b := by
  refine ⟨?b, ?h⟩
  case h => (conv => lhs; whnf)
@[reducible] noncomputable def rtTail : List Stmt := rtTailP.1
@[reducible] noncomputable def rh1p : PSigma fun st : Stmt => (bd697[0]?).getD (.Pass default) = st := by
  refine ⟨?b, ?h⟩
  case h => (conv => lhs; whnf)
@[reducible] noncomputable def rh2p : PSigma fun st : Stmt => (bd697[1]?).getD (.Pass default) = st := by
  refine ⟨?b, ?h⟩
  case h => (conv => lhs; whnf)
@[reducible] noncomputable def rtHead : List Stmt := [rh1p.1, rh2p.1]
theorem bd697_eq : bd697 = rtHead ++ (wlp.1 :: rtTail) := rfl
noncomputable def rv (b q : Bool) (tok : Str) : Option Str := if b then (if q then some tok else (if tok == eS then none else some tok)) else some tok
theorem rtM_0 (lx : Addr) (te : Tok) : (fun y => if y = Str.ofString "escapedstate" then some (Value.str (Str.ofString " ") te) else if y = Str.ofString "quoted" then some (Value.bool false) else [(Str.ofString "self", Value.ref lx)].lookup y) = rtM lx false (Str.ofString " ") te none := by
  funext y
  unfold rtM
  by_cases h : y = Str.ofString "nextchar"
  · subst h
    rw [if_neg (by decide +kernel), if_neg (by decide +kernel), if_pos rfl]
    rfl
  · rw [if_neg h]
    by_cases h1 : y = Str.ofString "escapedstate"
    · rw [if_pos h1, if_pos h1]
    · rw [if_neg h1, if_neg h1]
      by_cases h2 : y = Str.ofString "quoted"
      · rw [if_pos h2, if_pos h2]
      · rw [if_neg h2, if_neg h2]
        by_cases h3 : y = Str.ofString "self"
        · subst h3; rw [if_pos rfl]; rfl
        · rw [if_neg h3]
          show (match y == Str.ofString "self" with | true => _ | false => _) = _
          rw [show (y == Str.ofString "self") = false from by simpa using h3]
          rfl
section
variable {lx dl sio ds : Nat} {P : LP} {S : SP} {ln : Int} {tl tt tp : Tok} {p : Nat} {cs : List Nat} {k : SK} {sv : Value} {B : Heap} {outer : List Env}
theorem head_rt {g : Heap} {L : Addr} {ads : List (Addr × Obj)} {QF : Flow → Shared → Prop} (W : Wd w mean mg mb g) (F : Fr g L s.heap (fun y => [(Str.ofString "self", Value.ref lx)].reverse.lookup y)) (N : News g L s.heap ads)
    (ret : ∀ te h' tk, Fr g L h' (rtM lx false (Str.ofString " ") te none) → News g L h' ads → QF .next { s with heap := h', toks := tk }) : wpAny (md w) (AR dp un fr gd) (execs rtHead (rtE L)) QF E s := by
  have X := W.X
  have T := W.T
  w_on
  w_top on
  walk_at "my steps"
  all_goals (try dsimp only)
  exact ret _ _ _ (frEq (by assumption) (rtM_0 ..)) (by assumption)
theorem tail_rt {g : Heap} {L : Addr} {QF : Flow → Shared → Prop} {tok es : Str} {q : Bool} {te : Tok} {nc : Option Value} (W : Wd w mean mg mb g) (F : Fr g L s.heap (rtM lx q es te nc)) (N : News g L s.heap (L4 lx dl sio ds (lexO P sio sv ln tl tok tt) (sioO S cs p tp))) (hb : tok.length ≤ 200000)
    (n1 : lx ≠ dl) (n2 : lx ≠ sio) (n3 : lx ≠ ds) (n4 : dl ≠ sio) (n5 : dl ≠ ds) (n6 : sio ≠ ds)
    (ret : ∀ tt' v h' tk m, Fr g L h' m → News g L h' (L4 lx dl sio ds (lexO P sio sv ln tl eS tt') (sioO S cs p tp)) → WV v (rv P.b q tok) → QF (.ret v) { s with heap := h', toks := tk }) : wpAny (md w) (AR dp un fr gd) (execs rtTail (rtE L)) QF E s := by
  have X := W.X
  have T := W.T
  w_on
  w_top on
  walk_at "my steps"
  all_goals (try dsimp only)
  all_goals first
    | exact ret _ _ _ _ _ (by assumption) (by first | assumption | exact newsTail (by assumption)) (by simp (disch := with_reducible assumption) only [rv, eS, iteT, iteF]; first | exact WV.none | exact WV.some)
    | fail "end"
theorem rt_ct (W : Wd w mean mg mb (hideAll s.heap [lx, dl, sio, ds])) (K : Below (AR dp un fr gd) B outer (hideAll s.heap [lx, dl, sio, ds])) (hroom : dp + 4 < recursionLimit) (hp : p ≤ cs.length) (hc : cs.length ≤ 100000)
    (h4 : ∀ x ∈ L4 lx dl sio ds (lexO P sio sv ln tl eS tt) (sioO S cs p tp), s.heap.get? x.1 = some x.2)
    (n1 : lx ≠ dl) (n2 : lx ≠ sio) (n3 : lx ≠ ds) (n4 : dl ≠ sio) (n5 : dl ≠ ds) (n6 : sio ≠ ds) (h39 : notIn P.wc 39 = true) (h34 : notIn P.wc 34 = true)
    (hsv : SVv sv (stOf k)) (hk : k = .sp ∨ k = .no) (hk0 : k = .no → cs.drop p = [])
    (ret : ∀ k' tok' q' sv' tt' ln' tl' tp' (p' : Nat) v h' tk, (hideAll s.heap [lx, dl, sio, ds]).StaysIn h' → (∀ x ∈ L4 lx dl sio ds (lexO P sio sv' ln' tl' eS tt') (sioO S cs p' tp'), h'.get? x.1 = some x.2) →
      SVv sv' (stOf k') → rtP P.b k eS false (cs.drop p) = .ok tok' q' (match k' with | .no => true | _ => false) (cs.drop p') → (k' = .sp ∨ k' = .no) → (k' = .no → cs.drop p' = []) → p' ≤ cs.length → WV v (rv P.b q' tok') → Q v { s with heap := h', toks := tk })
    (retX : rtP P.b k eS false (cs.drop p) = .err → ∀ h' e tk, Fly B (hideAll s.heap [lx, dl, sio, ds]) outer e h' → E (.ref e) { s with heap := h', toks := tk }) :
    wpAny (md w) (AR dp un fr gd) (call (.ref 697) [.ref lx]) Q E s := by
  have X := W.X
  have T := W.T
  refine enterK (binds := [("self", .ref lx)]) (L4 lx dl sio ds (lexO P sio sv ln tl eS tt) (sioO S cs p tp)) W h4 (by k_is) (by k_is) (by show dp < _; omega) (BindsTo.of_eq rfl) (locs rfl) ?_ rfl rfl rfl (by decide)
  intro h₁ L hL F N
  dsimp only [ks, List.map] at F N
  rw [show bd697 = rtHead ++ (wlp.1 :: rtTail) from rfl]
  refine execsApp (head_rt W F N ?_)
  intro te h' tk F' N'
  dsimp only
  rw [execs_cons]
  refine wpAny_bind (loop_rt (s := { s with heap := h', toks := tk }) (hE := by passes_own) W (by show dp + 1 + 3 < _; omega) hc n1 n2 n3 n4 n5 n6 h39 h34 ⟨N', F', hp, hsv, ?_, hk0, fun _ => rfl, rfl, by rw [eS_len]; omega, rfl⟩ ?_ ?_)
  · rcases hk with rfl | rfl <;> exact trivial
  · intro k' tok' q' es' sv' tt' te' ln' tl' tp' nc' p' h' tk N F hlen hs hR hk' hk0' hp'
    dsimp only
    refine tail_rt (s := { s with heap := h', toks := tk }) W F N hlen n1 n2 n3 n4 n5 n6 ?_
    intro tt'' v h'' tk' m F'' N'' hv
    exact ret k' tok' q' sv' tt'' ln' tl' tp' p' v h'' tk' (Fr.keep F'') (fun x hx => (N'' x hx).1) hs hR hk' hk0' hp' hv
  · intro hR h₁ m₁ h' e tk F hx
    exact leaveNew K hx F (fun h'' fl => retX hR _ _ _ fl)
end
end
theorem rstR6 {w : World} {A : Around} {s : Shared} {Q : Bool → Shared → Prop} {E : Value → Shared → Prop} (h : wpAny (md w) A (truthy (.bool true)) Q E s) : wpAny (md w) A (truthy (.bool true)) Q E s := by
  first | (walk1; fail) | exact h
-- R6
theorem fillR6 : Fill PySem.Challenge.rw_oc0205_01 kx := by
  k_fill
  exact True.intro
section
variable {w : World} {mean : ExcName → Option Value} {mg mb : Str → Option Value} {dp un : Nat} {fr : Option (List Env)} {gd : Option (List Code)} {s : Shared} {Q E : Value → Shared → Prop}
theorem back4L {g h h' : Heap} {L lx dl sio ds : Addr} {o1 o2 o3 o4 o2' o4' : Obj} (N : News g L h [(lx, o1), (dl, o2), (sio, o3), (ds, o4)]) (st : (hideAll h [lx, dl, sio, ds]).StaysIn h') (h4 : ∀ x ∈ [(lx, o1), (dl, o2'), (sio, o3), (ds, o4')], h'.get? x.1 = some x.2) : News g L h' [(lx, o1), (dl, o2'), (sio, o3), (ds, o4')] := by
  have z := newsBack (ads := [(lx, o1), (dl, o2), (sio, o3), (ds, o4)]) (ads' := [(lx, o1), (dl, o2'), (sio, o3), (ds, o4')]) (rest := []) N (fun _ h => h) st rfl h4 (fun _ h => nomatch h)
  rwa [List.append_nil] at z
theorem frBack4 {g h h' : Heap} {L lx dl sio ds : Addr} {o1 o2 o3 o4 : Obj} {m : Str → Option Value} (F : Fr g L h m) (N : News g L h [(lx, o1), (dl, o2), (sio, o3), (ds, o4)]) (st : (hideAll h [lx, dl, sio, ds]).StaysIn h') : Fr g L h' m :=
  frBack (ads := [(lx, o1), (dl, o2), (sio, o3), (ds, o4)]) F N (fun _ h => h) st
theorem wd4 {g h : Heap} {L lx dl sio ds : Addr} {o1 o2 o3 o4 : Obj} {m : Str → Option Value} (W : Wd w mean mg mb g) (F : Fr g L h m) (N : News g L h [(lx, o1), (dl, o2), (sio, o3), (ds, o4)]) : Wd w mean mg mb (hideAll h [lx, dl, sio, ds]) :=
  wdHide (ads := [(lx, o1), (dl, o2), (sio, o3), (ds, o4)]) W F N (fun _ h => h)
theorem below4 {A : Around} {B g h : Heap} {outer : List Env} {L lx dl sio ds a : Addr} {o1 o2 o3 o4 : Obj} {m : Str → Option Value} {name : Str} {scope : Scope} {cd : Value} (K : Below A B outer g) (F : Fr g L h m) (N : News g L h [(lx, o1), (dl, o2), (sio, o3), (ds, o4)]) (hk : scope.kind = .function := by rfl) :
    Below (A.deeper (envOf name scope L a cd)) B (envOf name scope L a cd :: outer) (hideAll h [lx, dl, sio, ds]) :=
  belowHide (ads := [(lx, o1), (dl, o2), (sio, o3), (ds, o4)]) K F N (fun _ h => h) hk
theorem none4 {g h : Heap} {L lx dl sio ds : Addr} {o1 o2 o3 o4 : Obj} (N : News g L h [(lx, o1), (dl, o2), (sio, o3), (ds, o4)]) : ∀ b ∈ [lx, dl, sio, ds], g.get? b = none := by
  intro b hb
  simp only [List.mem_cons, List.not_mem_nil, or_false] at hb
  rcases hb with rfl | rfl | rfl | rfl
  · exact (N _ (.head _)).2.2
  · exact (N _ (.tail _ (.head _))).2.2
  · exact (N _ (.tail _ (.tail _ (.head _)))).2.2
  · exact (N _ (.tail _ (.tail _ (.tail _ (.head _))))).2.2
local macro_rules | `(tactic| walk_at "truthy ref") => `(tactic| ((with_reducible rename Fr _ _ _ _ => kF); refine dq_truthy (Fr.keep kF _ _ (by assumption)) ?_))
local macro_rules | `(tactic| walk_at "call ref") => `(tactic| (
  (with_reducible show wpAny _ _ (call (Value.ref 697) _) _ _ _);
  (with_reducible rename Fr _ _ _ _ => kF); (with_reducible rename News _ _ _ _ => kN);
  refine' rt_ct ?k1 ?k2 ?k3 ?k4 ?k5 ?k6 ?k7 ?k8 ?k9 ?k10 ?k11 ?k12 ?k13 ?k14 ?k15 ?k16 ?k17 ?kR ?kX;
  (case k6 => exact fun x hx => (kN x hx).1);
  (case k1 => exact wd4 (by assumption) kF kN); (case k2 => ((with_reducible rename Below _ _ _ _ => kK); refine' below4 kK kF kN ?hk0; (case hk0 => exact rfl))); (case k3 => (show _ + 4 < _; omega));
  (case k4 => assumption); (case k5 => assumption); (case k7 => assumption); (case k8 => assumption); (case k9 => assumption); (case k10 => assumption); (case k11 => assumption); (case k12 => assumption); (case k13 => assumption); (case k14 => assumption); (case k15 => assumption); (case k16 => assumption); (case k17 => assumption);
  (case' kR => (intro k' tok' q' sv' tt' ln' tl' tp' p' v' h' tk' st' h4' hs' hR' hk' hz' hp' hv'; (have kF' := frBack4 kF kN st'); (have kN' := back4L kN st' h4'); clear kF kN; try dsimp only));
  (case' kX => (intro hR' h' e' tk' fl'; try dsimp only))))
theorem while_one {env : Env} {A : Around} {QF : Flow → Shared → Prop} {test : Expr} {body : List Stmt} {pos : Pos} (hE : PassesOwn (md w) A env E)
    (h : wpAny (md w) A (isTrue test env (eval test env)) (fun b s₂ => if b then wpAny (md w) A (execs body env) (fun f s₃ => match f with | .ret v => QF (.ret v) s₃ | .brk => QF .next s₃ | _ => False) E s₂ else QF .next s₂) E s) :
    wpAny (md w) A (exec (.While test body [] pos) env) QF E s := by
  refine wpAny_While (codeAny_whileLoop (fun n s' => s' = s) ?_ 0 rfl)
  rintro n s' rfl
  refine wpAny_mono h (fun b s₂ h₂ => ?_) hE
  cases b with
  | true =>
    rw [if_pos rfl] at h₂ ⊢
    refine wpAny_mono h₂ (fun f s₃ h₃ => ?_) hE
    cases f with
    | next => exact h₃.elim
    | cont => exact h₃.elim
    | brk => exact h₃
    | ret v => exact h₃
  | false =>
    rw [if_neg Bool.false_ne_true] at h₂ ⊢
    exact wpAny_execs_nil h₂
@[reducible] noncomputable def gtTailP : PSigma fun b : List Stmt => bd690.drop 4 = b := by
  refine ⟨?b, ?h⟩
  case h => (conv => lhs; whnf)
@[reducible] noncomputable def gtTail : List Stmt := gtTailP.1
@[reducible] noncomputable def gtWp : PSigma fun st : Stmt => (bd690[3]?).getD (.Pass default) = st := by
  refine ⟨?b, ?h⟩
  case h => (conv => lhs; whnf)
@[reducible] noncomputable def gh0p : PSigma fun st : Stmt => (bd690[0]?).getD (.Pass default) = st := by
  refine ⟨?b, ?h⟩
  case h => (conv => lhs; whnf)
@[reducible] noncomputable def gh1p : PSigma fun st : Stmt => (bd690[1]?).getD (.Pass default) = st := by
  refine ⟨?b, ?h⟩
  case h => (conv => lhs; whnf)
@[reducible] noncomputable def gh2p : PSigma fun st : Stmt => (bd690[2]?).getD (.Pass default) = st := by
  refine ⟨?b, ?h⟩
  case h => (conv => lhs; whnf)
@[reducible] noncomputable def gtHead : List Stmt := [gh0p.1, gh1p.1, gh2p.1]
theorem bd690_eq : bd690 = gtHead ++ (gtWp.1 :: gtTail) := rfl
noncomputable abbrev gtE (L : Addr) : Env := envOf (Str.ofString "shlex.get_token") sc690 L 690 (.ref 689)
noncomputable abbrev gtM (lx : Addr) (v : Value) : Str → Option Value := fun y => if y = Str.ofString "raw" then some v else [(Str.ofString "self", Value.ref lx)].reverse.lookup y
section
variable {lx dl sio ds : Nat} {P : LP} {S : SP} {ln : Int} {tl tt tp : Tok} {p : Nat} {cs : List Nat} {k : SK} {sv : Value} {B : Heap} {outer : List Env}
theorem head_gt {g : Heap} {L : Addr} {QF : Flow → Shared → Prop} (W : Wd w mean mg mb g) (K : Below (AR dp un fr gd) B outer g) (hroom : dp + 5 < recursionLimit) (hp : p ≤ cs.length) (hc : cs.length ≤ 100000)
    (F : Fr g L s.heap (fun y => [(Str.ofString "self", Value.ref lx)].reverse.lookup y)) (N : News g L s.heap (L4 lx dl sio ds (lexO P sio sv ln tl eS tt) (sioO S cs p tp)))
    (n1 : lx ≠ dl) (n2 : lx ≠ sio) (n3 : lx ≠ ds) (n4 : dl ≠ sio) (n5 : dl ≠ ds) (n6 : sio ≠ ds) (h39 : notIn P.wc 39 = true) (h34 : notIn P.wc 34 = true)
    (hsv : SVv sv (stOf k)) (hk : k = .sp ∨ k = .no) (hk0 : k = .no → cs.drop p = [])
    (hpb : g.get? P.pb = some dqObj)
    (ret : ∀ k' tok' q' sv' tt' ln' tl' tp' (p' : Nat) v h' tk, Fr g L h' (gtM lx v) → News g L h' (L4 lx dl sio ds (lexO P sio sv' ln' tl' eS tt') (sioO S cs p' tp')) →
      SVv sv' (stOf k') → rtP P.b k eS false (cs.drop p) = .ok tok' q' (match k' with | .no => true | _ => false) (cs.drop p') → (k' = .sp ∨ k' = .no) → (k' = .no → cs.drop p' = []) → p' ≤ cs.length → WV v (rv P.b q' tok') → QF .next { s with heap := h', toks := tk })
    (retX : rtP P.b k eS false (cs.drop p) = .err → ∀ h₁ m₁ h' e tk, Fr g L h₁ m₁ → Fly B (hideAll h₁ [lx, dl, sio, ds]) (gtE L :: outer) e h' → E (.ref e) { s with heap := h', toks := tk }) :
    wpAny (md w) ((AR dp un fr gd).deeper (gtE L)) (execs gtHead (gtE L)) QF E s := by
  have X := W.X
  have T := W.T
  w_on
  w_top on
  walk_at "my steps"
  all_goals (try dsimp only)
  all_goals first
    | exact retX (by assumption) _ _ _ _ _ (by assumption) (by assumption)
    | exact ret _ _ _ _ _ _ _ _ _ _ _ _ (by assumption) (by assumption) (by assumption) (by assumption) (by assumption) (by assumption) (by assumption) (by assumption)
    | (trace_state; fail "end")
theorem while_gt {g : Heap} {L : Addr} {QF : Flow → Shared → Prop} {v : Value} {o : Option Str} (W : Wd w mean mg mb g) (hE : PassesOwn (md w) ((AR dp un fr gd).deeper (gtE L)) (gtE L) E)
    (F : Fr g L s.heap (gtM lx v)) (N : News g L s.heap (L4 lx dl sio ds (lexO P sio sv ln tl eS tt) (sioO S cs p tp)))
    (n1 : lx ≠ dl) (n2 : lx ≠ sio) (n3 : lx ≠ ds) (n4 : dl ≠ sio) (n5 : dl ≠ ds) (n6 : sio ≠ ds)
    (hfs : g.get? P.fs = some dqObj) (heof : WV P.eof (if P.b then none else some eS)) (hv : WV v o) (ho : o = none → P.b = true)
    (ret : ∀ v' h' tk, WV v' o → News g L h' (L4 lx dl sio ds (lexO P sio sv ln tl eS tt) (sioO S cs p tp)) → Fr g L h' (gtM lx v) → QF (.ret v') { s with heap := h', toks := tk })
    (next : ∀ h' tk, News g L h' (L4 lx dl sio ds (lexO P sio sv ln tl eS tt) (sioO S cs p tp)) → Fr g L h' (gtM lx v) → QF .next { s with heap := h', toks := tk }) :
    wpAny (md w) ((AR dp un fr gd).deeper (gtE L)) (exec gtWp.1 (gtE L)) QF E s := by
  have X := W.X
  have T := W.T
  refine while_one hE ?_
  obtain ⟨hs, kt, b, eof, wc, tcm, tw, tws, twq, tqe, tqq, tdb, tpc, pb, fs⟩ := P
  dsimp only at heof hfs ho
  cases b
  · obtain ⟨te⟩ := heof
    cases hv with
    | none => exact absurd (ho rfl) Bool.false_ne_true
    | some =>
      w_on
      w_top on
      walk_at "my steps"
      all_goals (try dsimp only)
      · refine ret _ _ _ ?_ (by assumption) (by assumption)
        rename _ = true => hz
        rw [beq_iff_eq.mp hz]; exact WV.some
      · exact next _ _ (by assumption) (by assumption)
  · obtain ⟨⟩ := heof
    cases hv with
    | none =>
      w_on
      w_top on
      walk_at "my steps"
      all_goals (try dsimp only)
      exact ret _ _ _ WV.none (by assumption) (by assumption)
    | some =>
      w_on
      w_top on
      walk_at "my steps"
      all_goals (try dsimp only)
      exact next _ _ (by assumption) (by assumption)
theorem tail_gt {g : Heap} {L : Addr} {QF : Flow → Shared → Prop} {v : Value} (W : Wd w mean mg mb g)
    (F : Fr g L s.heap (gtM lx v)) (N : News g L s.heap (L4 lx dl sio ds (lexO P sio sv ln tl eS tt) (sioO S cs p tp)))
    (n1 : lx ≠ dl) (n2 : lx ≠ sio) (n3 : lx ≠ ds) (n4 : dl ≠ sio) (n5 : dl ≠ ds) (n6 : sio ≠ ds)
    (ret : ∀ h' tk, News g L h' (L4 lx dl sio ds (lexO P sio sv ln tl eS tt) (sioO S cs p tp)) → Fr g L h' (gtM lx v) → QF (.ret v) { s with heap := h', toks := tk }) :
    wpAny (md w) ((AR dp un fr gd).deeper (gtE L)) (execs gtTail (gtE L)) QF E s := by
  have X := W.X
  have T := W.T
  w_on
  w_top on
  walk_at "my steps"
  all_goals (try dsimp only)
  all_goals exact ret _ _ (by assumption) (by assumption)
theorem rv_none {b q : Bool} {tok : Str} (h : rv b q tok = none) : b = true := by
  cases b
  · cases h
  · rfl
theorem gt_ct (W : Wd w mean mg mb (hideAll s.heap [lx, dl, sio, ds])) (K : Below (AR dp un fr gd) B outer (hideAll s.heap [lx, dl, sio, ds])) (hroom : dp + 5 < recursionLimit) (hp : p ≤ cs.length) (hc : cs.length ≤ 100000)
    (h4 : ∀ x ∈ L4 lx dl sio ds (lexO P sio sv ln tl eS tt) (sioO S cs p tp), s.heap.get? x.1 = some x.2)
    (n1 : lx ≠ dl) (n2 : lx ≠ sio) (n3 : lx ≠ ds) (n4 : dl ≠ sio) (n5 : dl ≠ ds) (n6 : sio ≠ ds) (h39 : notIn P.wc 39 = true) (h34 : notIn P.wc 34 = true)
    (hsv : SVv sv (stOf k)) (hk : k = .sp ∨ k = .no) (hk0 : k = .no → cs.drop p = [])
    (hpb : (hideAll s.heap [lx, dl, sio, ds]).get? P.pb = some dqObj) (hfs : (hideAll s.heap [lx, dl, sio, ds]).get? P.fs = some dqObj) (heof : WV P.eof (if P.b then none else some eS))
    (ret : ∀ k' tok' q' sv' tt' ln' tl' tp' (p' : Nat) v h' tk, (hideAll s.heap [lx, dl, sio, ds]).StaysIn h' → (∀ x ∈ L4 lx dl sio ds (lexO P sio sv' ln' tl' eS tt') (sioO S cs p' tp'), h'.get? x.1 = some x.2) →
      SVv sv' (stOf k') → rtP P.b k eS false (cs.drop p) = .ok tok' q' (match k' with | .no => true | _ => false) (cs.drop p') → (k' = .sp ∨ k' = .no) → (k' = .no → cs.drop p' = []) → p' ≤ cs.length → WV v (rv P.b q' tok') → Q v { s with heap := h', toks := tk })
    (retX : rtP P.b k eS false (cs.drop p) = .err → ∀ h' e tk, Fly B (hideAll s.heap [lx, dl, sio, ds]) outer e h' → E (.ref e) { s with heap := h', toks := tk }) :
    wpAny (md w) (AR dp un fr gd) (call (.ref 690) [.ref lx]) Q E s := by
  have X := W.X
  have T := W.T
  refine enterK (binds := [("self", .ref lx)]) (L4 lx dl sio ds (lexO P sio sv ln tl eS tt) (sioO S cs p tp)) W h4 (by k_is) (by k_is) (by show dp < _; omega) (BindsTo.of_eq rfl) (locs rfl) ?_ rfl rfl rfl (by decide)
  intro h₁ L hL F N
  dsimp only [ks, List.map] at F N
  rw [bd690_eq]
  refine execsApp (head_gt (s := { s with heap := h₁, toks := s.toks + [((Str.ofString "self", Value.ref lx) : Str × Value)].length }) (k := k) W K hroom hp hc F N n1 n2 n3 n4 n5 n6 h39 h34 hsv hk hk0 hpb ?_ ?_)
  · intro k' tok' q' sv' tt' ln' tl' tp' p' v h' tk F' N' hs' hR' hk' hz' hp' hv'
    dsimp only
    rw [execs_cons]
    refine wpAny_bind (while_gt (s := { s with heap := h', toks := tk }) (P := P) W (by passes_own) F' N' n1 n2 n3 n4 n5 n6 hfs heof hv' rv_none ?_ ?_)
    · intro v' h'' tk' hv'' N'' F''
      exact wpAny_pure (ret k' tok' q' sv' tt' ln' tl' tp' p' v' h'' tk' (Fr.keep F'') (fun x hx => (N'' x hx).1) hs' hR' hk' hz' hp' hv'')
    · intro h'' tk' N'' F''
      refine tail_gt (s := { s with heap := h'', toks := tk' }) W F'' N'' n1 n2 n3 n4 n5 n6 ?_
      intro h3 tk'' N3 F3
      exact ret k' tok' q' sv' tt' ln' tl' tp' p' v h3 tk'' (Fr.keep F3) (fun x hx => (N3 x hx).1) hs' hR' hk' hz' hp' hv'
  · intro hR h₁ m₁ h' e tk F' fl
    exact leaveOn K F' fl (none4 N) (fun h'' fl' => retX hR _ _ _ fl')
end
end
theorem rstR7 {w : World} {A : Around} {s : Shared} {Q : Bool → Shared → Prop} {E : Value → Shared → Prop} (h : wpAny (md w) A (truthy (.bool true)) Q E s) : wpAny (md w) A (truthy (.bool true)) Q E s := by
  first | (walk1; fail) | exact h
-- R7
theorem fillR7 : Fill PySem.Challenge.rw_oc0205_01 kx := by
  k_fill
  exact True.intro
section
variable {w : World} {mean : ExcName → Option Value} {mg mb : Str → Option Value} {dp un : Nat} {fr : Option (List Env)} {gd : Option (List Code)} {s : Shared} {Q E : Value → Shared → Prop}
theorem hide4 {g h : Heap} {L lx dl sio ds a : Addr} {o o1 o2 o3 o4 : Obj} {m : Str → Option Value} (F : Fr g L h m) (N : News g L h [(lx, o1), (dl, o2), (sio, o3), (ds, o4)]) (e : g.get? a = some o) : (hideAll h [lx, dl, sio, ds]).get? a = some o :=
  hideAll_get _ (F.keep _ _ e) fun hm => by rw [none4 N a hm] at e; cases e
local macro_rules | `(tactic| walk_at "call ref") => `(tactic| (
  (with_reducible show wpAny _ _ (call (Value.ref 690) _) _ _ _);
  (with_reducible rename Fr _ _ _ _ => kF); (with_reducible rename News _ _ _ _ => kN);
  refine' gt_ct ?k1 ?k2 ?k3 ?k4 ?k5 ?k6 ?k7 ?k8 ?k9 ?k10 ?k11 ?k12 ?k13 ?k14 ?k15 ?k16 ?k17 ?k18 ?k19 ?k20 ?kR ?kX;
  (case k6 => exact fun x hx => (kN x hx).1);
  (case k1 => exact wd4 (by assumption) kF kN); (case k2 => ((with_reducible rename Below _ _ _ _ => kK); refine' below4 kK kF kN ?hk0; (case hk0 => exact rfl))); (case k3 => (show _ + 5 < _; omega));
  (case k4 => assumption); (case k5 => assumption); (case k7 => assumption); (case k8 => assumption); (case k9 => assumption); (case k10 => assumption); (case k11 => assumption); (case k12 => assumption); (case k13 => assumption); (case k14 => assumption); (case k15 => assumption); (case k16 => assumption); (case k17 => assumption);
  (case k18 => exact hide4 kF kN (by assumption)); (case k19 => exact hide4 kF kN (by assumption)); (case k20 => assumption);
  (case' kR => (intro k' tok' q' sv' tt' ln' tl' tp' p' v' h' tk' st' h4' hs' hR' hk' hz' hp' hv'; (have kF' := frBack4 kF kN st'); (have kN' := back4L kN st' h4'); clear kF kN; try dsimp only));
  (case' kX => (intro hR' h' e' tk' fl'; try dsimp only))))
@[reducible] noncomputable def nx0p : PSigma fun st : Stmt => (bd726[0]?).getD (.Pass default) = st := by
  refine ⟨?b, ?h⟩
  case h => (conv => lhs; whnf)
@[reducible] noncomputable def nxTailP : PSigma fun b : List Stmt => bd726.drop 1 = b := by
  refine ⟨?b, ?h⟩
  case h => (conv => lhs; whnf)
@[reducible] noncomputable def nxHead : List Stmt := [nx0p.1]
@[reducible] noncomputable def nxTail : List Stmt := nxTailP.1
theorem bd726_eq : bd726 = nxHead ++ nxTail := rfl
noncomputable abbrev nxE (L : Addr) : Env := envOf (Str.ofString "shlex.__next__") sc726 L 726 (.ref 725)
noncomputable abbrev nxM (lx : Addr) (v : Value) : Str → Option Value := fun y => if y = Str.ofString "token" then some v else [(Str.ofString "self", Value.ref lx)].reverse.lookup y
section
variable {lx dl sio ds : Nat} {P : LP} {S : SP} {ln : Int} {tl tt tp : Tok} {p : Nat} {cs : List Nat} {k : SK} {sv : Value} {B : Heap} {outer : List Env}
theorem head_nx {g : Heap} {L : Addr} {QF : Flow → Shared → Prop} (W : Wd w mean mg mb g) (K : Below (AR dp un fr gd) B outer g) (hroom : dp + 6 < recursionLimit) (hp : p ≤ cs.length) (hc : cs.length ≤ 100000)
    (F : Fr g L s.heap (fun y => [(Str.ofString "self", Value.ref lx)].reverse.lookup y)) (N : News g L s.heap (L4 lx dl sio ds (lexO P sio sv ln tl eS tt) (sioO S cs p tp)))
    (n1 : lx ≠ dl) (n2 : lx ≠ sio) (n3 : lx ≠ ds) (n4 : dl ≠ sio) (n5 : dl ≠ ds) (n6 : sio ≠ ds) (h39 : notIn P.wc 39 = true) (h34 : notIn P.wc 34 = true)
    (hsv : SVv sv (stOf k)) (hk : k = .sp ∨ k = .no) (hk0 : k = .no → cs.drop p = [])
    (hpb : g.get? P.pb = some dqObj) (hfs : g.get? P.fs = some dqObj) (heof : WV P.eof (if P.b then none else some eS))
    (ret : ∀ k' tok' q' sv' tt' ln' tl' tp' (p' : Nat) v h' tk, Fr g L h' (nxM lx v) → News g L h' (L4 lx dl sio ds (lexO P sio sv' ln' tl' eS tt') (sioO S cs p' tp')) →
      SVv sv' (stOf k') → rtP P.b k eS false (cs.drop p) = .ok tok' q' (match k' with | .no => true | _ => false) (cs.drop p') → (k' = .sp ∨ k' = .no) → (k' = .no → cs.drop p' = []) → p' ≤ cs.length → WV v (rv P.b q' tok') → QF .next { s with heap := h', toks := tk })
    (retX : rtP P.b k eS false (cs.drop p) = .err → ∀ h₁ m₁ h' e tk, Fr g L h₁ m₁ → Fly B (hideAll h₁ [lx, dl, sio, ds]) (nxE L :: outer) e h' → E (.ref e) { s with heap := h', toks := tk }) :
    wpAny (md w) ((AR dp un fr gd).deeper (nxE L)) (execs nxHead (nxE L)) QF E s := by
  have X := W.X
  have T := W.T
  w_on
  w_top on
  walk_at "my steps"
  all_goals (try dsimp only)
  all_goals first
    | exact retX (by assumption) _ _ _ _ _ (by assumption) (by assumption)
    | exact ret _ _ _ _ _ _ _ _ _ _ _ _ (by assumption) (by assumption) (by assumption) (by assumption) (by assumption) (by assumption) (by assumption) (by assumption)
    | (trace_state; fail "end")
/-- is the value what stands for the end -/
noncomputable def isEnd (b : Bool) (o : Option Str) : Bool := match o with | none => true | some x => !b && x == eS
theorem tail_nx {g : Heap} {L : Addr} {QF : Flow → Shared → Prop} {v : Value} {o : Option Str} (W : Wd w mean mg mb g)
    (F : Fr g L s.heap (nxM lx v)) (N : News g L s.heap (L4 lx dl sio ds (lexO P sio sv ln tl eS tt) (sioO S cs p tp)))
    (n1 : lx ≠ dl) (n2 : lx ≠ sio) (n3 : lx ≠ ds) (n4 : dl ≠ sio) (n5 : dl ≠ ds) (n6 : sio ≠ ds)
    (heof : WV P.eof (if P.b then none else some eS)) (hv : WV v o) (ho : o = none → P.b = true)
    (ret : ∀ x t h' tk, isEnd P.b o = false → o = some x → v = .str x t → News g L h' (L4 lx dl sio ds (lexO P sio sv ln tl eS tt) (sioO S cs p tp)) → Fr g L h' (nxM lx v) → QF (.ret v) { s with heap := h', toks := tk })
    (stop : isEnd P.b o = true → ∀ h₁ m₁ h' e tk, Fr g L h₁ m₁ → Heap.NewExc h₁ h' e "StopIteration" → E (.ref e) { s with heap := h', toks := tk }) :
    wpAny (md w) ((AR dp un fr gd).deeper (nxE L)) (execs nxTail (nxE L)) QF E s := by
  have X := W.X
  have T := W.T
  obtain ⟨hs, kt, b, eof, wc, tcm, tw, tws, twq, tqe, tqq, tdb, tpc, pb, fs⟩ := P
  dsimp only at heof ho
  cases b
  · obtain ⟨te⟩ := heof
    cases hv with
    | none => exact absurd (ho rfl) Bool.false_ne_true
    | some =>
      w_on
      w_top on
      walk_at "my steps"
      all_goals (try dsimp only)
      · exact stop (by simp only [isEnd, Bool.not_false, Bool.true_and]; assumption) _ _ _ _ _ (by assumption) (Heap.MadeExc.newExc (by assumption))
      · exact ret _ _ _ _ (by simp only [isEnd, Bool.not_false, Bool.true_and]; assumption) rfl rfl (by assumption) (by assumption)
  · obtain ⟨⟩ := heof
    cases hv with
    | none =>
      w_on
      w_top on
      walk_at "my steps"
      all_goals (try dsimp only)
      exact stop rfl _ _ _ _ _ (by assumption) (Heap.MadeExc.newExc (by assumption))
    | some =>
      w_on
      w_top on
      walk_at "my steps"
      all_goals (try dsimp only)
      exact ret _ _ _ _ rfl rfl rfl (by assumption) (by assumption)
/-- what a call of __next__ comes to -/
theorem nx_ct (W : Wd w mean mg mb (hideAll s.heap [lx, dl, sio, ds])) (K : Below (AR dp un fr gd) B outer (hideAll s.heap [lx, dl, sio, ds])) (hroom : dp + 6 < recursionLimit) (hp : p ≤ cs.length) (hc : cs.length ≤ 100000)
    (h4 : ∀ x ∈ L4 lx dl sio ds (lexO P sio sv ln tl eS tt) (sioO S cs p tp), s.heap.get? x.1 = some x.2)
    (n1 : lx ≠ dl) (n2 : lx ≠ sio) (n3 : lx ≠ ds) (n4 : dl ≠ sio) (n5 : dl ≠ ds) (n6 : sio ≠ ds) (h39 : notIn P.wc 39 = true) (h34 : notIn P.wc 34 = true)
    (hsv : SVv sv (stOf k)) (hk : k = .sp ∨ k = .no) (hk0 : k = .no → cs.drop p = [])
    (hpb : (hideAll s.heap [lx, dl, sio, ds]).get? P.pb = some dqObj) (hfs : (hideAll s.heap [lx, dl, sio, ds]).get? P.fs = some dqObj) (heof : WV P.eof (if P.b then none else some eS))
    (ret : ∀ k' tok' q' sv' tt' ln' tl' tp' (p' : Nat) x t h' tk, (hideAll s.heap [lx, dl, sio, ds]).StaysIn h' → (∀ x ∈ L4 lx dl sio ds (lexO P sio sv' ln' tl' eS tt') (sioO S cs p' tp'), h'.get? x.1 = some x.2) →
      SVv sv' (stOf k') → rtP P.b k eS false (cs.drop p) = .ok tok' q' (match k' with | .no => true | _ => false) (cs.drop p') → (k' = .sp ∨ k' = .no) → (k' = .no → cs.drop p' = []) → p' ≤ cs.length → rv P.b q' tok' = some x → isEnd P.b (some x) = false → Q (.str x t) { s with heap := h', toks := tk })
    (stop : ∀ tok' q' f r, rtP P.b k eS false (cs.drop p) = .ok tok' q' f r → isEnd P.b (rv P.b q' tok') = true → ∀ h' e tk, FlyX "StopIteration" B (hideAll s.heap [lx, dl, sio, ds]) outer e h' → E (.ref e) { s with heap := h', toks := tk })
    (retX : rtP P.b k eS false (cs.drop p) = .err → ∀ h' e tk, Fly B (hideAll s.heap [lx, dl, sio, ds]) outer e h' → E (.ref e) { s with heap := h', toks := tk }) :
    wpAny (md w) (AR dp un fr gd) (call (.ref 726) [.ref lx]) Q E s := by
  have X := W.X
  have T := W.T
  refine enterK (binds := [("self", .ref lx)]) (L4 lx dl sio ds (lexO P sio sv ln tl eS tt) (sioO S cs p tp)) W h4 (by k_is) (by k_is) (by show dp < _; omega) (BindsTo.of_eq rfl) (locs rfl) ?_ rfl rfl rfl (by decide)
  intro h₁ L hL F N
  dsimp only [ks, List.map] at F N
  rw [bd726_eq]
  refine execsApp (head_nx (s := { s with heap := h₁, toks := s.toks + [((Str.ofString "self", Value.ref lx) : Str × Value)].length }) (k := k) W K hroom hp hc F N n1 n2 n3 n4 n5 n6 h39 h34 hsv hk hk0 hpb hfs heof ?_ ?_)
  · intro k' tok' q' sv' tt' ln' tl' tp' p' v h' tk F' N' hs' hR' hk' hz' hp' hv'
    dsimp only
    refine tail_nx (s := { s with heap := h', toks := tk }) (P := P) W F' N' n1 n2 n3 n4 n5 n6 heof hv' rv_none ?_ ?_
    · intro x t h'' tk' hi hx hv'' N'' F''
      subst hv''
      exact ret k' tok' q' sv' tt' ln' tl' tp' p' x t h'' tk' (Fr.keep F'') (fun x hx => (N'' x hx).1) hs' hR' hk' hz' hp' hx (by rw [hx] at hi; exact hi)
    · intro hi h₂ m₂ h'' e tk' F₂ hx
      exact leaveNew K hx F₂ (fun h3 fl => stop _ _ _ _ hR' hi _ _ _ fl)
  · intro hR h₁ m₁ h' e tk F' fl
    exact leaveOn K F' fl (none4 N) (fun h'' fl' => retX hR _ _ _ fl')
theorem iter_ct {a : Addr} (W : Wd w mean mg mb s.heap) (hroom : dp < recursionLimit) (ret : ∀ h' tk, s.heap.StaysIn h' → Q (.ref a) { s with heap := h', toks := tk }) :
    wpAny (md w) (AR dp un fr gd) (call (.ref 719) [.ref a]) Q E s := by
  have X := W.X
  have T := W.T
  refine enterA (binds := [("self", .ref a)]) W (by k_is) (by k_is) hroom (BindsTo.of_eq rfl) (locs rfl) ?_ rfl rfl rfl (by decide)
  intro h₁ L hL F N
  w_on
  w_top on
  walk_at "my steps"
  all_goals (try dsimp only)
  all_goals exact ret _ _ (Fr.keep (by assumption))
end
end
-- Pl
/-! the plain law: what split reads is what the law's own turns tell -/
noncomputable abbrev mG : Str := Str.ofString "gap"
noncomputable abbrev mW : Str := Str.ofString "word"
noncomputable abbrev mR : Str := Str.ofString "remark"
noncomputable abbrev mB : Str := Str.ofString "behind a backslash"
noncomputable abbrev mBM : Str := Str.ofString "behind a backslash in marks"
noncomputable def okM (m : Str) : Bool := m == mG || (m == mW || m == mR)
noncomputable def told (p : Bool) : St → List Nat → Option (List Str)
  | s, [] => if okM s.mode then some (ended s.word s.words) else none
  | s, c :: r => told p (turn p s c) r
theorem sgq (c d : Nat) (x : Str) (h : x = sg d) : (sg c == x) = (c == d) := by rw [h, sg_beq]
theorem s35 : Str.ofString "#" = sg 35 := by decide +kernel
theorem s10 : Str.ofString "\n" = sg 10 := by decide +kernel
theorem s92 : Str.ofString "\\" = sg 92 := by decide +kernel
theorem s34 : Str.ofString "\"" = sg 34 := by decide +kernel
theorem s39 : Str.ofString "'" = sg 39 := by decide +kernel
theorem notIn_mq (c : Nat) : notIn (Str.ofString "\"\\") c = !(c == 34 || c == 92) := by
  rw [notIn_mem, show (Str.ofString "\"\\").cps.toList = [34, 92] from by decide +kernel]
  simp [Bool.decide_or]
  rfl
theorem turn_gap (p : Bool) (ws : List Str) (c : Nat) : turn p ⟨mG, none, ws⟩ c = if c == 35 then ⟨mR, none, ws⟩ else if isWs c then ⟨mG, none, ws⟩ else if c == 39 || c == 34 then ⟨sg c, some (if p then sg c else eS), ws⟩ else if !p && c == 92 then ⟨mB, some eS, ws⟩ else ⟨mW, some (sg c), ws⟩ := by
  unfold turn turnM turnW
  simp only [show (mG == mR) = false from by decide +kernel, show (mG == mB) = false from by decide +kernel, show (mG == mBM) = false from by decide +kernel, show ([Str.ofString "'", Str.ofString "\""].any (fun x => x == mG)) = false from by decide +kernel, show (mG == mG) = true from by decide +kernel,
    Bool.false_eq_true, if_false, if_true, notIn_ws, notIn_qs, sgq c 35 _ s35, sgq c 92 _ s92, soFar, ended, emptyApp, Bool.not_eq_true']
  cases h1 : (c == 35) <;> cases h2 : isWs c <;> cases h3 : (c == 39 || c == 34) <;> cases h4 : (c == 92) <;> cases p <;> simp [eS]
theorem turn_word (p : Bool) (x : Str) (ws : List Str) (c : Nat) : turn p ⟨mW, some x, ws⟩ c = if c == 35 then (if p then ⟨mR, some x, ws⟩ else ⟨mR, none, ws ++ [x]⟩) else if isWs c then ⟨mG, none, ws ++ [x]⟩ else if !p && (c == 39 || c == 34) then ⟨sg c, some x, ws⟩ else if !p && c == 92 then ⟨mB, some x, ws⟩ else ⟨mW, some (x ++ sg c), ws⟩ := by
  unfold turn turnM turnW
  simp only [show (mW == mR) = false from by decide +kernel, show (mW == mB) = false from by decide +kernel, show (mW == mBM) = false from by decide +kernel, show ([Str.ofString "'", Str.ofString "\""].any (fun x => x == mW)) = false from by decide +kernel, show (mW == mG) = false from by decide +kernel,
    Bool.false_eq_true, if_false, if_true, notIn_ws, notIn_qs, sgq c 35 _ s35, sgq c 92 _ s92, soFar, ended, emptyApp, Bool.not_eq_true']
  cases h1 : (c == 35) <;> cases h2 : isWs c <;> cases h3 : (c == 39 || c == 34) <;> cases h4 : (c == 92) <;> cases p <;> simp [appEmpty]
theorem turn_bs (p : Bool) (x : Str) (ws : List Str) (c : Nat) : turn p ⟨mB, some x, ws⟩ c = ⟨mW, some (x ++ sg c), ws⟩ := by
  unfold turn
  simp only [show (mB == mR) = false from by decide +kernel, show (mB == mB) = true from by decide +kernel, Bool.false_eq_true, if_false, if_true, soFar]
theorem turn_bm (p : Bool) (x : Str) (ws : List Str) (c : Nat) : turn p ⟨mBM, some x, ws⟩ c = ⟨sg 34, some ((if c == 92 || c == 34 then x else x ++ sg 92) ++ sg c), ws⟩ := by
  unfold turn
  simp only [show (mBM == mR) = false from by decide +kernel, show (mBM == mB) = false from by decide +kernel, show (mBM == mBM) = true from by decide +kernel, Bool.false_eq_true, if_false, if_true, soFar, notIn_mq, s34, s92]
  cases h1 : (c == 34) <;> cases h2 : (c == 92) <;> simp [appEmpty]
theorem turn_q39 (p : Bool) (x : Str) (ws : List Str) (c : Nat) : turn p ⟨sg 39, some x, ws⟩ c = if c == 39 then (if p then ⟨mG, none, ws ++ [x ++ sg c]⟩ else ⟨mW, some x, ws⟩) else ⟨sg 39, some (x ++ sg c), ws⟩ := by
  unfold turn turnQ
  simp only [show (sg 39 == mR) = false from by decide +kernel, show (sg 39 == mB) = false from by decide +kernel, show (sg 39 == mBM) = false from by decide +kernel, show ([Str.ofString "'", Str.ofString "\""].any (fun x => x == sg 39)) = true from by decide +kernel, show (sg 39 == Str.ofString "\"") = false from by decide +kernel,
    Bool.false_eq_true, if_false, if_true, soFar, sgq c 92 _ s92, sg_bne]
  cases h1 : (c == 39) <;> cases h2 : (c == 92) <;> cases p <;> simp
theorem turn_q34 (p : Bool) (x : Str) (ws : List Str) (c : Nat) : turn p ⟨sg 34, some x, ws⟩ c = if c == 34 then (if p then ⟨mG, none, ws ++ [x ++ sg c]⟩ else ⟨mW, some x, ws⟩) else if !p && c == 92 then ⟨mBM, some x, ws⟩ else ⟨sg 34, some (x ++ sg c), ws⟩ := by
  unfold turn turnQ
  simp only [show (sg 34 == mR) = false from by decide +kernel, show (sg 34 == mB) = false from by decide +kernel, show (sg 34 == mBM) = false from by decide +kernel, show ([Str.ofString "'", Str.ofString "\""].any (fun x => x == sg 34)) = true from by decide +kernel, show (sg 34 == Str.ofString "\"") = true from by decide +kernel,
    Bool.false_eq_true, if_false, if_true, soFar, sgq c 92 _ s92, sg_bne]
  cases h1 : (c == 34)
  · cases h2 : (c == 92) <;> cases p <;> simp
  · obtain rfl := beq_iff_eq.mp h1
    cases p <;> simp
theorem turn_rem (p : Bool) (o : Option Str) (ws : List Str) (c : Nat) : turn p ⟨mR, o, ws⟩ c = if c = 10 then ⟨(match o with | none => mG | some _ => mW), o, ws⟩ else ⟨mR, o, ws⟩ := by
  unfold turn
  simp only [show (mR == mR) = true from by decide +kernel, if_true, sgq c 10 _ s10, beq_iff_eq]
  all_goals (cases o <;> rfl)
theorem told_rem (p : Bool) (o : Option Str) (ws : List Str) : ∀ r : List Nat, told p ⟨mR, o, ws⟩ r = told p ⟨(match o with | none => mG | some _ => mW), o, ws⟩ (dropLine r)
  | [] => by
    unfold dropLine
    cases o <;> rfl
  | c :: r => by
    rw [told, turn_rem]
    unfold dropLine
    by_cases h : c = 10
    · rw [if_pos h, if_pos h]
    · rw [if_neg h, if_neg h]
      exact told_rem p o ws r
/-- split's state and the law's -/
noncomputable def RelS (p : Bool) : SK → Str → Bool → St → Prop
  | .sp, tok, q, s => s.mode = mG ∧ s.word = none ∧ tok = eS ∧ q = false
  | .wd, tok, q, s => s.mode = mW ∧ s.word = some tok ∧ (tok ≠ eS ∨ (p = false ∧ q = true))
  | .q39, tok, _, s => s.mode = sg 39 ∧ s.word = some tok
  | .q34, tok, _, s => s.mode = sg 34 ∧ s.word = some tok
  | .ea, tok, _, s => s.mode = mB ∧ s.word = some tok ∧ p = false
  | .eq, tok, q, s => s.mode = mBM ∧ s.word = some tok ∧ p = false ∧ q = true
  | .no, _, _, _ => False
theorem sg_ne (c : Nat) : sg c ≠ eS := by
  intro h
  have := congrArg Str.length h
  rw [eS_len] at this; cases this
theorem app_ne (x : Str) (c : Nat) : x ++ sg c ≠ eS := by
  intro h
  have := congrArg Str.length h
  rw [eS_len, str_len_app, sg_len] at this; omega
/-- a turn: on, or a word is told and the gap is reached -/
noncomputable def StepOk (p : Bool) (ws : List Str) (r : List Nat) (t : St) (y : NX) : Prop :=
  (y.brk = false → ∃ s', told p t r = told p s' (if y.line then dropLine r else r) ∧ RelS p y.k y.tok y.q s' ∧ s'.words = ws) ∧
  (y.brk = true → told p t r = told p ⟨mG, none, ws ++ [y.tok]⟩ (if y.line then dropLine r else r) ∧ rv (!p) y.q y.tok = some y.tok ∧ isEnd (!p) (some y.tok) = false)
theorem stOn {p : Bool} {ws : List Str} {r : List Nat} {t : St} {k : SK} {tok : Str} {q : Bool} (h : RelS p k tok q t) (hw : t.words = ws) : StepOk p ws r t ⟨false, k, tok, q, false⟩ :=
  ⟨fun _ => ⟨t, rfl, h, hw⟩, fun e => nomatch e⟩
theorem stLine {p : Bool} {ws : List Str} {r : List Nat} {t s' : St} {k : SK} {tok : Str} {q : Bool} (e : told p t r = told p s' (dropLine r)) (h : RelS p k tok q s') (hw : s'.words = ws) : StepOk p ws r t ⟨false, k, tok, q, true⟩ :=
  ⟨fun _ => ⟨s', e, h, hw⟩, fun e => nomatch e⟩
theorem stBrk {p : Bool} {ws : List Str} {r : List Nat} {t : St} {k : SK} {tok : Str} {q b l : Bool} (hb : b = true) (e : told p t r = told p ⟨mG, none, ws ++ [tok]⟩ (if l then dropLine r else r)) (h1 : rv (!p) q tok = some tok) (h2 : isEnd (!p) (some tok) = false) : StepOk p ws r t ⟨b, k, tok, q, l⟩ :=
  ⟨fun e => (by subst hb; cases e), fun _ => ⟨e, h1, h2⟩⟩
theorem ws35 : isWs 35 = false := by decide
theorem rel_step {p : Bool} {k : SK} {tok : Str} {q : Bool} {s : St} {c : Nat} {r : List Nat} (h : RelS p k tok q s) : StepOk p s.words r (turn p s c) (nx (!p) k tok q c) := by
  obtain ⟨mode, wd, ws⟩ := s
  cases k with
  | no => exact h.elim
  | sp =>
    obtain ⟨h1, h2, h3, h4⟩ := h
    dsimp only at h1 h2
    subst h1 h2 h3 h4
    rw [turn_gap]
    simp only [nx]
    by_cases e1 : c = 35
    · subst e1
      simp only [ws35, beq_self_eq_true, if_true, if_false, Bool.false_eq_true]
      exact stLine (told_rem p none ws r) ⟨rfl, rfl, rfl, rfl⟩ rfl
    · have e1 : (c == 35) = false := by simpa using e1
      simp only [e1, if_false, Bool.false_eq_true]
      by_cases e2 : isWs c = true
      · simp only [e2, if_true, Bool.and_false]
        exact stOn ⟨rfl, rfl, rfl, rfl⟩ rfl
      · simp only [e2, if_false]
        by_cases e3 : c = 39
        · subst e3
          cases p
          · exact stOn (k := .q39) ⟨rfl, rfl⟩ rfl
          · exact stOn (k := .q39) ⟨rfl, rfl⟩ rfl
        · have e3 : (c == 39) = false := by simpa using e3
          by_cases e4 : c = 34
          · subst e4
            cases p
            · exact stOn (k := .q34) ⟨rfl, rfl⟩ rfl
            · exact stOn (k := .q34) ⟨rfl, rfl⟩ rfl
          · have e4 : (c == 34) = false := by simpa using e4
            simp only [e3, e4, Bool.or_false, if_false, Bool.false_eq_true]
            cases p
            · by_cases e5 : c = 92
              · subst e5
                exact stOn (k := .ea) ⟨rfl, rfl, rfl⟩ rfl
              · have e5 : (c == 92) = false := by simpa using e5
                simp only [e5, Bool.and_false, if_false, Bool.false_eq_true]
                exact stOn ⟨rfl, rfl, .inl (sg_ne c)⟩ rfl
            · simp only [Bool.not_true, Bool.false_and, if_false, Bool.false_eq_true]
              exact stOn ⟨rfl, rfl, .inl (sg_ne c)⟩ rfl
  | wd =>
    obtain ⟨h1, h2, h3⟩ := h
    dsimp only at h1 h2
    subst h1 h2
    have hb : ((tok != eS) || (!p && q)) = true := by
      rcases h3 with h3 | ⟨h3, h4⟩
      · simp [h3]
      · simp [h3, h4]
    have hv : rv (!p) q tok = some tok ∧ isEnd (!p) (some tok) = false := by
      unfold rv isEnd
      rcases h3 with h3 | ⟨h3, h4⟩
      · have : (tok == eS) = false := by simpa using h3
        cases p <;> cases q <;> simp [this]
      · subst h3 h4; simp
    rw [turn_word]
    simp only [nx]
    by_cases e1 : c = 35
    · subst e1
      simp only [ws35, beq_self_eq_true, if_true, if_false, Bool.false_eq_true]
      cases p
      · exact stBrk (by simpa using hb) (told_rem false none (ws ++ [tok]) r) hv.1 hv.2
      · exact stLine (told_rem true (some tok) ws r) ⟨rfl, rfl, h3⟩ rfl
    · have e1 : (c == 35) = false := by simpa using e1
      simp only [e1, if_false, Bool.false_eq_true]
      by_cases e2 : isWs c = true
      · simp only [e2, if_true]
        exact stBrk hb rfl hv.1 hv.2
      · simp only [e2, if_false]
        cases p
        · by_cases e3 : c = 39
          · subst e3
            exact stOn (k := .q39) ⟨rfl, rfl⟩ rfl
          · have e3 : (c == 39) = false := by simpa using e3
            by_cases e4 : c = 34
            · subst e4
              exact stOn (k := .q34) ⟨rfl, rfl⟩ rfl
            · have e4 : (c == 34) = false := by simpa using e4
              by_cases e5 : c = 92
              · subst e5
                exact stOn (k := .ea) ⟨rfl, rfl, rfl⟩ rfl
              · have e5 : (c == 92) = false := by simpa using e5
                simp only [e3, e4, e5, Bool.or_false, Bool.and_false, if_false, Bool.false_eq_true]
                exact stOn ⟨rfl, rfl, .inl (app_ne tok c)⟩ rfl
        · simp only [Bool.not_true, Bool.false_and, if_false, Bool.false_eq_true]
          exact stOn ⟨rfl, rfl, .inl (app_ne tok c)⟩ rfl
  | q39 =>
    obtain ⟨h1, h2⟩ := h
    dsimp only at h1 h2
    subst h1 h2
    rw [turn_q39]
    simp only [nx]
    by_cases e1 : c = 39
    · subst e1
      cases p
      · exact stOn (k := .wd) ⟨rfl, rfl, .inr ⟨rfl, rfl⟩⟩ rfl
      · exact stBrk rfl rfl rfl (by simp [isEnd, app_ne])
    · have e1 : (c == 39) = false := by simpa using e1
      simp only [e1, if_false, Bool.false_eq_true]
      exact stOn ⟨rfl, rfl⟩ rfl
  | q34 =>
    obtain ⟨h1, h2⟩ := h
    dsimp only at h1 h2
    subst h1 h2
    rw [turn_q34]
    simp only [nx]
    by_cases e1 : c = 34
    · subst e1
      cases p
      · exact stOn (k := .wd) ⟨rfl, rfl, .inr ⟨rfl, rfl⟩⟩ rfl
      · exact stBrk rfl rfl rfl (by simp [isEnd, app_ne])
    · have e1 : (c == 34) = false := by simpa using e1
      simp only [e1, if_false, Bool.false_eq_true]
      cases p
      · by_cases e5 : c = 92
        · subst e5
          exact stOn (k := .eq) ⟨rfl, rfl, rfl, rfl⟩ rfl
        · have e5 : (c == 92) = false := by simpa using e5
          simp only [e5, Bool.and_false, if_false, Bool.false_eq_true]
          exact stOn ⟨rfl, rfl⟩ rfl
      · simp only [Bool.not_true, Bool.false_and, if_false, Bool.false_eq_true]
        exact stOn ⟨rfl, rfl⟩ rfl
  | ea =>
    obtain ⟨h1, h2, h3⟩ := h
    dsimp only at h1 h2
    subst h1 h2 h3
    rw [turn_bs]
    exact stOn ⟨rfl, rfl, .inl (app_ne tok c)⟩ rfl
  | eq =>
    obtain ⟨h1, h2, h3, h4⟩ := h
    dsimp only at h1 h2
    subst h1 h2 h3 h4
    rw [turn_bm]
    exact stOn ⟨rfl, rfl⟩ rfl
/-- what a run of read_token from a state comes to -/
noncomputable def RunOk (p : Bool) (s : St) (rest : List Nat) : RTo → Prop
  | .err => told p s rest = none
  | .ok tok q _ r => (isEnd (!p) (rv (!p) q tok) = true ∧ told p s rest = some s.words) ∨ (rv (!p) q tok = some tok ∧ isEnd (!p) (some tok) = false ∧ told p s rest = told p ⟨mG, none, s.words ++ [tok]⟩ r ∧ (r.length < rest.length ∨ rest = []))
theorem run_nil (p : Bool) (k : SK) (tok : Str) (q : Bool) (s : St) (h : RelS p k tok q s) : RunOk p s [] (rtP (!p) k tok q []) := by
  obtain ⟨mode, wd, ws⟩ := s
  cases k with
  | no => exact h.elim
  | sp =>
    obtain ⟨h1, h2, h3, h4⟩ := h
    dsimp only at h1 h2
    subst h1 h2 h3 h4
    rw [rtP]
    cases p
    · exact .inl ⟨rfl, rfl⟩
    · exact .inl ⟨rfl, rfl⟩
  | wd =>
    obtain ⟨h1, h2, h3⟩ := h
    dsimp only at h1 h2
    subst h1 h2
    rw [rtP]
    refine .inr ⟨?_, ?_, rfl, .inr rfl⟩
    · unfold rv
      rcases h3 with h3 | ⟨h3, h4⟩
      · have : (tok == eS) = false := by simpa using h3
        cases p <;> cases q <;> simp [this]
      · subst h3 h4; simp
    · unfold isEnd
      rcases h3 with h3 | ⟨h3, h4⟩
      · have : (tok == eS) = false := by simpa using h3
        cases p <;> simp [this]
      · subst h3 h4; simp
  | q39 =>
    obtain ⟨h1, h2⟩ := h
    dsimp only at h1 h2
    subst h1 h2
    rw [show rtP (!p) _ tok q [] = .err from by (rw [rtP] <;> (intro q; cases q))]
    exact (if_neg (by decide +kernel) : (if okM (sg 39) then some (ended (some tok) ws) else none) = none)
  | q34 =>
    obtain ⟨h1, h2⟩ := h
    dsimp only at h1 h2
    subst h1 h2
    rw [show rtP (!p) _ tok q [] = .err from by (rw [rtP] <;> (intro q; cases q))]
    exact (if_neg (by decide +kernel) : (if okM (sg 34) then some (ended (some tok) ws) else none) = none)
  | ea =>
    obtain ⟨h1, h2, _⟩ := h
    dsimp only at h1 h2
    subst h1 h2
    rw [show rtP (!p) _ tok q [] = .err from by (rw [rtP] <;> (intro q; cases q))]
    exact (if_neg (by decide +kernel) : (if okM mB then some (ended (some tok) ws) else none) = none)
  | eq =>
    obtain ⟨h1, h2, _⟩ := h
    dsimp only at h1 h2
    subst h1 h2
    rw [show rtP (!p) _ tok q [] = .err from by (rw [rtP] <;> (intro q; cases q))]
    exact (if_neg (by decide +kernel) : (if okM mBM then some (ended (some tok) ws) else none) = none)
theorem rtP_le {b : Bool} : ∀ (n : Nat) (rest : List Nat) (k : SK) (tok : Str) (q : Bool) {tok' : Str} {q' f : Bool} {r : List Nat}, rest.length ≤ n → rtP b k tok q rest = .ok tok' q' f r → r.length ≤ rest.length
  | _, [], k, tok, q, tok', q', f, r, _, h => by
    cases k <;> rw [rtP] at h <;> first | (cases h; done) | (injection h with _ _ _ e; subst e; exact Nat.le_refl _) | skip
    all_goals (intro q; cases q)
  | 0, c :: r, _, _, _, _, _, _, _, hn, _ => by simp at hn
  | n + 1, c :: r, k, tok, q, tok', q', f, r', hn, h => by
    rw [rtP] at h
    have hl : (if (nx b k tok q c).line then dropLine r else r).length ≤ r.length := by
      split
      · exact dropLine_le r
      · exact Nat.le_refl _
    simp only [List.length_cons] at hn ⊢
    cases hb : (nx b k tok q c).brk with
    | true =>
      rw [hb, if_pos rfl] at h
      injection h with _ _ _ e
      subst e
      omega
    | false =>
      rw [hb, if_neg Bool.false_ne_true] at h
      have := rtP_le n _ _ _ _ (by omega) h
      omega
theorem run_ok (p : Bool) : ∀ (n : Nat) (rest : List Nat) (k : SK) (tok : Str) (q : Bool) (s : St), rest.length ≤ n → RelS p k tok q s → RunOk p s rest (rtP (!p) k tok q rest)
  | _, [], k, tok, q, s, _, h => run_nil p k tok q s h
  | 0, c :: r, _, _, _, _, hn, _ => by simp at hn
  | n + 1, c :: r, k, tok, q, s, hn, h => by
    have st := rel_step (c := c) (r := r) h
    rw [rtP]
    have hl : (if (nx (!p) k tok q c).line then dropLine r else r).length ≤ r.length := by
      split
      · exact dropLine_le r
      · exact Nat.le_refl _
    simp only [List.length_cons] at hn
    have ht : told p s (c :: r) = told p (turn p s c) r := rfl
    cases hb : (nx (!p) k tok q c).brk with
    | true =>
      rw [if_pos rfl]
      obtain ⟨h1, h2, h3⟩ := st.2 hb
      exact .inr ⟨h2, h3, ht.trans h1, .inl (by simp only [List.length_cons]; omega)⟩
    | false =>
      rw [if_neg Bool.false_ne_true]
      obtain ⟨s', h1, h2, h3⟩ := st.1 hb
      have z := run_ok p n (if (nx (!p) k tok q c).line then dropLine r else r) _ _ _ s' (by omega) h2
      have hle := @rtP_le (!p) n (if (nx (!p) k tok q c).line then dropLine r else r) (nx (!p) k tok q c).k (nx (!p) k tok q c).tok (nx (!p) k tok q c).q
      revert z hle
      cases rtP (!p) (nx (!p) k tok q c).k (nx (!p) k tok q c).tok (nx (!p) k tok q c).q (if (nx (!p) k tok q c).line then dropLine r else r) with
      | err => intro z _; exact (ht.trans h1).trans z
      | ok tok' q' fin r' =>
        intro z hle
        have hle := hle (by omega) rfl
        rcases z with ⟨z1, z2⟩ | ⟨z1, z2, z3, _⟩
        · exact .inl ⟨z1, by rw [ht, h1, z2, h3]⟩
        · exact .inr ⟨z1, z2, by rw [ht, h1, z3, h3], .inl (by simp only [List.length_cons]; omega)⟩
/-- one token, from a gap: what is told behind it -/
theorem tok_ok {p : Bool} {k : SK} {rest : List Nat} {ws : List Str} (hk : k = .sp ∨ k = .no) (h0 : k = .no → rest = []) : match rtP (!p) k eS false rest with
    | .err => told p ⟨mG, none, ws⟩ rest = none
    | .ok tok q _ r => (isEnd (!p) (rv (!p) q tok) = true → told p ⟨mG, none, ws⟩ rest = some ws) ∧ (∀ x, rv (!p) q tok = some x → isEnd (!p) (some x) = false → told p ⟨mG, none, ws⟩ rest = told p ⟨mG, none, ws ++ [x]⟩ r ∧ r.length < rest.length) := by
  rcases hk with rfl | rfl
  · have z := run_ok p rest.length rest .sp eS false ⟨mG, none, ws⟩ (Nat.le_refl _) ⟨rfl, rfl, rfl, rfl⟩
    revert z
    cases hr : rtP (!p) .sp eS false rest with
    | err => intro z; exact z
    | ok tok q f r =>
      rintro (⟨z1, z2⟩ | ⟨z1, z2, z3, z4⟩)
      · exact ⟨fun _ => z2, fun x hx hi => (by rw [hx] at z1; rw [hi] at z1; cases z1)⟩
      · refine ⟨fun hi => (by rw [z1, z2] at hi; cases hi), fun x hx hi => ?_⟩
        rw [z1] at hx
        injection hx with hx
        subst hx
        refine ⟨z3, ?_⟩
        rcases z4 with z4 | rfl
        · exact z4
        · rw [rtP] at hr
          injection hr with e1 e2 e3 e4
          subst e1 e2
          cases p
          · cases z1
          · cases z2
  · obtain rfl := h0 rfl
    rw [rtP]
    cases p
    · exact ⟨fun _ => rfl, fun x hx _ => (by cases hx)⟩
    · exact ⟨fun _ => rfl, fun x hx hi => (by cases hx; cases hi)⟩
theorem rstR8 {w : World} {A : Around} {s : Shared} {Q : Bool → Shared → Prop} {E : Value → Shared → Prop} (h : wpAny (md w) A (truthy (.bool true)) Q E s) : wpAny (md w) A (truthy (.bool true)) Q E s := by
  first | (walk1; fail) | exact h
-- R8
theorem fillR8 : Fill PySem.Challenge.rw_oc0205_01 kx := by
  k_fill
  exact True.intro
section
variable {w : World} {mean : ExcName → Option Value} {mg mb : Str → Option Value} {dp un : Nat} {fr : Option (List Env)} {gd : Option (List Code)} {s : Shared} {Q E : Value → Shared → Prop}
theorem nextOwn {A : Around} {Q : Option Value → Shared → Prop} {x dx : Addr} {od : Obj} (X : (kx w.params).In s.heap) (hx : s.heap.get? x = some (instObj 729 dx)) (hd : s.heap.get? dx = some od)
    (h : wpAny (md w) A (call (.ref 726) [.ref x]) (fun v s' => Q (some v) s') (fun e s' => wpAny (md w) A (isInstance e (.type "StopIteration")) (fun b s₂ => if b = true then Q none s₂ else E e s₂) E s') s) : wpAny (md w) A (pyNext (.ref x)) Q E s := by
  have I : InstAt s.heap x (instObj 729 dx) 729 (some od) := ⟨hx, rfl, rfl, hd⟩
  unfold pyNext
  refine wpAny_bind (wpAny_attempt (special_fn (name := "__next__") (args := []) X I (f := 726) (by k_is) (by k_is) (wpAny_mono h (fun v s' hq => wpAny_pure hq) fun e s' he => ?_)))
  refine wpAny_bind (wpAny_mono he (fun b s₂ hb => ?_) fun _ _ z => z)
  cases b with
  | true => exact wpAny_pure hb
  | false => exact wpAny_throw hb
theorem belowStays {A : Around} {B g g' : Heap} {outer : List Env} (K : Below A B outer g) (k : g.StaysIn g') : Below A B outer g' :=
  ⟨K.stack, fun b o q => k _ _ (K.stays b o q), K.frames.of_keeps fun b o e _ => ⟨o, k _ _ e, rfl⟩⟩
theorem hideStays {g h : Heap} {as : List Addr} (k : (hideAll g as).StaysIn h) : (hideAll g as).StaysIn (hideAll h as) := fun b o e => hideAll_get _ (k _ _ e) fun hm => by rw [hideAll_none _ hm] at e; cases e
theorem subtype_stop : isSubtype (.type "StopIteration") (.type "StopIteration") = pure true := by first | rfl | kernel_rfl
theorem subtype_ve : isSubtype (.type "ValueError") (.type "StopIteration") = pure false := by first | rfl | kernel_rfl
theorem flyType {X : String} {B g : Heap} {outer : List Env} {e : Addr} (f : FlyX X B g outer e s.heap) : s.TypeIs (.ref e) X := by
  obtain ⟨⟨a0, f⟩, _⟩ := f
  obtain ⟨ob, hob, hobc⟩ := f.there
  exact ⟨ob, hob, hobc⟩
noncomputable abbrev lsO (acc : Array Value) (c : Nat) : Obj := { cls := .type "list", dict := none, data := .seq acc c, slots := #[] }
section
variable {lx dl sio ds : Nat} {P : LP} {S : SP} {ln : Int} {tl tt tp : Tok} {p : Nat} {cs : List Nat} {k : SK} {sv : Value} {B : Heap} {outer : List Env} {pl : Bool} {tsv : Tok}
theorem ext_loop (R : Option (List Str)) (g0 : Heap) (ls : Addr) {RR : Result → Shared → Prop} (hroom : dp + 6 < recursionLimit) (hc : cs.length ≤ 100000)
    (n1 : lx ≠ dl) (n2 : lx ≠ sio) (n3 : lx ≠ ds) (n4 : dl ≠ sio) (n5 : dl ≠ ds) (n6 : sio ≠ ds) (m1 : ls ≠ lx) (m2 : ls ≠ dl) (m3 : ls ≠ sio) (m4 : ls ≠ ds) (h39 : notIn P.wc 39 = true) (h34 : notIn P.wc 34 = true) (hb : P.b = !pl)
    (W : Wd w mean mg mb (hideAll g0 [lx, dl, sio, ds])) (K : Below (AR dp un fr gd) B outer (hideAll g0 [lx, dl, sio, ds])) (hls : g0.get? ls = none)
    (hpb : (hideAll g0 [lx, dl, sio, ds]).get? P.pb = some dqObj) (hfs : (hideAll g0 [lx, dl, sio, ds]).get? P.fs = some dqObj) (heof : WV P.eof (if P.b then none else some eS))
    (ret : ∀ xs vs c h' tk, R = some xs → SV vs xs → h'.get? ls = some (listObj vs c) → (hideAll (hideAll g0 [lx, dl, sio, ds]) (outer.filterMap (·.frame))).StaysIn h' → (hideAll g0 [lx, dl, sio, ds]).UpToSlots h' → RR (.ok (.ret .none)) { s with heap := h', toks := tk })
    (retX : R = none → ∀ h' e tk, Fly B (hideAll g0 [lx, dl, sio, ds]) outer e h' → RR (.error (.ref e)) { s with heap := h', toks := tk }) :
    ∀ (n : Nat) (p : Nat) (h : Heap) (tk : Nat) (vs : List Value) (xs : List Str) (c : Nat) (k : SK) (sv : Value) (ln : Int) (tl tt tp : Tok), (cs.drop p).length < n → p ≤ cs.length → xs.length + (cs.drop p).length ≤ cs.length → SV vs xs → h.get? ls = some (listObj vs c) →
      (∀ x ∈ L4 lx dl sio ds (lexO P sio sv ln tl eS tt) (sioO S cs p tp), h.get? x.1 = some x.2) → (hideAll g0 [lx, dl, sio, ds]).StaysIn h → SVv sv (stOf k) → (k = .sp ∨ k = .no) → (k = .no → cs.drop p = []) → told pl ⟨mG, none, xs⟩ (cs.drop p) = R →
      codeAny (md w) (AR dp un fr gd) (.builtin "list.extend.loop" ⟨[.ref ls, .ref lx, .none], []⟩) RR { s with heap := h, toks := tk } := by
  have mls : ls ∉ [lx, dl, sio, ds] := by simp [m1, m2, m3, m4]
  intro n
  induction n with
  | zero =>
    intro p h tk vs xs c k sv ln tl tt tp hn
    exact absurd hn (Nat.not_lt_zero _)
  | succ n ih => 
    intro p h tk vs xs c k sv ln tl tt tp hn hp hx hv hl h4 st hs hk hk0 hR
    have st' := hideStays st
    have W' := W.keeps st'
    have K' : Below (AR dp (un + 1) fr gd) B outer (hideAll h [lx, dl, sio, ds]) := let z := belowStays K st'; ⟨z.stack, z.stays, z.frames⟩
    have tk0 := tok_ok (p := pl) (k := k) (rest := cs.drop p) (ws := xs) hk hk0
    rw [← hb] at tk0
    have hlF : ls ∉ outer.filterMap (·.frame) := fun hm => by
      obtain ⟨o, ho, _⟩ := (K.frames.mem hm).2
      have := of_hideAll _ ho
      rw [hls] at this; cases this
    refine codeAny_builtin F.entry_extend_loop ?_
    rw [Around.under_plainId F.plain_extend_loop _]
    show wpAny _ (AR dp (un + 1) fr gd) (pyNext (.ref lx) >>= _) _ _ _
    refine wpAny_bind (nextOwn (s := { s with heap := h, toks := tk }) W'.shown.X (h4 _ (.head _)) (h4 _ (.tail _ (.head _))) ?_)
    refine nx_ct (s := { s with heap := h, toks := tk }) (k := k) W' (belowAll K') hroom hp hc h4 n1 n2 n3 n4 n5 n6 h39 h34 hs hk hk0 (st' _ _ hpb) (st' _ _ hfs) heof ?_ ?_ ?_
    · intro k' tok' q' sv' tt' ln' tl' tp' p' x t h' tk' stN h4' hs' hRt hk' hz' hp' hrv hi
      rw [hRt] at tk0
      obtain ⟨e1, e2⟩ := tk0.2 x hrv hi
      have hl' : h'.get? ls = some (listObj vs c) := stN _ _ (hideAll_get _ hl mls)
      show wpAny _ _ (updateSeq ls (·.push (.str x t)) >>= _) _ _ _
      have hlen : vs.length ≤ 100000 := by rw [hv.length]; omega
      refine wpAny_bind (wpAny_updateSeq hl' rfl (wpAny_pure ⟨plainId_quiet F.plain_extend_loop _, ?_⟩) (by rw [sizeLine_eq]; simp; omega) (by rw [sizeLine_eq]; simp; omega))
      have hne : ∀ a, a ≠ ls → (h'.update ls (Obj.mapSeq (·.push (.str x t)))).get? a = h'.get? a := fun a ha => Heap.get?_update_other _ _ (Ne.symm ha)
      obtain ⟨c', hup⟩ : ∃ c', (h'.update ls (Obj.mapSeq (·.push (.str x t)))).get? ls = some (listObj (vs ++ [.str x t]) c') := by
        refine ⟨c + 1, (Heap.get?_update_self (Obj.mapSeq (·.push (Value.str x t))) hl' rfl).trans (congrArg some ((Obj.mapSeq_push_plain vs.toArray c (.str x t)).trans ?_))⟩
        rw [List.push_toArray]; rfl
      refine ih p' _ tk' (vs ++ [.str x t]) (xs ++ [x]) c' k' sv' ln' tl' tt' tp' (by omega) hp' (by simp only [List.length_append, List.length_cons, List.length_nil]; omega) hv.snoc hup ?_ ?_ hs' hk' hz' (e1.symm.trans hR)
      · intro y hy
        rw [hne _ ?_]
        · exact h4' y hy
        · simp only [List.mem_cons, List.not_mem_nil, or_false] at hy
          rcases hy with rfl | rfl | rfl | rfl
          · exact Ne.symm m1
          · exact Ne.symm m2
          · exact Ne.symm m3
          · exact Ne.symm m4
      · intro b o e
        rw [hne b ?_]
        · exact stN _ _ (st' _ _ e)
        · intro q
          have := of_hideAll _ e
          rw [q, hls] at this; cases this
    · intro tok' q' f r hRt hi h' e tk' fl
      rw [hRt] at tk0
      have hxs := tk0.1 hi
      rw [hR] at hxs
      refine wpAny_isInstance (flyType fl) subtype_stop ?_
      rw [if_pos rfl]
      obtain ⟨⟨a0, fl⟩, up⟩ := fl
      refine wpAny_pure (ret xs vs c h' tk' hxs hv (fl.1 _ _ (hideAll_get _ (hideAll_get _ hl mls) hlF)) (fun b o q => fl.1 _ _ (hideAll_get _ (st' _ _ (of_hideAll _ q)) fun hm => by rw [hideAll_none _ hm] at q; cases q)) ((Heap.UpToSlots.of_keeps st').trans up))
    · intro hRt h' e tk' fl
      rw [hRt] at tk0
      have hxs : R = none := hR.symm.trans tk0
      refine wpAny_isInstance (flyType fl) subtype_ve ?_
      rw [if_neg Bool.false_ne_true]
      obtain ⟨fl0, up⟩ := fl
      exact retX hxs h' e tk' (FlyX.base (baseAll K') ⟨fl0, (Heap.UpToSlots.of_keeps st').trans up⟩)
theorem noLen : findIn (kx w.params) (.ref 729) "__len__" = some none := by k_is
theorem noHint : findIn (kx w.params) (.ref 729) "__length_hint__" = some none := by k_is
theorem extend_ct {g g0 : Heap} {L ls : Addr} {c0 : Nat} {m : Str → Option Value} {R : Result → Shared → Prop} (Wg : Wd w mean mg mb g) (Ff : Fr g L g0 m) (hroom : dp + 6 < recursionLimit) (hc : cs.length ≤ 100000)
    (h4 : ∀ x ∈ L4 lx dl sio ds (lexO P sio (.str (Str.ofString " ") tsv) ln tl eS tt) (sioO S cs 0 tp), g0.get? x.1 = some x.2)
    (n1 : lx ≠ dl) (n2 : lx ≠ sio) (n3 : lx ≠ ds) (n4 : dl ≠ sio) (n5 : dl ≠ ds) (n6 : sio ≠ ds) (h39 : notIn P.wc 39 = true) (h34 : notIn P.wc 34 = true) (hb : P.b = !pl)
    (W : Wd w mean mg mb (hideAll g0 [lx, dl, sio, ds])) (K : Below (AR dp un fr gd) B outer (hideAll g0 [lx, dl, sio, ds]))
    (hpb : (hideAll g0 [lx, dl, sio, ds]).get? P.pb = some dqObj) (hfs : (hideAll g0 [lx, dl, sio, ds]).get? P.fs = some dqObj) (heof : WV P.eof (if P.b then none else some eS))
    (hls : g0.get? ls = none) (hS₂ : s.heap.get? ls = some (listObj [] c0)) (st₂ : ∀ b o, g0.get? b = some o → s.heap.get? b = some o) (hne : ∀ {a : Addr} {o : Obj}, g0.get? a = some o → ls ≠ a)
    (ret : ∀ xs vs c h' tk, told pl ⟨mG, none, []⟩ cs = some xs → SV vs xs → h'.get? ls = some (listObj vs c) → (hideAll (hideAll g0 [lx, dl, sio, ds]) (outer.filterMap (·.frame))).StaysIn h' → (hideAll g0 [lx, dl, sio, ds]).UpToSlots h' → R (.ok (.ret .none)) { s with heap := h', toks := tk })
    (retX : told pl ⟨mG, none, []⟩ cs = none → ∀ h' e tk, Fly B (hideAll g0 [lx, dl, sio, ds]) outer e h' → R (.error (.ref e)) { s with heap := h', toks := tk }) :
    wpAny (md w) (AR dp (un + 1) fr gd) (Builtin.List.listExtendWith (.ref ls) (.ref lx) .none)
      (fun fin s' => match fin with | .done f => R (.ok f) s' | .again c' => c'.quiet = true ∧ codeAny (md w) (AR dp un fr gd) c' R s') (fun e s' => R (.error e) s') s := by
  have hadsne : ∀ a ∈ [lx, dl, sio, ds], ls ≠ a := by
    intro a ha
    simp only [List.mem_cons, List.not_mem_nil, or_false] at ha
    rcases ha with rfl | rfl | rfl | rfl
    · exact hne (h4 _ (.head _))
    · exact hne (h4 _ (.tail _ (.head _)))
    · exact hne (h4 _ (.tail _ (.tail _ (.head _))))
    · exact hne (h4 _ (.tail _ (.tail _ (.tail _ (.head _)))))
  unfold Builtin.List.listExtendWith
  have I₂ : InstAt s.heap lx (instObj 729 dl) 729 (some (lexO P sio (.str (Str.ofString " ") tsv) ln tl eS tt)) := ⟨st₂ _ _ (h4 _ (.head _)), rfl, rfl, st₂ _ _ (h4 _ (.tail _ (.head _)))⟩
  have X₂ : (kx w.params).In s.heap := Frag.In.keeps W.shown.X st₂
  refine wpAny_bind (I₂.type.here ?_)
  have h1 : Builtin.List.listSameRef (.ref ls) (.ref lx) = false := by simp [Builtin.List.listSameRef, hadsne lx (.head _)]
  have h2 : (Value.ref 729 == Value.type "list") = false := by decide
  have h3 : (Value.ref 729 == Value.type "tuple") = false := by decide
  simp only [h1, h2, h3, Bool.or_false, Bool.false_eq_true, if_false]
  refine wpAny_bind (owit_iter (Ff.keeps st₂) Wg.X I₂ (f := 719) (by k_is) (by k_is) ?_)
  refine iter_ct (W.shown.keeps st₂) (by omega) ?_
  intro h₃ tk₃ st₃
  have st₃' : ∀ b o, g0.get? b = some o → h₃.get? b = some o := fun b o e => st₃ _ _ (st₂ _ _ e)
  have I₃ : InstAt h₃ lx (instObj 729 dl) 729 (some (lexO P sio (.str (Str.ofString " ") tsv) ln tl eS tt)) := ⟨st₃' _ _ (h4 _ (.head _)), rfl, rfl, st₃' _ _ (h4 _ (.tail _ (.head _)))⟩
  have X₃ : (kx w.params).In h₃ := Frag.In.keeps W.shown.X st₃'
  refine owit_it (s := { s with heap := h₃, toks := tk₃ }) (Ff.keeps st₃') Wg.X I₃ (g := .ref 726) (by k_is) ?_
  refine wpAny_bind (wpAny_holding ?_)
  unfold Builtin.List.listLengthHint
  refine wpAny_bind (wpAny_bind (I₃.type.here ((looks_findIn X₃ noLen).here ?_)))
  show wpAny _ _ (specialOf (Value.ref lx) (Str.ofString "__length_hint__") >>= _) _ _ _
  refine wpAny_bind (wpAny_bind (I₃.type.here ((looks_findIn X₃ noHint).here ?_)))
  refine wpAny_pure ?_
  show wpAny _ _ (rule "list.extend.makes-room" >>= fun _ => Builtin.List.listTouch (.ref ls) >>= fun _ =>
    again (.builtin "list.extend.loop" ⟨[.ref ls, .ref lx, .none], []⟩)) _ _ _
  refine wpAny_bind (wpAny_rule ?_)
  refine wpAny_bind ?_
  show wpAny _ _ (updateSeq ls (·.push .none) >>= fun _ => updateSeq ls (·.pop)) _ _ _
  have hS₃ := st₃ _ _ hS₂
  refine wpAny_bind (wpAny_updateSeq hS₃ rfl ?_ (Nat.zero_le _) (Nat.succ_le_succ (Nat.zero_le _)))
  have hS₄ := Heap.get?_update_self (Obj.mapSeq (·.push Value.none)) hS₃ rfl
  refine wpAny_updateSeq hS₄ rfl ?_ (by show 1 ≤ sizeLine; rw [sizeLine_eq]; decide) (Nat.zero_le _)
  have hS₅ := Heap.get?_update_self (Obj.mapSeq (·.pop)) hS₄ rfl
  have st₅ : ∀ b o, g0.get? b = some o → ((h₃.update ls (Obj.mapSeq (·.push Value.none))).update ls (Obj.mapSeq (·.pop))).get? b = some o :=
    fun b o e => (Heap.get?_update_other _ _ (hne e)).trans ((Heap.get?_update_other _ _ (hne e)).trans (st₃' _ _ e))
  refine wpAny_pure ⟨plainId_quiet F.plain_extend_loop _, ?_⟩
  refine ext_loop (s := s) (un := un) (told pl ⟨mG, none, []⟩ cs) g0 ls hroom hc n1 n2 n3 n4 n5 n6 (hadsne _ (.head _)) (hadsne _ (.tail _ (.head _))) (hadsne _ (.tail _ (.tail _ (.head _)))) (hadsne _ (.tail _ (.tail _ (.tail _ (.head _))))) h39 h34 hb W ⟨K.stack, K.stays, K.frames⟩ hls hpb hfs heof ret retX
    (cs.length + 1) 0 _ tk₃ [] [] _ .sp (.str (Str.ofString " ") tsv) ln tl tt tp (by simp) (Nat.zero_le _) (by simp) SV.nil hS₅ (fun x hx => st₅ _ _ (h4 x hx)) (fun b o e => st₅ _ _ (of_hideAll _ e)) SVv.some (.inl rfl) (fun q => nomatch q) rfl
theorem list_ct {g : Heap} {L : Addr} {m : Str → Option Value} (Wg : Wd w mean mg mb g) (Ff : Fr g L s.heap m) (hroom : dp + 6 < recursionLimit) (hc : cs.length ≤ 100000)
    (h4 : ∀ x ∈ L4 lx dl sio ds (lexO P sio (.str (Str.ofString " ") tsv) ln tl eS tt) (sioO S cs 0 tp), s.heap.get? x.1 = some x.2)
    (n1 : lx ≠ dl) (n2 : lx ≠ sio) (n3 : lx ≠ ds) (n4 : dl ≠ sio) (n5 : dl ≠ ds) (n6 : sio ≠ ds) (h39 : notIn P.wc 39 = true) (h34 : notIn P.wc 34 = true) (hb : P.b = !pl)
    (W : Wd w mean mg mb (hideAll s.heap [lx, dl, sio, ds])) (K : Below (AR dp un fr gd) B outer (hideAll s.heap [lx, dl, sio, ds]))
    (hpb : (hideAll s.heap [lx, dl, sio, ds]).get? P.pb = some dqObj) (hfs : (hideAll s.heap [lx, dl, sio, ds]).get? P.fs = some dqObj) (heof : WV P.eof (if P.b then none else some eS))
    (ret : ∀ ls xs vs c h' tk, told pl ⟨mG, none, []⟩ cs = some xs → SV vs xs → s.heap.get? ls = none → h'.get? ls = some (listObj vs c) → (hideAll (hideAll s.heap [lx, dl, sio, ds]) (outer.filterMap (·.frame))).StaysIn h' → (hideAll s.heap [lx, dl, sio, ds]).UpToSlots h' → Q (.ref ls) { s with heap := h', toks := tk })
    (retX : told pl ⟨mG, none, []⟩ cs = none → ∀ h' e tk, Fly B (hideAll s.heap [lx, dl, sio, ds]) outer e h' → E (.ref e) { s with heap := h', toks := tk }) :
    wpAny (md w) (AR dp un fr gd) (call (.type "list") [.ref lx]) Q E s := by
  have hls : s.heap.get? s.heap.objs.size = none := by
    cases e : s.heap.get? s.heap.objs.size with
    | none => rfl
    | some o => exact absurd (Heap.lt_size e) (Nat.lt_irrefl _)
  have hne : ∀ {a : Addr} {o : Obj}, s.heap.get? a = some o → s.heap.objs.size ≠ a := fun e q => by rw [← q, hls] at e; cases e
  refine callType_codes (Q₁ := fun obj s₁ => obj = .ref s.heap.objs.size ∧ s₁ = { s with heap := s.heap.push { cls := .type "list", data := .seq #[] } }) PySem.F.called_list (PySem.F.typeCall_list_1 _) PySem.F.entry_list_init
    (code_list_new _ ⟨rfl, rfl⟩) fun obj s₁ h₁ => ?_
  obtain ⟨rfl, rfl⟩ := h₁
  have hS : (s.heap.push { cls := .type "list", data := .seq #[] }).get? s.heap.objs.size = some { cls := .type "list", data := .seq #[] } := Heap.get?_push_size _ rfl
  refine ⟨⟨_, hS, rfl⟩, PySem.F.args_list_init_2 _ _, ?_⟩
  show wpAny _ (AR dp (un + 2) fr gd) (do let old ← Builtin.List.listItems (.ref s.heap.objs.size); Builtin.List.listUpdate (.ref s.heap.objs.size) (fun _ => #[]); letGo old.toList.reverse; Builtin.List.listExtendWith (.ref s.heap.objs.size) (.ref lx) .none) _ _ _
  refine wpAny_bind ?_
  unfold Builtin.List.listItems
  refine wpAny_bind (wpAny_seqItems hS rfl (wpAny_pure ?_))
  show wpAny _ _ (updateSeq s.heap.objs.size (fun _ => #[]) >>= fun _ => letGo (#[] : Array Value).toList.reverse >>= fun _ => Builtin.List.listExtendWith (.ref s.heap.objs.size) (.ref lx) .none) _ _ _
  refine wpAny_bind (wpAny_updateSeq hS rfl ?_ (Nat.zero_le _) (Nat.zero_le _))
  refine wpAny_bind (wpAny_letGo ?_)
  refine extend_ct (un := un + 1) (g0 := s.heap) (s := { s with heap := (s.heap.push { cls := .type "list", data := .seq #[] }).update s.heap.objs.size (Obj.mapSeq (fun _ => (#[] : Array Value))) }) Wg Ff hroom hc h4 n1 n2 n3 n4 n5 n6 h39 h34 hb W ⟨K.stack, K.stays, K.frames⟩ hpb hfs heof hls
    (Heap.get?_update_self (Obj.mapSeq (fun _ => (#[] : Array Value))) hS rfl) (fun b o e => (Heap.get?_update_other _ _ (hne e)).trans (Heap.get?_push_of_some _ e)) hne ?_ ?_
  · intro xs vs c h' tk e1 e2 e3 e4 e5
    exact ⟨rfl, ret _ xs vs c h' tk e1 e2 hls e3 e4 e5⟩
  · intro e1 h' e tk fl
    exact retX e1 h' e tk fl
end
end
theorem rstR9 {w : World} {A : Around} {s : Shared} {Q : Bool → Shared → Prop} {E : Value → Shared → Prop} (h : wpAny (md w) A (truthy (.bool true)) Q E s) : wpAny (md w) A (truthy (.bool true)) Q E s := by
  first | (walk1; fail) | exact h
-- R9
theorem fillR9 : Fill PySem.Challenge.rw_oc0205_01 kx := by
  k_fill
  exact True.intro
section
variable {w : World} {mean : ExcName → Option Value} {mg mb : Str → Option Value} {dp un : Nat} {fr : Option (List Env)} {gd : Option (List Code)} {s : Shared} {Q E : Value → Shared → Prop}
theorem newSio {A : Around} {R : Result → Shared → Prop} {h : Heap} {g : Array GenState} {d : Drawn} {t : Nat} {os : OsState} (X : (kx w.params).In h)
    (hq : R (.ok (.ret (.ref (h.objs.size + 1)))) ⟨(h.push emptyDict).push (instObj 594 h.objs.size), g, d, t, os⟩) :
    codeAny (md w) A (.call (.builtin "object.__new__") ⟨[.ref 594], []⟩) R ⟨h, g, d, t, os⟩ := by
  have F := PySem.F.objNew
  have hck : Looks (md w) h (checkBuiltinCall "object.__new__" ⟨[.ref 594], []⟩) () := Looks.of_peek X (by kernel_rfl)
  have here : Looks (md w) h (Bind.madeHere "object.__new__" (.ref 594)) () := Looks.of_peek X (by kernel_rfl)
  have hty : Looks (md w) h (isType (.ref 594)) true := Looks.of_peek X (by kernel_rfl)
  have hC := X 594 _ rfl
  refine codeAny_call_builtin_code (Code.quiet_builtin _ F.quiet) ?_
  refine hck.here ?_
  refine codeAny_builtin F.entry ?_
  unfold Builtin.«object.__new__»
  have fin : ∀ A', wpAny (md w) A' (do
      let d ← if typeHasDict (.ref 594) then some <$> alloc { cls := .type "dict", data := .dict #[] } else pure none
      ret (← newObj (.ref 594) .plain d)) (fun fin s' => match fin with | .done f => R (.ok f) s' | .again c' => c'.quiet = true ∧ codeAny (md w) A c' R s') (fun e s' => R (.error e) s') ⟨h, g, d, t, os⟩ := by
    intro A'
    show wpAny _ _ ((alloc emptyDict >>= fun x => pure (some x)) >>= _) _ _ _
    refine wpAny_bind (wpAny_bind (wpAny_alloc (wpAny_pure (wpAny_bind ?_))))
    show wpAny _ _ (newObjAsIs _ _ _) _ _ _
    unfold newObjAsIs classHasDel
    refine wpAny_bind (wpAny_alloc (wpAny_bind (wpAny_bind (wpAny_load (Heap.get?_push_of_some _ (Heap.get?_push_of_some _ hC)) (wpAny_pure ?_)))))
    refine wpAny_pure (wpAny_pure ?_)
    show R _ _
    rw [Heap.size_push]
    exact hq
  repeat (first | simp only [bne_self_eq_false, Bool.false_eq_true, if_false, Bool.not_true] | exact fin _ | lk)
theorem newSioW {A : Around} {g : Heap} {L : Addr} {m : Str → Option Value} {news : List (Addr × Obj)} (F : Fr g L s.heap m) (N : News g L s.heap news) (X : (kx w.params).In g)
    (h : ∀ a da h', a ≠ da → Fr g L h' m → News g L h' ((a, instObj 594 da) :: (da, dictOf [] 0) :: news) → Q (.ref a) { s with heap := h' }) : wpAny (md w) A (call (.builtin "object.__new__") [.ref 594]) Q E s := by
  refine wpAny_call ?_
  obtain ⟨hh, gn, d, t, os⟩ := s
  refine newSio (Frag.In.keeps X F.keep) (h _ hh.objs.size _ (Nat.ne_of_gt (Nat.lt_succ_self _)) ((F.push _).push _) ?_)
  have := (N.push F emptyDict).push (F.push _) (instObj 594 hh.objs.size)
  rwa [Heap.size_push] at this
theorem peekTwo {α : Type} {K : Frag} {M : Model} {A : Around} {Q : α → Shared → Prop} {o : Obj} (X : K.In s.heap) :
    ∀ (t : Sem α) (g : Addr → Sem α), peekA K ⟨M.prog, M.w.params⟩ t = some (o, g) → wpAny M A (g s.heap.objs.size) Q E { s with heap := s.heap.push o } → wpAny M A t Q E s := by
  intro t
  induction t with
  | rule _ k ih => intro g e q Γ p hΓ; exact ih () g e q Γ p hΓ
  | point _ k ih => intro g e q Γ p hΓ; exact ih () g e q Γ p hΓ
  | ask k ih => intro g e q Γ p hΓ; exact ih _ g e q Γ p hΓ
  | load a _ k ih =>
    intro g e q Γ p hΓ
    simp only [peekA] at e
    split at e
    · rename_i ob ho; exact ⟨ob, X _ _ ho, ih ob g e q Γ p hΓ⟩
    · cases e
  | alloc ob k _ =>
    intro g e q
    have e : some (ob, k) = some (o, g) := e
    obtain ⟨e1, e2⟩ := Prod.mk.inj (Option.some.inj e)
    subst e1 e2
    show wpAny M A (alloc ob >>= k) Q E s
    exact wpAny_bind (wpAny_alloc q)
  | _ => intro g e; cases e
local macro_rules | `(tactic| walk_at "call builtin:object.__new__") => `(tactic| (
  (with_reducible rename Fr _ _ _ _ => kF); (with_reducible rename News _ _ _ _ => kN);
  refine' newSioW kF kN ?k1 ?_; (case k1 => assumption);
  intro a' da' h' ne' F' N'; clear kF kN; try dsimp only))
theorem new87_ct {x : Str} {t : Tok} (W : Wd w mean mg mb s.heap) (hroom : dp < recursionLimit)
    (ret : ∀ a da h' tk, s.heap.StaysIn h' → s.heap.get? a = none → s.heap.get? da = none → a ≠ da → h'.get? a = some (instObj 594 da) → h'.get? da = some (dictOf [] 0) → Q (.ref a) { s with heap := h', toks := tk }) :
    wpAny (md w) (AR dp un fr gd) (call (.ref 87) [.ref 594, .str x t]) Q E s := by
  refine wpAny_call ?_
  have X := W.X
  refine codeAny_call_function (fd := fnOf (Str.ofString "__new__") (Str.ofString "IOBase.__new__") pa87 bd87 sc87 .none .none .none (.str (Str.ofString "io") 295) none (.ref 86) .none) (body := bd87) hroom (X 87 _ rfl) rfl rfl rfl rfl (codeRec_of W.X (by k_is)) ?_
  refine peekTwo (o := tupObj [.str x t]) X _ _ (by rfl) ?_
  have W₁ : Wd w mean mg mb (s.heap.push (tupObj [.str x t])) := W.keeps fun b o e => Heap.get?_push_of_some _ e
  refine peekTwo (s := { s with heap := s.heap.push (tupObj [.str x t]) }) (o := emptyDict) W₁.X _ _ (by rfl) ?_
  have W₂ : Wd w mean mg mb ((s.heap.push (tupObj [.str x t])).push emptyDict) := W₁.keeps fun b o e => Heap.get?_push_of_some _ e
  have st₂ : s.heap.StaysIn ((s.heap.push (tupObj [.str x t])).push emptyDict) := fun b o e => Heap.get?_push_of_some _ (Heap.get?_push_of_some _ e)
  generalize ea : (s.heap.push (tupObj [.str x t])).objs.size = a2
  generalize eb : (s.heap.push (tupObj [.str x t])).push emptyDict = h2 at W₂ st₂
  show wpAny _ _ (pure [((Str.ofString "cls"), Value.ref 594), ((Str.ofString "args"), Value.ref s.heap.objs.size), ((Str.ofString "kwargs"), Value.ref a2)]) _ _ _
  refine wpAny_pure ?_
  refine wpAny_newFunctionEnv (by decide) (locs rfl) (fun h₀ hns₀ hsb₀ => ⟨W₂.T.nolimit.fresh _ hsb₀, codeAny_func ?_⟩) rfl
  have hk₀ : ∀ b o, h2.get? b = some o → h₀.get? b = some o := fun b o e => hsb₀.extBut b o (Nat.ne_of_lt (Heap.lt_size e)) (Heap.get?_push_of_some _ e)
  have F : Fr h2 h2.objs.size h₀ (fun y => [((Str.ofString "cls"), Value.ref 594), ((Str.ofString "args"), Value.ref s.heap.objs.size), ((Str.ofString "kwargs"), Value.ref a2)].reverse.lookup y) := ⟨hns₀, hk₀, Nat.le_refl _⟩
  have N : News h2 h2.objs.size h₀ [] := News.nil
  show wpAny (md w) ((AR dp un fr gd).deeper (envOf (Str.ofString "IOBase.__new__") sc87 h2.objs.size 87 (.ref 86))) (execs bd87 (envOf (Str.ofString "IOBase.__new__") sc87 h2.objs.size 87 (.ref 86))) _ _ _
  have X := W₂.X
  have T := W₂.T
  generalize h2.objs.size = L at *
  w_on
  w_top on
  walk_at "my steps"
  all_goals (try dsimp only)
  all_goals exact ret _ _ _ _ (fun b o e => Fr.keep (by assumption) _ _ (st₂ _ _ e)) (fresh_of_stays st₂ (newsFresh (by assumption) (by exact List.Mem.head _))) (fresh_of_stays st₂ (newsFresh (by assumption) (by exact List.Mem.tail _ (List.Mem.head _)))) (by assumption) (News.get (by assumption) (by exact List.Mem.head _)) (News.get (by assumption) (by exact List.Mem.tail _ (List.Mem.head _)))
section
variable {x dx : Nat} {es : List DictEntry} {nn : Nat} {xs : Str} {t : Tok}
section
local macro_rules | `(tactic| k_get) => `(tactic| with_reducible assumption)
theorem trans_ct {tn : Tok} (W : Wd w mean mg mb (hideAll s.heap [x, dx])) (hroom : dp < recursionLimit) (hx : s.heap.get? x = some (instObj 594 dx)) (hd : s.heap.get? dx = some (dictOf es nn)) (hg : getL (Str.ofString "_StringIO__newline") es = some (some (.str (Str.ofString "\n") tn)))
    (ret : ∀ h' tk, s.heap.StaysIn h' → Q (.str xs t) { s with heap := h', toks := tk }) :
    wpAny (md w) (AR dp un fr gd) (call (.ref 371) [.ref x, .str xs t]) Q E s := by
  have X := W.X
  have T := W.T
  refine enterK (binds := [("self", .ref x), ("s", .str xs t)]) [(x, instObj 594 dx), (dx, dictOf es nn)] W (hN2 hx hd) (by k_is) (by k_is) hroom (BindsTo.of_eq rfl) (locs rfl) ?_ rfl rfl rfl (by decide)
  intro h₁ L hL F N
  dsimp only [ks, List.map] at F N
  w_on
  w_top on
  walk_at "my steps"
  all_goals (try dsimp only)
  all_goals exact ret _ _ (stayAll (by assumption) (by assumption) (hN2 hx hd))
end
local macro_rules | `(tactic| walk_at "call ref") => `(tactic| (
  (with_reducible show wpAny _ _ (call (Value.ref 371) _) _ _ _);
  (with_reducible rename Fr _ _ _ _ => kF); (with_reducible rename News _ _ _ _ => kN);
  refine' trans_ct ?k1 ?k2 ?k3 ?k4 ?k5 ?_;
  (case k3 => exact News.get kN (by k_mem)); (case k4 => exact News.get kN (by k_mem)); (case k5 => exact rfl); (case k1 => exact wd2 (by assumption) kF kN (by k_mem) (by k_mem)); (case k2 => (show _ + 1 < _; omega));
  intro h' tk' st'; replace kF := frStays kF st'; replace kN := newsStays kN st'; try dsimp only))
theorem init364_ct (W : Wd w mean mg mb (hideAll s.heap [x, dx])) (hroom : dp + 1 < recursionLimit) (hx : s.heap.get? x = some (instObj 594 dx)) (hd : s.heap.get? dx = some (dictOf [] 0)) (hne : x ≠ dx)
    (ret : ∀ e1 e2 e3 k1 k2 k3 tn tb tp h' tk, (hideAll s.heap [x, dx]).StaysIn h' → h'.get? x = some (instObj 594 dx) → h'.get? dx = some (sioD e1 e2 e3 k1 k2 k3 (.str (Str.ofString "\n") tn) xs tb 0 tp) → Q .none { s with heap := h', toks := tk }) :
    wpAny (md w) (AR dp un fr gd) (call (.ref 364) [.ref x, .str xs t]) Q E s := by
  have X := W.X
  have T := W.T
  refine enterK (binds := [("self", .ref x), ("initial_value", .str xs t), ("newline", .str (Str.ofString "\n") _)]) [(x, instObj 594 dx), (dx, dictOf [] 0)] W (hN2 hx hd) (by k_is) (by k_is) (by show dp < _; omega) (binds_K W.shown.X rfl (by k_is) rfl rfl rfl) (locs rfl) ?_ rfl rfl rfl (by decide)
  intro h₁ L hL F N
  dsimp only [ks, List.map] at F N
  w_on
  w_top on
  walk_at "my steps"
  all_goals (try dsimp only)
  all_goals exact ret _ _ _ _ _ _ _ _ _ _ _ (Fr.keep (by assumption)) (News.get (by assumption) (by k_mem)) (News.get (by assumption) (by k_mem))
end
theorem underMake (C : Addr) (vs : List Value) (kw : List (Str × Value)) : ∃ un' gd', (AR dp un fr gd).under (Code.builtin "type.__call__" ⟨.ref C :: vs, kw⟩) = AR (dp + 1) un' fr gd' := by
  exact ⟨((AR dp un fr gd).under (Code.builtin "type.__call__" ⟨.ref C :: vs, kw⟩)).units, ((AR dp un fr gd).under (Code.builtin "type.__call__" ⟨.ref C :: vs, kw⟩)).guards, rfl⟩
theorem sio_make {x : Str} {t : Tok} {g : Heap} {L : Addr} {m : Str → Option Value} (Wg : Wd w mean mg mb g) (F : Fr g L s.heap m) (hroom : dp + 2 < recursionLimit)
    (ret : ∀ (a da : Nat) S tp h' tk, s.heap.StaysIn h' → s.heap.get? a = none → s.heap.get? da = none → a ≠ da → h'.get? a = some (instObj 594 da) → h'.get? da = some (sioD (SP.e1 S) S.e2 S.e3 S.k1 S.k2 S.k3 (.str (Str.ofString "\n") S.tn) x S.tb 0 tp) → Q (.ref a) { s with heap := h', toks := tk }) :
    wpAny (md w) (AR dp un fr gd) (call (.ref 594) [.str x t]) Q E s := by
  have W : Wd w mean mg mb s.heap := Wg.keeps F.keep
  have X := W.X
  have hC := X 594 _ rfl
  have mr : Looks (md w) s.heap (mroOf (.ref 594)) [(.ref 594), (.ref 117), (.ref 90), (.type "object")] := Looks.of_peek X (by kernel_rfl)
  have hmade : Looks (md w) s.heap (Bind.madeBy (.ref 594)) none := Looks.of_peek X (by kernel_rfl)
  have hcall : Looks (md w) s.heap (specialOf (.ref 594) "__call__") (some (.builtin "type.__call__")) := looks_specialIn X (by k_is)
  have typ : Looks (md w) s.heap (isInstance (.ref 594) (.type "type")) true := looks_instIn X (by k_is)
  refine wpAny_call (codeAny_of_tree ?_)
  show wpAny _ _ (callAny (.ref 594) _) _ _ _
  refine nd_load hC ?_
  show wpAny _ _ (callAny.viaDunder (.ref 594) _) _ _ _
  unfold callAny.viaDunder
  refine wpAny_bind (hcall.here ?_)
  dsimp only
  rw [tc_bind]
  refine wpAny_bind (wpAny_pure (wpAny_bind (wpAny_pure ?_)))
  refine wpAny_pure (a := Fin.again (.call (.builtin "type.__call__") ⟨[.ref 594, .str x t], []⟩)) (And.intro rfl ?_)
  refine codeAny_call_builtin_at (Code.quiet_builtin _ (by decide +kernel)) entry_typeCall (check_slot tc_kind tc_split typ (tc_args _ _ _) ?_)
  unfold Builtin.«type.__call__»
  iterate 8 (first | simp only [Bool.false_eq_true, if_false] | with_reducible refine wpAny_call ?_ | lk)
  refine wpAny_bind (cls_sm F Wg.X (by k_is) (by k_is) (by k_is) (by k_is) (by first | k_handed | exact rfl) ?_)
  obtain ⟨un', gd', eA⟩ := underMake (dp := dp) (un := un) (fr := fr) (gd := gd) 594 [.str x t] []
  rw [eA]
  refine wpAny_bind (wpAny_holding ?_)
  refine new87_ct (s := { s with toks := s.toks + 1 }) (W.keeps fun _ _ e => e) (by omega) ?_
  intro a da h₁ tk₁ st₁ na nda nad ha hda
  have W₁ := W.keeps st₁
  have ht : Looks (md w) h₁ (typeOf (.ref a)) (.ref 594) := (Looks.ld ha).andThen .now
  have hsub : Looks (md w) h₁ (isSubtype (.ref 594) (.ref 594)) true := looks_mroIn W₁.X (by k_is)
  have I : InstAt h₁ a (instObj 594 da) 594 (some (dictOf [] 0)) := ⟨ha, rfl, rfl, hda⟩
  show wpAny _ _ (isInstance (.ref a) (.ref 594) >>= _) _ _ _
  unfold isInstance
  refine wpAny_bind (wpAny_bind (ht.here (hsub.here ?_)))
  show wpAny _ _ (holding [.ref a] (callSpecial? (.ref a) (Str.ofString "__init__") [.str x t]) >>= _) _ _ _
  refine wpAny_bind (wpAny_holding (special_fn (name := "__init__") (args := [.str x t]) W₁.X I (f := 364) (by k_is) (by k_is) ?_))
  refine init364_ct (mean := mean) (mg := mg) (mb := mb) (s := { s with heap := h₁, toks := tk₁ }) ?_ (by omega) ha hda nad ?_
  · refine W.keeps fun b o e => hideAll_get _ (st₁ _ _ e) fun hm => ?_
    simp only [List.mem_cons, List.not_mem_nil, or_false] at hm
    rcases hm with rfl | rfl
    · rw [na] at e; cases e
    · rw [nda] at e; cases e
  · intro e1 e2 e3 k1 k2 k3 tn tb tp h₂ tk₂ st₂ ha₂ hda₂
    refine wpAny_pure ?_
    refine ret a da ⟨e1, e2, e3, k1, k2, k3, tn, tb⟩ tp h₂ tk₂ (fun b o e => st₂ _ _ (hideAll_get _ (st₁ _ _ e) fun hm => ?_)) na nda nad ha₂ hda₂
    simp only [List.mem_cons, List.not_mem_nil, or_false] at hm
    rcases hm with rfl | rfl
    · rw [na] at e; cases e
    · rw [nda] at e; cases e
end
-- Dq2
theorem mro_dq : mroOf (.type "collections.deque") = pure [.type "collections.deque", .type "object"] := by rw [mroOf_type]; kernel_rfl
theorem lookup_dq_new : typeLookup (.type "collections.deque") "__new__" = pure (some (.builtin "collections.deque.__new__")) := by rw [typeLookup_type, builtinLookup_eq_fast]; kernel_rfl
theorem slot_dq_init : Slot "collections.deque" "__init__" "collections.deque.__init__" :=
  .of (owner := "collections.deque") (n := "__init__") (by rw [typeLookup_type, builtinLookup_eq_fast]; kernel_rfl) (by decide +kernel) (by decide +kernel) (by decide +kernel)
    (by first | exact .inl (by decide +kernel) | exact .inr (by decide +kernel)) (by rw [isSubtype_type]; kernel_rfl)
theorem called_dq : TypeCalled "collections.deque" "collections.deque.__new__" "collections.deque.__init__" :=
  ⟨by decide +kernel, by decide +kernel, ⟨_, _, mro_dq⟩, madeBy_type mro_dq lookup_dq_new (by decide +kernel), by decide +kernel, by rw [isSubtype_type]; kernel_rfl, slot_dq_init⟩
theorem typeCall_dq : checkTypeCall "collections.deque" ⟨[], []⟩ = pure () := by kernel_rfl
theorem newCall_dq : checkBuiltinCall "collections.deque.__new__" ⟨[.type "collections.deque"], []⟩ = pure () := by kernel_rfl
theorem entry_dq_new : entryFor table "collections.deque.__new__" = some Builtin.«collections.deque.__new__» := entryFor_of_tree (by kernel_rfl)
theorem plain_dq_new : plainId "collections.deque.__new__" = true := by decide +kernel
theorem entry_dq_init : entryFor table "collections.deque.__init__" = some Builtin.«collections.deque.__init__» := entryFor_of_tree (by kernel_rfl)
theorem args_dq_init (a : Value) : argsOk "collections.deque.__init__" ⟨[a], []⟩ := by unfold argsOk; kernel_rfl
theorem sub_dq : isSubtype (.type "collections.deque") (.type "collections.deque") = pure true := by rw [isSubtype_type]; kernel_rfl
section
variable {prog : Program} {w : World} {A : Around} {E : Value → Shared → Prop} {s : Shared}
theorem newArgs_dq : Builtin.Deque.newArgs Builtin.Deque.ty ⟨[.type "collections.deque"], []⟩ = pure (.type "collections.deque", []) := by
  unfold Builtin.Deque.newArgs
  dsimp only
  rw [show isType (.type "collections.deque") = pure true from rfl, pure_bind, show isSubtype (.type "collections.deque") (.type Builtin.Deque.ty) = pure true from sub_dq]
  simp only [Bool.not_true, Bool.false_eq_true, if_false, pure_bind]
theorem code_dq_new {Q₁ : Value → Shared → Prop} (h : Q₁ (.ref s.heap.objs.size) { s with heap := s.heap.push dqObj }) :
    codeAny (model prog w) A (.call (.builtin "collections.deque.__new__") ⟨[.type "collections.deque"], []⟩) (wants Q₁ E) s := by
  refine codeAny_call_builtin_code (plainId_quiet plain_dq_new _) (wpAny_of_eq newCall_dq (codeAny_builtin entry_dq_new ?_))
  unfold Builtin.«collections.deque.__new__» Builtin.Deque.new
  rw [newArgs_dq, pure_bind]
  dsimp only
  rw [if_neg (show ¬ (#[] : Array Value).size > sizeLine from Nat.not_lt_zero _), if_neg (show ¬ typeHasDict (.type "collections.deque") = true from by decide +kernel)]
  refine wpAny_bind (wpAny_bind (wpAny_pure ?_))
  exact wpAny_newObj_type (wpAny_pure h)
theorem init_dq {t : Addr} {R : Result → Shared → Prop} (ht : s.heap.get? t = some dqObj) (h : ∀ h', h'.get? t = some dqObj → Heap.SameBut t s.heap h' → R (.ok (.ret .none)) { s with heap := h' }) :
    wpAny (model prog w) A.in1 (Builtin.«collections.deque.__init__» ⟨[.ref t], []⟩)
      (fun fin s' => match fin with | .done f => R (.ok f) s' | .again c' => c'.quiet = true ∧ codeAny (model prog w) A c' R s') (fun e s' => R (.error e) s') s := by
  show wpAny _ _ (setField (.ref t) 0 .none >>= fun _ => Builtin.Deque.clear (.ref t) >>= fun _ => PySem.ret .none) _ _ _
  refine wpAny_bind (wpAny_setField_rec ht (by decide) fun h' e1 e2 => ?_)
  refine wpAny_bind ?_
  unfold Builtin.Deque.clear Builtin.Deque.items
  refine wpAny_bind (wpAny_bind (wpAny_fieldsOf e1 rfl (wpAny_pure ?_)))
  exact wpAny_pure (wpAny_pure (h h' e1 e2))
theorem dq_make {Q : Value → Shared → Prop} (h : ∀ (a : Nat) h', s.heap.StaysIn h' → s.heap.get? a = none → h'.get? a = some dqObj → Q (.ref a) { s with heap := h' }) :
    wpAny (model prog w) A (call (.type "collections.deque") []) Q E s := by
  refine callType_codes (Q₁ := fun obj s₁ => obj = .ref s.heap.objs.size ∧ s₁ = { s with heap := s.heap.push dqObj }) called_dq typeCall_dq entry_dq_init (code_dq_new ⟨rfl, rfl⟩) fun obj s₁ h₁ => ?_
  obtain ⟨rfl, rfl⟩ := h₁
  have hS : (s.heap.push dqObj).get? s.heap.objs.size = some dqObj := Heap.get?_push_size _ rfl
  refine ⟨⟨_, hS, rfl⟩, args_dq_init _, init_dq hS fun h' e1 e2 => ⟨rfl, h _ h' (fun b o e => ?_) ?_ e1⟩⟩
  · exact (e2.2 b (Nat.ne_of_lt (Heap.lt_size e))).trans (Heap.get?_push_of_some _ e)
  · cases e : s.heap.get? s.heap.objs.size with
    | none => rfl
    | some o => exact absurd (Heap.lt_size e) (Nat.lt_irrefl _)
end
theorem rstR10 {w : World} {A : Around} {s : Shared} {Q : Bool → Shared → Prop} {E : Value → Shared → Prop} (h : wpAny (md w) A (truthy (.bool true)) Q E s) : wpAny (md w) A (truthy (.bool true)) Q E s := by
  first | (walk1; fail) | exact h
-- R10
theorem fillR10 : Fill PySem.Challenge.rw_oc0205_01 kx := by
  k_fill
  exact True.intro
section
variable {w : World} {mean : ExcName → Option Value} {mg mb : Str → Option Value} {dp un : Nat} {fr : Option (List Env)} {gd : Option (List Code)} {s : Shared} {Q E : Value → Shared → Prop}
theorem newsAdd2 {h₀ h h' : Heap} {L a b : Addr} {m : Str → Option Value} {o o' : Obj} {news : List (Addr × Obj)} (F : Fr h₀ L h m) (N : News h₀ L h news) (k : h.StaysIn h') (e : h'.get? a = some o) (hf : h.get? a = none) (e' : h'.get? b = some o') (hf' : h.get? b = none) : News h₀ L h' ((a, o) :: (b, o') :: news) :=
  newsAdd F (newsAdd F (newsStays N k) e' hf') e hf
theorem newLt {h₀ h : Heap} {L a : Addr} {news : List (Addr × Obj)} (N : News h₀ L h news) (hf : h.get? a = none) : ∀ p ∈ news, @Ne Nat p.1 a := fun p hp q => by
  have := (N p hp).1
  rw [show p.1 = a from q, hf] at this; cases this
local macro_rules | `(tactic| walk_at "call ref") => `(tactic| (
  (with_reducible show wpAny _ _ (call (Value.ref 594) _) _ _ _);
  (with_reducible rename Fr _ _ _ _ => kF); (with_reducible rename News _ _ _ _ => kN);
  refine' sio_make ?k1 kF ?k2 ?_; (case k1 => assumption); (case k2 => (show _ + 1 + 2 < _; omega));
  intro a' da' S' tp' h' tk' st' na' nda' nad' ha' hda'; (have kN' := newsAdd2 kF kN st' ha' na' hda' nda'); (have l1' := newLt kN na'); (have l2' := newLt kN nda'); (simp only [List.forall_mem_cons, List.not_mem_nil, false_implies, implies_true, and_true] at l1' l2'); replace kF := frStays kF st'; clear kN; try dsimp only))
local macro_rules | `(tactic| walk_at "call type:collections.deque") => `(tactic| (
  (with_reducible rename Fr _ _ _ _ => kF); (with_reducible rename News _ _ _ _ => kN);
  refine' dq_make ?_;
  intro a' h' st' na' ha'; (have kN' := newsAdd kF (newsStays kN st') ha' na'); (have l1' := newLt kN na'); (simp only [List.forall_mem_cons, List.not_mem_nil, false_implies, implies_true, and_true] at l1'); replace kF := frStays kF st'; clear kN; try dsimp only))
noncomputable abbrev lexI (P : LP) (sio : Addr) (st : Value) (ln : Int) (tl : Tok) (tok : Str) (tt : Tok) : Obj :=
  dictOf [⟨P.hs 1, .str (Str.ofString "instream") (P.kt 1), .ref sio⟩, ⟨P.hs 2, .str (Str.ofString "infile") (P.kt 2), .none⟩, ⟨P.hs 3, .str (Str.ofString "posix") (P.kt 3), .bool P.b⟩, ⟨P.hs 4, .str (Str.ofString "eof") (P.kt 4), P.eof⟩, ⟨P.hs 5, .str (Str.ofString "commenters") (P.kt 5), .str (Str.ofString "#") P.tcm⟩, ⟨P.hs 6, .str (Str.ofString "wordchars") (P.kt 6), .str P.wc P.tw⟩, ⟨P.hs 7, .str (Str.ofString "whitespace") (P.kt 7), .str (Str.ofString " \t\r\n") P.tws⟩, ⟨P.hs 8, .str (Str.ofString "whitespace_split") (P.kt 8), .bool false⟩, ⟨P.hs 9, .str (Str.ofString "quotes") (P.kt 9), .str (Str.ofString "'\"") P.twq⟩, ⟨P.hs 10, .str (Str.ofString "escape") (P.kt 10), .str (Str.ofString "\\") P.tqe⟩, ⟨P.hs 11, .str (Str.ofString "escapedquotes") (P.kt 11), .str (Str.ofString "\"") P.tqq⟩, ⟨P.hs 12, .str (Str.ofString "state") (P.kt 12), st⟩, ⟨P.hs 13, .str (Str.ofString "pushback") (P.kt 13), .ref P.pb⟩, ⟨P.hs 14, .str (Str.ofString "lineno") (P.kt 14), .int ln tl⟩, ⟨P.hs 15, .str (Str.ofString "debug") (P.kt 15), .int 0 P.tdb⟩, ⟨P.hs 16, .str (Str.ofString "token") (P.kt 16), .str tok tt⟩, ⟨P.hs 17, .str (Str.ofString "filestack") (P.kt 17), .ref P.fs⟩, ⟨P.hs 18, .str (Str.ofString "source") (P.kt 18), .none⟩, ⟨P.hs 19, .str (Str.ofString "_punctuation_chars") (P.kt 19), .str (Str.ofString "") P.tpc⟩] 19
theorem lexI_mk {e1 e2 e3 e4 e5 e6 e7 e8 e9 e10 e11 e12 e13 e14 e15 e16 e17 e18 e19 : Int} {k1 k2 k3 k4 k5 k6 k7 k8 k9 k10 k11 k12 k13 k14 k15 k16 k17 k18 k19 tcm tw tws twq tqe tqq tdb tpc tl tt : Tok} {b : Bool} {eof st : Value} {wc tok : Str} {pb fs sio : Addr} {ln : Int} :
    dictOf [⟨e1, .str (Str.ofString "instream") k1, .ref sio⟩, ⟨e2, .str (Str.ofString "infile") k2, .none⟩, ⟨e3, .str (Str.ofString "posix") k3, .bool b⟩, ⟨e4, .str (Str.ofString "eof") k4, eof⟩, ⟨e5, .str (Str.ofString "commenters") k5, .str (Str.ofString "#") tcm⟩, ⟨e6, .str (Str.ofString "wordchars") k6, .str wc tw⟩, ⟨e7, .str (Str.ofString "whitespace") k7, .str (Str.ofString " \t\r\n") tws⟩, ⟨e8, .str (Str.ofString "whitespace_split") k8, .bool false⟩, ⟨e9, .str (Str.ofString "quotes") k9, .str (Str.ofString "'\"") twq⟩, ⟨e10, .str (Str.ofString "escape") k10, .str (Str.ofString "\\") tqe⟩, ⟨e11, .str (Str.ofString "escapedquotes") k11, .str (Str.ofString "\"") tqq⟩, ⟨e12, .str (Str.ofString "state") k12, st⟩, ⟨e13, .str (Str.ofString "pushback") k13, .ref pb⟩, ⟨e14, .str (Str.ofString "lineno") k14, .int ln tl⟩, ⟨e15, .str (Str.ofString "debug") k15, .int 0 tdb⟩, ⟨e16, .str (Str.ofString "token") k16, .str tok tt⟩, ⟨e17, .str (Str.ofString "filestack") k17, .ref fs⟩, ⟨e18, .str (Str.ofString "source") k18, .none⟩, ⟨e19, .str (Str.ofString "_punctuation_chars") k19, .str (Str.ofString "") tpc⟩] 19 =
    lexI ⟨fun n => [e1, e2, e3, e4, e5, e6, e7, e8, e9, e10, e11, e12, e13, e14, e15, e16, e17, e18, e19].getD (n - 1) 0, fun n => [k1, k2, k3, k4, k5, k6, k7, k8, k9, k10, k11, k12, k13, k14, k15, k16, k17, k18, k19].getD (n - 1) 0, b, eof, wc, tcm, tw, tws, twq, tqe, tqq, tdb, tpc, pb, fs⟩ sio st ln tl tok tt := rfl
/-- a shlex's dict behind __init__ -/
noncomputable def IsLexI (o : Obj) (b : Bool) (sio pb fs : Addr) : Prop := ∃ P ln tl tt tsv, P.b = b ∧ P.pb = pb ∧ P.fs = fs ∧ WV P.eof (if b then none else some eS) ∧ notIn P.wc 39 = true ∧ notIn P.wc 34 = true ∧ o = lexI P sio (.str (Str.ofString " ") tsv) ln tl eS tt
theorem wcLen1 : (Str.ofString "abcdfeghijklmnopqrstuvwxyzABCDEFGHIJKLMNOPQRSTUVWXYZ0123456789_").length ≤ 100 := by decide +kernel
theorem wcLen2 : (Str.ofString "ßàáâãäåæçèéêëìíîïðñòóôõöøùúûüýþÿÀÁÂÃÄÅÆÇÈÉÊËÌÍÎÏÐÑÒÓÔÕÖØÙÚÛÜÝÞ").length ≤ 100 := by decide +kernel
local macro_rules | `(tactic| walk_at "my len") => `(tactic| first | with_reducible exact wcLen1 | with_reducible exact wcLen2)
@[reducible] noncomputable def inTailP : PSigma fun b : List Stmt => bd653.drop 7 = b := by
  refine ⟨?b, ?h⟩
  case h => (conv => lhs; whnf)
@[reducible] noncomputable def inTail : List Stmt := inTailP.1
@[reducible] noncomputable def in0P : PSigma fun st : Stmt => (bd653[0]?).getD (.Pass default) = st := by
  refine ⟨?b, ?h⟩
  case h => (conv => lhs; whnf)
@[reducible] noncomputable def in1P : PSigma fun st : Stmt => (bd653[1]?).getD (.Pass default) = st := by
  refine ⟨?b, ?h⟩
  case h => (conv => lhs; whnf)
@[reducible] noncomputable def in2P : PSigma fun st : Stmt => (bd653[2]?).getD (.Pass default) = st := by
  refine ⟨?b, ?h⟩
  case h => (conv => lhs; whnf)
@[reducible] noncomputable def in3P : PSigma fun st : Stmt => (bd653[3]?).getD (.Pass default) = st := by
  refine ⟨?b, ?h⟩
  case h => (conv => lhs; whnf)
@[reducible] noncomputable def in4P : PSigma fun st : Stmt => (bd653[4]?).getD (.Pass default) = st := by
  refine ⟨?b, ?h⟩
  case h => (conv => lhs; whnf)
@[reducible] noncomputable def in5P : PSigma fun st : Stmt => (bd653[5]?).getD (.Pass default) = st := by
  refine ⟨?b, ?h⟩
  case h => (conv => lhs; whnf)
@[reducible] noncomputable def in6P : PSigma fun st : Stmt => (bd653[6]?).getD (.Pass default) = st := by
  refine ⟨?b, ?h⟩
  case h => (conv => lhs; whnf)
@[reducible] noncomputable def inHead : List Stmt := [in0P.1, in1P.1, in2P.1, in3P.1, in4P.1, in5P.1, in6P.1]
theorem bd653_eq : bd653 = inHead ++ inTail := rfl
noncomputable abbrev inE (L : Addr) : Env := envOf (Str.ofString "shlex.__init__") sc653 L 653 (.ref 652)
noncomputable abbrev inM (lx sio : Addr) (cs : List Nat) (t : Tok) (b : Bool) : Str → Option Value := fun y => if y = Str.ofString "instream" then some (Value.ref sio) else [(Str.ofString "self", Value.ref lx), (Str.ofString "instream", .str (ofL cs) t), (Str.ofString "infile", .none), (Str.ofString "posix", .bool b), (Str.ofString "punctuation_chars", .bool false)].reverse.lookup y
section
variable {lx dl : Nat} {cs : List Nat} {t : Tok} {b : Bool}
theorem init_head {g : Heap} {L : Addr} {QF : Flow → Shared → Prop} (W : Wd w mean mg mb g) (hroom : dp + 3 < recursionLimit) (hc : cs.length ≤ 100000) (hne : lx ≠ dl)
    (F : Fr g L s.heap (fun y => [(Str.ofString "self", Value.ref lx), (Str.ofString "instream", .str (ofL cs) t), (Str.ofString "infile", .none), (Str.ofString "posix", .bool b), (Str.ofString "punctuation_chars", .bool false)].reverse.lookup y))
    (N : News g L s.heap [(lx, instObj 729 dl), (dl, dictOf [] 0)])
    (ret : ∀ (sio ds : Nat) (S : SP) (tp k1 k2 k3 k4 k5 k6 tcm tw : Tok) (e1 e2 e3 e4 e5 e6 : Int) (eof : Value) (wc : Str) h' tk, WV eof (if b then none else some eS) → notIn wc 39 = true → notIn wc 34 = true → lx ≠ sio ∧ dl ≠ sio → lx ≠ ds ∧ dl ≠ ds → sio ≠ ds →
      Fr g L h' (inM lx sio cs t b) → News g L h' [(sio, instObj 594 ds), (ds, sioO S cs 0 tp), (lx, instObj 729 dl), (dl, dictOf [⟨e1, .str (Str.ofString "instream") k1, .ref sio⟩, ⟨e2, .str (Str.ofString "infile") k2, .none⟩, ⟨e3, .str (Str.ofString "posix") k3, .bool b⟩, ⟨e4, .str (Str.ofString "eof") k4, eof⟩, ⟨e5, .str (Str.ofString "commenters") k5, .str (Str.ofString "#") tcm⟩, ⟨e6, .str (Str.ofString "wordchars") k6, .str wc tw⟩] 6)] →
      QF .next { s with heap := h', toks := tk }) : wpAny (md w) (AR (dp + 1) un fr gd) (execs inHead (inE L)) QF E s := by
  have X := W.X
  have T := W.T
  have hne' := hne
  cases b
  all_goals
    w_on
    w_top on
    walk_at "my steps"
    all_goals (try dsimp only)
  all_goals (
    rename News _ _ _ _ => kN
    rename Fr _ _ _ _ => kF
    refine ret _ _ _ _ _ _ _ _ _ _ _ _ _ _ _ _ _ _ _ _ _ _ ?q1 ?q2 ?q3 (by assumption) (by assumption) (by assumption) kF kN
    case q1 => first | exact WV.some | exact WV.none
    case q2 => decide +kernel
    case q3 => decide +kernel)
theorem init_tail {g : Heap} {L sio ds : Addr} {S : SP} {tp k1 k2 k3 k4 k5 k6 tcm tw : Tok} {e1 e2 e3 e4 e5 e6 : Int} {eof : Value} {wc : Str} {QF : Flow → Shared → Prop} (W : Wd w mean mg mb g) (n1 : lx ≠ dl) (n2 : lx ≠ sio ∧ dl ≠ sio) (n3 : lx ≠ ds ∧ dl ≠ ds) (n4 : sio ≠ ds)
    (heo : WV eof (if b then none else some eS)) (h39 : notIn wc 39 = true) (h34 : notIn wc 34 = true)
    (F : Fr g L s.heap (inM lx sio cs t b))
    (N : News g L s.heap [(sio, instObj 594 ds), (ds, sioO S cs 0 tp), (lx, instObj 729 dl), (dl, dictOf [⟨e1, .str (Str.ofString "instream") k1, .ref sio⟩, ⟨e2, .str (Str.ofString "infile") k2, .none⟩, ⟨e3, .str (Str.ofString "posix") k3, .bool b⟩, ⟨e4, .str (Str.ofString "eof") k4, eof⟩, ⟨e5, .str (Str.ofString "commenters") k5, .str (Str.ofString "#") tcm⟩, ⟨e6, .str (Str.ofString "wordchars") k6, .str wc tw⟩] 6)])
    (ret : ∀ (pb fs : Nat) o h' tk m, IsLexI o b sio pb fs → Fr g L h' m → News g L h' [(fs, dqObj), (pb, dqObj), (sio, instObj 594 ds), (ds, sioO S cs 0 tp), (lx, instObj 729 dl), (dl, o)] → (pb ≠ lx ∧ pb ≠ dl ∧ pb ≠ sio ∧ pb ≠ ds ∧ fs ≠ lx ∧ fs ≠ dl ∧ fs ≠ sio ∧ fs ≠ ds) → QF .next { s with heap := h', toks := tk }) :
    wpAny (md w) (AR (dp + 1) un fr gd) (execs inTail (inE L)) QF E s := by
  have X := W.X
  have T := W.T
  have n2' := n2.1
  have n2'' := n2.2
  have n3' := n3.1
  have n3'' := n3.2
  w_on
  w_top on
  walk_at "my steps"
  all_goals (try dsimp only)
  rename News _ _ _ _ => kN
  rename Fr _ _ _ _ => kF
  refine ret _ _ _ _ _ _ ?isl kF kN (by omega)
  refine ⟨_, _, _, _, _, ?q1, ?q2, ?q3, ?q4, ?q5, ?q6, lexI_mk⟩
  case q1 => exact rfl
  case q2 => exact rfl
  case q3 => exact rfl
  case q4 => exact heo
  case q5 => exact h39
  case q6 => exact h34
theorem init653_ct (W : Wd w mean mg mb (hideAll s.heap [lx, dl])) (hroom : dp + 3 < recursionLimit) (hc : cs.length ≤ 100000) (hx : s.heap.get? lx = some (instObj 729 dl)) (hd : s.heap.get? dl = some (dictOf [] 0)) (hne : lx ≠ dl)
    (ret : ∀ (sio ds pb fs : Nat) o S tp h' tk, IsLexI o b sio pb fs → (hideAll s.heap [lx, dl]).StaysIn h' → (∀ a ∈ [sio, ds, pb, fs], (hideAll s.heap [lx, dl]).get? a = none) → h'.get? lx = some (instObj 729 dl) → h'.get? dl = some o → h'.get? sio = some (instObj 594 ds) → h'.get? ds = some (sioO S cs 0 tp) →
      h'.get? pb = some dqObj → h'.get? fs = some dqObj → (lx ≠ sio ∧ lx ≠ ds ∧ dl ≠ sio ∧ dl ≠ ds ∧ sio ≠ ds ∧ pb ≠ lx ∧ pb ≠ dl ∧ pb ≠ sio ∧ pb ≠ ds ∧ fs ≠ lx ∧ fs ≠ dl ∧ fs ≠ sio ∧ fs ≠ ds) → Q .none { s with heap := h', toks := tk }) :
    codeAny (md w) (AR dp un fr gd) (.call (.ref 653) ⟨[.ref lx, .str (ofL cs) t], [(Str.ofString "posix", .bool b)]⟩) (fun r s' => match r with | .ok (.ret v) => Q v s' | .ok _ => False | .error e => E e s') s := by
  have X := W.X
  have T := W.T
  refine enterKc (binds := [("self", .ref lx), ("instream", .str (ofL cs) t), ("infile", .none), ("posix", .bool b), ("punctuation_chars", .bool false)]) [(lx, instObj 729 dl), (dl, dictOf [] 0)] W (hN2 hx hd) (by k_is) (by k_is) (by show dp < _; omega) (binds_K W.shown.X rfl (by k_is) rfl rfl rfl) (locs rfl) ?_ rfl rfl rfl (by decide)
  intro h₁ L hL F N
  dsimp only [ks, List.map] at F N
  rw [bd653_eq]
  refine execsApp (init_head (s := { s with heap := h₁, toks := _ }) W hroom hc hne F N ?_)
  intro sio ds S tp k1 k2 k3 k4 k5 k6 tcm tw e1 e2 e3 e4 e5 e6 eof wc h1 tk1 heo h39 h34 n2 n3 n4 F1 N1
  dsimp only
  refine init_tail (s := { s with heap := h1, toks := tk1 }) W hne n2 n3 n4 heo h39 h34 F1 N1 ?_
  intro pb fs o h2 tk2 m hI F2 N2 hn
  refine ret sio ds pb fs o S tp h2 tk2 hI (Fr.keep F2) ?_ (News.get N2 (by k_mem)) (News.get N2 (by k_mem)) (News.get N2 (by k_mem)) (News.get N2 (by k_mem)) (News.get N2 (by exact List.Mem.tail _ (List.Mem.head _))) (News.get N2 (by exact List.Mem.head _)) ⟨n2.1, n3.1, n2.2, n3.2, n4, hn⟩
  intro a ha
  simp only [List.mem_cons, List.not_mem_nil, or_false] at ha
  rcases ha with rfl | rfl | rfl | rfl
  · exact newsFresh N2 (List.Mem.tail _ (List.Mem.tail _ (List.Mem.head _)))
  · exact newsFresh N2 (List.Mem.tail _ (List.Mem.tail _ (List.Mem.tail _ (List.Mem.head _))))
  · exact newsFresh N2 (List.Mem.tail _ (List.Mem.head _))
  · exact newsFresh N2 (List.Mem.head _)
end
end
theorem rstR11 {w : World} {A : Around} {s : Shared} {Q : Bool → Shared → Prop} {E : Value → Shared → Prop} (h : wpAny (md w) A (truthy (.bool true)) Q E s) : wpAny (md w) A (truthy (.bool true)) Q E s := by
  first | (walk1; fail) | exact h
-- R11
theorem fillR11 : Fill PySem.Challenge.rw_oc0205_01 kx := by
  k_fill
  exact True.intro
section
variable {w : World} {mean : ExcName → Option Value} {mg mb : Str → Option Value} {dp un : Nat} {fr : Option (List Env)} {gd : Option (List Code)} {s : Shared} {Q E : Value → Shared → Prop}
theorem lex_make {cs : List Nat} {t : Tok} {b : Bool} {g : Heap} {L : Addr} {m : Str → Option Value} {news : List (Addr × Obj)} (Wg : Wd w mean mg mb g) (F : Fr g L s.heap m) (N : News g L s.heap news) (hroom : dp + 4 < recursionLimit) (hc : cs.length ≤ 100000)
    (ret : ∀ (lx dl sio ds pb fs : Nat) o S tp h' tk, IsLexI o b sio pb fs → s.heap.StaysIn h' → (∀ a ∈ [lx, dl, sio, ds, pb, fs], s.heap.get? a = none) → h'.get? lx = some (instObj 729 dl) → h'.get? dl = some o → h'.get? sio = some (instObj 594 ds) → h'.get? ds = some (sioO S cs 0 tp) →
      h'.get? pb = some dqObj → h'.get? fs = some dqObj → lx ≠ dl → (lx ≠ sio ∧ lx ≠ ds ∧ dl ≠ sio ∧ dl ≠ ds ∧ sio ≠ ds ∧ pb ≠ lx ∧ pb ≠ dl ∧ pb ≠ sio ∧ pb ≠ ds ∧ fs ≠ lx ∧ fs ≠ dl ∧ fs ≠ sio ∧ fs ≠ ds) → Q (.ref lx) { s with heap := h', toks := tk }) :
    wpAny (md w) (AR dp un fr gd) (call (.ref 729) [.str (ofL cs) t] [(Str.ofString "posix", .bool b)]) Q E s := by
  have W : Wd w mean mg mb s.heap := Wg.keeps F.keep
  have X := W.X
  obtain ⟨h, gn, dr, tk, os⟩ := s
  refine wpAny_call (make_core (makes_of X (by k_is)) (looks_findIn X (r := some (.ref 653)) (by k_is)) (fun self => bind_fn X self (by k_is)) (.inl rfl) ?_)
  obtain ⟨un', gd', eA⟩ := underMake (dp := dp) (un := un) (fr := fr) (gd := gd) 729 [.str (ofL cs) t] [(Str.ofString "posix", .bool b)]
  rw [eA]
  have st : h.StaysIn ((h.push emptyDict).push (instObj 729 h.objs.size)) := fun b o e => Heap.get?_push_of_some _ (Heap.get?_push_of_some _ e)
  have hx : ((h.push emptyDict).push (instObj 729 h.objs.size)).get? (h.objs.size + 1) = some (instObj 729 h.objs.size) := by heap_get
  have hd : ((h.push emptyDict).push (instObj 729 h.objs.size)).get? h.objs.size = some (dictOf [] 0) := by heap_get
  have nn : ∀ a, h.objs.size ≤ a → h.get? a = none := fun a ha => by
    cases e : h.get? a with
    | none => rfl
    | some o => exact absurd (Heap.lt_size e) (Nat.not_lt.mpr ha)
  have nx : h.get? (h.objs.size + 1) = none := nn _ (by omega)
  have nd : h.get? h.objs.size = none := nn _ (Nat.le_refl _)
  have sh : h.StaysIn (hideAll ((h.push emptyDict).push (instObj 729 h.objs.size)) [h.objs.size + 1, h.objs.size]) := fun b o e => hideAll_get _ (st _ _ e) fun hm => by
    simp only [List.mem_cons, List.not_mem_nil, or_false] at hm
    rcases hm with rfl | rfl
    · rw [nx] at e; cases e
    · rw [nd] at e; cases e
  have ne : h.objs.size + 1 ≠ h.objs.size := Nat.ne_of_gt (Nat.lt_succ_self _)
  generalize (h.push emptyDict).push (instObj 729 h.objs.size) = h₂ at st hx hd sh ⊢
  generalize h.objs.size + 1 = lx at nx hx sh ne ⊢
  generalize h.objs.size = dl at nd hd hx sh ne ⊢
  refine codeAny_mono (init653_ct (s := ⟨h₂, gn, dr, tk, os⟩) (Q := fun v s' => v = .none ∧ Q (.ref lx) s') (E := E) (W.keeps sh) (by omega) hc hx hd ne ?_) ?_
  · intro sio ds pb fs o S tp h' tk' hI st' nn' g1 g2 g3 g4 g5 g6 nes
    have hne := nes
    refine ⟨rfl, ret lx dl sio ds pb fs o S tp h' tk' hI (fun b o e => st' _ _ (sh _ _ e)) ?_ g1 g2 g3 g4 g5 g6 ne nes⟩
    intro a ha
    simp only [List.mem_cons, List.not_mem_nil, or_false] at ha
    have fr : ∀ a ∈ [sio, ds, pb, fs], h.get? a = none := fun a ha => fresh_of_stays sh (nn' a ha)
    rcases ha with rfl | rfl | ha
    · exact nx
    · exact nd
    · exact fr a (by simp only [List.mem_cons, List.not_mem_nil, or_false]; exact ha)
  · intro r s' hr
    rcases r with e | (_ | _ | _ | v)
    · exact hr
    · exact hr.elim
    · exact hr.elim
    · exact hr.elim
    · exact hr
noncomputable abbrev L6 (lx dl sio ds pb fs : Addr) (o2 o4 : Obj) : List (Addr × Obj) := [(lx, instObj 729 dl), (dl, o2), (sio, instObj 594 ds), (ds, o4), (pb, dqObj), (fs, dqObj)]
theorem newsAll {h₀ h h' : Heap} {L : Addr} {m : Str → Option Value} {news : List (Addr × Obj)} (F : Fr h₀ L h m) : ∀ (ads : List (Addr × Obj)), (∀ p ∈ ads, h'.get? p.1 = some p.2) → (∀ p ∈ ads, h.get? p.1 = none) → News h₀ L h' news → News h₀ L h' (ads ++ news)
  | [], _, _, N => N
  | (a, o) :: r, h1, h2, N => newsAdd F (newsAll F r (fun p hp => h1 p (.tail _ hp)) (fun p hp => h2 p (.tail _ hp)) N) (h1 _ (.head _)) (h2 _ (.head _))
local macro_rules | `(tactic| walk_at "call ref") => `(tactic| (
  (with_reducible show wpAny _ _ (call (Value.ref 729) _ _) _ _ _);
  (with_reducible rename Fr _ _ _ _ => kF); (with_reducible rename News _ _ _ _ => kN);
  refine' lex_make ?k1 kF kN ?k2 ?k3 ?_; (case k1 => assumption); (case k2 => (dsimp only; omega)); (case k3 => assumption);
  intro lx' dl' sio' ds' pb' fs' o' S' tp' h' tk' hI' st' nn' g1' g2' g3' g4' g5' g6' ne' nes';
  (have kN' := newsAll kF (L6 lx' dl' sio' ds' pb' fs' o' (sioO S' _ 0 tp')) (by simp only [List.forall_mem_cons]; exact ⟨g1', g2', g3', g4', g5', g6', fun _ h => nomatch h⟩) (by simp only [List.forall_mem_cons]; exact ⟨nn' _ (.head _), nn' _ (.tail _ (.head _)), nn' _ (.tail _ (.tail _ (.head _))), nn' _ (.tail _ (.tail _ (.tail _ (.head _)))), nn' _ (.tail _ (.tail _ (.tail _ (.tail _ (.head _))))), nn' _ (.tail _ (.tail _ (.tail _ (.tail _ (.tail _ (.head _)))))), fun _ h => nomatch h⟩) (newsStays kN st'));
  replace kF := frStays kF st'; clear kN nn' g1' g2' g3' g4' g5' g6' st'; (obtain ⟨P', ln', tl', tt', tsv', hb', hpb', hfs', he', h39', h34', ho'⟩ := hI'); subst ho' hpb' hfs'; try dsimp only))
section
variable {cs : List Nat} {t : Tok} {b pl : Bool} {B : Heap} {outer : List Env}
theorem split_end {lx dl sio ds : Nat} {P : LP} {S : SP} {ln : Int} {tl tt tsv tp : Tok} {g : Heap} {L a : Addr} {m : Str → Option Value} {name : Str} {scope : Scope} {cd : Value}
    (W : Wd w mean mg mb g) (K : Below (AR dp un fr gd) B outer g) (F : Fr g L s.heap m) (N : News g L s.heap (L6 lx dl sio ds P.pb P.fs (lexO P sio (.str (Str.ofString " ") tsv) ln tl eS tt) (sioO S cs 0 tp))) (hroom : dp + 8 < recursionLimit) (hc : cs.length ≤ 100000)
    (n1 : lx ≠ dl) (n2 : lx ≠ sio) (n3 : lx ≠ ds) (n4 : dl ≠ sio) (n5 : dl ≠ ds) (n6 : sio ≠ ds) (p1 : P.pb ≠ lx) (p2 : P.pb ≠ dl) (p3 : P.pb ≠ sio) (p4 : P.pb ≠ ds) (f1 : P.fs ≠ lx) (f2 : P.fs ≠ dl) (f3 : P.fs ≠ sio) (f4 : P.fs ≠ ds)
    (h39 : notIn P.wc 39 = true) (h34 : notIn P.wc 34 = true) (hb : P.b = !pl) (heof : WV P.eof (if P.b then none else some eS)) (hk : scope.kind = .function)
    (ret : ∀ (ls : Nat) xs vs c h' tk, told pl ⟨mG, none, []⟩ cs = some xs → SV vs xs → g.get? ls = none → h'.get? ls = some (listObj vs c) → (hideAll g (outer.filterMap (·.frame))).StaysIn h' → g.UpToSlots h' → Q (.ref ls) { s with heap := h', toks := tk })
    (retX : told pl ⟨mG, none, []⟩ cs = none → ∀ h' e tk, Fly B g outer e h' → E (.ref e) { s with heap := h', toks := tk }) :
    wpAny (md w) ((AR dp un fr gd).deeper (envOf name scope L a cd)) (call (.type "list") [.ref lx]) Q
      (fun e s' => wpAny (md w) ((AR dp un fr gd).deeper (envOf name scope L a cd)) (leaving (envOf name scope L a cd) e) (fun _ s'' => E e s'') (fun e' s'' => E e' s'') s') s := by
  have sub : ∀ p ∈ L4 lx dl sio ds (lexO P sio (.str (Str.ofString " ") tsv) ln tl eS tt) (sioO S cs 0 tp), p ∈ L6 lx dl sio ds P.pb P.fs (lexO P sio (.str (Str.ofString " ") tsv) ln tl eS tt) (sioO S cs 0 tp) := by
    simp only [List.forall_mem_cons]
    exact ⟨.head _, .tail _ (.head _), .tail _ (.tail _ (.head _)), .tail _ (.tail _ (.tail _ (.head _))), fun _ h => nomatch h⟩
  have ng : ∀ b ∈ [lx, dl, sio, ds], g.get? b = none := by
    intro b hb
    simp only [List.mem_cons, List.not_mem_nil, or_false] at hb
    rcases hb with rfl | rfl | rfl | rfl
    · exact (N _ (.head _)).2.2
    · exact (N _ (.tail _ (.head _))).2.2
    · exact (N _ (.tail _ (.tail _ (.head _)))).2.2
    · exact (N _ (.tail _ (.tail _ (.tail _ (.head _))))).2.2
  have gs : g.StaysIn (hideAll s.heap [lx, dl, sio, ds]) := fun b o e => hideAll_get _ (F.keep _ _ e) fun hm => by rw [ng b hm] at e; cases e
  have K' : Below ((AR dp un fr gd).deeper (envOf name scope L a cd)) B (envOf name scope L a cd :: outer) (hideAll s.heap [lx, dl, sio, ds]) := belowHide (ads := L4 lx dl sio ds (lexO P sio (.str (Str.ofString " ") tsv) ln tl eS tt) (sioO S cs 0 tp)) K F N sub hk
  have W' : Wd w mean mg mb (hideAll s.heap [lx, dl, sio, ds]) := W.keeps gs
  refine list_ct (pl := pl) (P := P) (S := S) (tsv := tsv) (ln := ln) (tl := tl) (tt := tt) (tp := tp) (B := B) (outer := envOf name scope L a cd :: outer) W F (by show dp + 1 + 6 < _; omega) hc (fun x hx => (N x (sub x hx)).1) n1 n2 n3 n4 n5 n6 h39 h34 hb W' K' ?_ ?_ heof ?_ ?_
  · exact hideAll_get _ (N _ (.tail _ (.tail _ (.tail _ (.tail _ (.head _)))))).1 (by simp [p1, p2, p3, p4])
  · exact hideAll_get _ (N _ (.tail _ (.tail _ (.tail _ (.tail _ (.tail _ (.head _))))))).1 (by simp [f1, f2, f3, f4])
  · intro ls xs vs c h' tk e1 e2 e3 e4 e5 e6
    refine ret ls xs vs c h' tk e1 e2 (fresh_of_stays F.keep e3) e4 (fun b o e => e5 _ _ (hideAll_get _ (gs _ _ (of_hideAll _ e)) fun hm => ?_)) ((Heap.UpToSlots.of_keeps gs).trans e6)
    have hL : b ≠ L := fun q => by
      have := Heap.lt_size (of_hideAll _ e)
      rw [q] at this
      exact absurd (Nat.lt_of_lt_of_le this F.above) (Nat.lt_irrefl _)
    rw [List.filterMap_cons] at hm
    rcases List.mem_cons.mp hm with q | q
    · exact hL q
    · rw [hideAll_none _ q] at e; cases e
  · intro e1 h' e tk fl
    exact leaveOn (s' := { s with heap := h', toks := tk }) K F fl ng (fun h'' fl' => retX e1 h'' e tk fl')
theorem split_ct (W : Wd w mean mg mb s.heap) (K : Below (AR dp un fr gd) B outer s.heap) (hroom : dp + 8 < recursionLimit) (hc : cs.length ≤ 100000) (hb : b = !pl)
    (ret : ∀ (ls : Nat) xs vs c h' tk, told pl ⟨mG, none, []⟩ cs = some xs → SV vs xs → s.heap.get? ls = none → h'.get? ls = some (listObj vs c) → (hideAll s.heap (outer.filterMap (·.frame))).StaysIn h' → s.heap.UpToSlots h' → Q (.ref ls) { s with heap := h', toks := tk })
    (retX : told pl ⟨mG, none, []⟩ cs = none → ∀ h' e tk, Fly B s.heap outer e h' → E (.ref e) { s with heap := h', toks := tk }) :
    wpAny (md w) (AR dp un fr gd) (call (.ref 741) [.str (ofL cs) t] [(Str.ofString "comments", .bool true), (Str.ofString "posix", .bool b)]) Q E s := by
  have X := W.X
  have T := W.T
  refine enterA (binds := [("s", .str (ofL cs) t), ("comments", .bool true), ("posix", .bool b)]) W (by k_is) (by k_is) (by show dp < _; omega) (binds_K W.X rfl (by k_is) rfl rfl rfl) (locs rfl) ?_ rfl rfl rfl (by decide)
  intro h₁ L hL F N
  w_on
  w_top on
  walk_at "my steps"
  all_goals (try dsimp only)
  rename News _ _ _ _ => kN
  rename Fr _ _ _ _ => kF
  rename (_ ≠ _) ∧ _ => nes
  rename (_ : Nat) ≠ _ => ne1
  rename notIn _ 39 = true => h39
  rename notIn _ 34 = true => h34
  rename WV _ _ => heof
  rename (_ : Bool) = b => hPb
  obtain ⟨n2, n3, n4, n5, n6, p1, p2, p3, p4, f1, f2, f3, f4⟩ := nes
  exact split_end W K kF kN hroom hc ne1 n2 n3 n4 n5 n6 p1 p2 p3 p4 f1 f2 f3 f4 h39 h34 (hPb.trans hb) (by rw [hPb]; exact heof) rfl ret retX
end
end
theorem rstR12 {w : World} {A : Around} {s : Shared} {Q : Bool → Shared → Prop} {E : Value → Shared → Prop} (h : wpAny (md w) A (truthy (.bool true)) Q E s) : wpAny (md w) A (truthy (.bool true)) Q E s := by
  first | (walk1; fail) | exact h
-- R12
theorem fillR12 : Fill PySem.Challenge.rw_oc0205_01 kx := by
  k_fill
  exact True.intro
section
variable {w : World} {mean : ExcName → Option Value} {mg mb : Str → Option Value} {dp un : Nat} {fr : Option (List Env)} {gd : Option (List Code)} {s : Shared} {Q E : Value → Shared → Prop}
/-- a list of texts, or None -/
inductive LsV (h : Heap) : Value → Option (List Str) → Prop
  | none : LsV h .none none
  | some {ls : Nat} {vs : List Value} {xs : List Str} {c : Nat} : h.get? ls = some (listObj vs c) → SV vs xs → LsV h (.ref ls) (some xs)
theorem caughtVE {A₀ : Around} {s' : Shared} {B g h : Heap} {outer : List Env} {L a e : Addr} {m : Str → Option Value} {name : Str} {scope : Scope} {cd : Value} {np p1 p2 pos : Pos} {kk : Nat} {QF : Flow → Shared → Prop}
    (K : Below A₀ B outer g) (F : Fr g L h m) (WB : Wd w mean mg mb B) (fl : Fly (hideAll h ((envOf name scope L a cd :: outer).filterMap (·.frame))) h (envOf name scope L a cd :: outer) e s'.heap)
    (hQ : ∀ h', (hideAll g (outer.filterMap (·.frame))).StaysIn h' → g.UpToSlots h' → QF (.ret .none) { s' with heap := h' })
    (hk : scope.kind = .function) (hx : (envOf name scope L a cd).kindOf (Str.ofString "ValueError") = some .globalImplicit)
    (hE : PassesOwnAt (md w) ((A₀.deeper (envOf name scope L a cd)).mark (some (.ref e))) (A₀.deeper (envOf name scope L a cd)) (envOf name scope L a cd) E := by passes_own) :
    wpAny (md w) (A₀.deeper (envOf name scope L a cd)) (noteFrame (.ref e) (envOf name scope L a cd))
      (fun _ s₂ => wpAny (md w) (A₀.deeper (envOf name scope L a cd)) (setFlight (.ref e) none) (fun _ s₃ =>
        wpAny (md w) (A₀.deeper (envOf name scope L a cd)) (handleBy (.ref e) (envOf name scope L a cd) [.ExceptHandler (some (.Name (Str.ofString "ValueError") np)) none [.Return (some (.Constant .none kk p1)) p2] pos]) QF E s₃) E s₂) E s' := by
  obtain ⟨⟨a0, hfl⟩, hsm⟩ := fl
  have gB : (hideAll g (outer.filterMap (·.frame))).StaysIn (hideAll h ((envOf name scope L a cd :: outer).filterMap (·.frame))) := fun b o q => hideAll_get _ (F.keep _ _ (of_hideAll _ q)) fun hm => by
    rw [List.filterMap_cons] at hm
    rcases List.mem_cons.mp hm with z | z
    · have := Heap.lt_size (of_hideAll _ q)
      rw [show b = L from z] at this
      exact absurd (Nat.lt_of_lt_of_le this F.above) (Nat.lt_irrefl _)
    · rw [hideAll_none _ z] at q; cases q
  have W : Wd w mean mg mb (hideAll g (outer.filterMap (·.frame))) := WB.keeps (baseAll K)
  have T := W.T
  have F0 : Fr (hideAll g (outer.filterMap (·.frame))) L h m := ⟨F.ns, fun b o q => F.keep _ _ (of_hideAll _ q), Nat.le_trans (Nat.le_of_eq (hideAll_size _ _)) F.above⟩
  refine wpAny_looks_onW (Around.frames_deeper K.stack) rfl hfl fun h₄ hheld₄ hsm₄ => ?_
  refine wpAny_landsW hheld₄ fun h₅ hheld hsm₅' => ?_
  have hsm₅ := hsm₄.trans hsm₅'
  have hheld' := flyingW_base gB hheld
  have F₅ := F0.of_stays hheld'.1 (hsm.trans hsm₅)
  obtain ⟨ob, hob, hobc⟩ := hheld'.there
  refine wpAny_handleBy_builtin (X := "ValueError") (T := "ValueError") (b := true) (by first | rfl | kernel_rfl) (by first | rfl | kernel_rfl) (by first | rfl | kernel_rfl) (ld_builtin_at F₅ T.g (T.free (Str.ofString "ValueError") (by decide +kernel) (by decide +kernel) (by decide +kernel) (by decide +kernel) (by decide +kernel)) T.b ((T.builtins (Str.ofString "ValueError") (by decide +kernel)).trans (by rfl)) ⟨rfl, ⟨ob, hob, hobc⟩, ?_⟩ hk hx (by decide +kernel))
  refine lands_againW hheld fun h₆ hfl₆ hsm₆ => ?_
  have hfl₆' := flyingW_base gB hfl₆
  refine wpAny_passesOwnAt hE ?_
  rw [execs_cons]
  refine wpAny_bind (wpAny_Return_some (wpAny_pure (a := Value.none) ?_))
  exact wpAny_pure (hQ h₆ hfl₆'.1 ((Heap.UpToSlots.of_keeps F.keep).trans ((hsm.trans hsm₅).trans hsm₆)))
local macro_rules | `(tactic| walk_at "call ref") => `(tactic| (
  (with_reducible show wpAny _ _ (call (Value.ref 741) _ _) _ _ _);
  (with_reducible rename Fr _ _ _ _ => kF); (with_reducible rename News _ _ _ _ => kN); (with_reducible rename Below _ _ _ _ => kK);
  refine' split_ct (pl := _) ?k1 (belowAll (Below.push kK kF rfl)) ?k2 ?k3 ?k4 ?kR ?kX; (case k1 => exact Wd.keeps (by assumption) (Fr.keep kF)); (case k2 => (dsimp only; omega)); (case k3 => assumption); (case k4 => exact rfl);
  (case' kR => (intro ls' xs' vs' c' h' tk' e1' e2' e3' e4' e5' e6'; try dsimp only));
  (case' kX => (intro e1' h' e' tk' fl'; try dsimp only))))
section
variable {cs : List Nat} {t : Tok} {pl : Bool} {B : Heap} {outer : List Env}
theorem lsplit_ct (W : Wd w mean mg mb s.heap) (K : Below (AR dp un fr gd) B outer s.heap) (WB : Wd w mean mg mb B) (hroom : dp + 9 < recursionLimit) (hc : cs.length ≤ 100000)
    (ret : ∀ v h' tk, LsV h' v (told pl ⟨mG, none, []⟩ cs) → (hideAll s.heap (outer.filterMap (·.frame))).StaysIn h' → s.heap.UpToSlots h' → Q v { s with heap := h', toks := tk }) :
    wpAny (md w) (AR dp un fr gd) (call (.ref 797) [.str (ofL cs) t, .bool pl]) Q E s := by
  have X := W.X
  have T := W.T
  refine enterA (binds := [("text", .str (ofL cs) t), ("plain", .bool pl)]) W (by k_is) (by k_is) (by show dp < _; omega) (BindsTo.of_eq rfl) (locs rfl) ?_ rfl rfl rfl (by decide)
  intro h₁ L hL F N
  w_on
  w_top on
  walk_at "my steps"
  all_goals (try dsimp only)
  · rename Fr _ _ _ _ => kF
    rename told _ _ _ = _ => e1
    rename Below _ _ _ _ => kK
    refine caughtVE kK kF WB (by assumption) ?_ rfl rfl
    intro h' st up
    dsimp only
    refine ret _ _ _ ?_ st up
    rw [e1]
    exact LsV.none
  · rename Fr _ _ _ _ => kF
    rename Heap.UpToSlots _ _ => u6
    rename Heap.StaysIn _ _ => s5
    rename told _ _ _ = _ => e1
    have gB : (hideAll s.heap (outer.filterMap (·.frame))).StaysIn (hideAll h₁ ((envOf (Str.ofString "_law_split") sc797 L 797 (.ref 796) :: outer).filterMap (·.frame))) := fun b o q => hideAll_get _ (kF.keep _ _ (of_hideAll _ q)) fun hm => by
      rw [List.filterMap_cons] at hm
      rcases List.mem_cons.mp hm with z | z
      · have := Heap.lt_size (of_hideAll _ q)
        rw [show b = L from z] at this
        exact absurd (Nat.lt_of_lt_of_le this kF.above) (Nat.lt_irrefl _)
      · rw [hideAll_none _ z] at q; cases q
    refine ret _ _ _ ?_ (fun b o q => s5 _ _ (gB _ _ q)) ((Heap.UpToSlots.of_keeps kF.keep).trans u6)
    rw [e1]
    exact LsV.some (by assumption) (by assumption)
end
end
-- For
/-- all but one object of the ledger stays -/
theorem frBut {g h h' : Heap} {L it : Addr} {o : Obj} {m : Str → Option Value} {news : List (Addr × Obj)} (F : Fr g L h m) (N : News g L h ((it, o) :: news)) (e : ∀ b o, b ≠ it → h.get? b = some o → h'.get? b = some o) : Fr g L h' m := by
  obtain ⟨oL, a1, a2, hL, a3⟩ := F.ns
  have nL : L ≠ it := fun q => (N _ (.head _)).2.1 q.symm
  refine ⟨⟨oL, a1, a2, e _ _ nL hL, a3⟩, fun b ob q => e _ _ (fun z => ?_) (F.keep _ _ q), F.above⟩
  rw [z] at q
  have := (N _ (.head _)).2.2
  rw [q] at this; cases this
theorem newsBut {g h h' : Heap} {L it : Addr} {o : Obj} {news : List (Addr × Obj)} (N : News g L h ((it, o) :: news)) (hf : ∀ p ∈ news, p.2 ≠ o) (e : ∀ b o, b ≠ it → h.get? b = some o → h'.get? b = some o) : News g L h' news := fun p hp => by
  have np : p.1 ≠ it := fun q => by
    have h1 := (N p (.tail _ hp)).1
    have h2 := (N _ (.head _)).1
    rw [q, h2] at h1
    exact hf p hp (Option.some.inj h1).symm
  exact ⟨e _ _ np (N p (.tail _ hp)).1, (N p (.tail _ hp)).2⟩
noncomputable def NoF (news : List (Addr × Obj)) : Prop := ∀ p ∈ news, ∀ vs, p.2.data ≠ .fields vs
section
variable {w : World} {E : Value → Shared → Prop} {s : Shared} {A : Around}
theorem strLoopT (ty : String) {g : Heap} {L : Addr} {x : Str} {tx : Tok} {env : Env} {v : Str} {px : Pos} {body : List Stmt} {QF : Flow → Shared → Prop}
    (hE : PassesOwn (md w) A env E) (Inv : Nat → (Str → Option Value) → List (Addr × Obj) → Prop) (hnf : ∀ i m news, Inv i m news → NoF news)
    (item : ∀ {s : Shared} {it : Addr} {i c : Nat} {Q : Option Value → Shared → Prop}, s.heap.IsStrIter it ty x tx i → x.cps[i]? = some c → (∀ h', h'.IsStrIter it ty x tx (i + 1) → Heap.SameBut it s.heap h' → Q (some (.str ⟨#[c]⟩ s.toks)) { s with heap := h', toks := s.toks + 1 }) → wpAny (md w) A (pyNext (.ref it)) Q E s)
    (stop : ∀ {s : Shared} {it : Addr} {i : Nat} {Q : Option Value → Shared → Prop}, s.heap.IsStrIter it ty x tx i → x.cps[i]? = none → (∀ h', Heap.ExtBut it s.heap h' → Q none { s with heap := h' }) → wpAny (md w) A (pyNext (.ref it)) Q E s)
    (turn : ∀ i c m news it o h tk tc QF', x.cps[i]? = some c → Inv i m news → Fr g L h m → News g L h ((it, o) :: news) →
      (∀ m' news' h' tk', Inv (i + 1) m' news' → Fr g L h' m' → News g L h' ((it, o) :: news') → QF' .next { s with heap := h', toks := tk' }) →
      wpAny (md w) A (storeName env v (.str (sg c) tc)) (fun _ s₂ => wpAny (md w) A (execs body env) QF' E s₂) E { s with heap := h, toks := tk })
    (done : ∀ m news h tk, Inv x.length m news → Fr g L h m → News g L h news → QF .next { s with heap := h, toks := tk })
    {it : Addr} {o : Obj} {h : Heap} {tk : Nat} {m : Str → Option Value} {news : List (Addr × Obj)} (hI : Inv 0 m news) (F : Fr g L h m) (N : News g L h ((it, o) :: news)) (ho : o.cls = .type ty ∧ o.data = .fields #[.str x tx, .int 0 0]) :
    codeAny (md w) A (.forLoop (.Name v px) (.ref it) body [] env) (fun r s' => match r with | .ok f => QF f s' | .error e => cameBackBy (md w) A env E e s') { s with heap := h, toks := tk } := by
  refine codeAny_forLoop (R := fun r s' => match r with | .ok f => QF f s' | .error e => cameBackBy (md w) A env E e s')
    (fun k s' => ∃ i m news o h tk, k = x.length - i ∧ i ≤ x.length ∧ s' = { s with heap := h, toks := tk } ∧ Inv i m news ∧ Fr g L h m ∧ News g L h ((it, o) :: news) ∧ o.cls = .type ty ∧ o.data = .fields #[.str x tx, .int i 0]) ?_ x.length ⟨0, m, news, o, h, tk, rfl, Nat.zero_le _, rfl, hI, F, N, ho.1, ho.2⟩
  rintro k s' ⟨i, m, news, o, h, tk, rfl, hi, rfl, hI, F, N, ho1, ho2⟩
  have hit : h.IsStrIter it ty x tx i := ⟨o, (N _ (.head _)).1, ho1, ho2⟩
  have nf : ∀ p ∈ news, p.2 ≠ o := fun p hp q => hnf _ _ _ hI p hp _ (by rw [q]; exact ho2)
  cases hx : x.cps[i]? with
  | none =>
    have hi' : i = x.length := by
      have : x.cps.size ≤ i := by simpa using hx
      exact Nat.le_antisymm hi this
    subst hi'
    refine wpAny_passesOwn hE (stop (s := { s with heap := h, toks := tk }) hit hx fun h' e => ?_)
    exact wpAny_execs_nil (done m news h' tk hI (frBut F N fun b o hb q => e b o hb q) (newsBut N nf fun b o hb q => e b o hb q))
  | some c =>
    have hi' : i < x.length := (Array.getElem?_eq_some_iff.mp hx).1
    refine wpAny_passesOwn hE (item (s := { s with heap := h, toks := tk }) hit hx fun h' hit' sb => ?_)
    obtain ⟨o', ho', ho1', ho2'⟩ := hit'
    have e : ∀ b o, b ≠ it → h.get? b = some o → h'.get? b = some o := fun b o hb q => (sb.2 b hb).trans q
    have F' := frBut F N e
    have N' : News g L h' ((it, o') :: news) := fun p hp => by
      rcases List.mem_cons.mp hp with rfl | hp
      · exact ⟨ho', (N _ (.head _)).2⟩
      · exact newsBut N nf e p hp
    refine wpAny_passesOwn hE (wpAny_assign_Name (wpAny_mono (turn i c m news it o' h' (tk + 1) tk (fun f s₃ => match f with
            | .next | .cont => ∃ k', k' < x.length - i ∧ ∃ i m news o h tk, k' = x.length - i ∧ i ≤ x.length ∧ s₃ = { s with heap := h, toks := tk } ∧ Inv i m news ∧ Fr g L h m ∧ News g L h ((it, o) :: news) ∧ o.cls = .type ty ∧ o.data = .fields #[.str x tx, .int i 0]
            | .brk => QF .next s₃
            | .ret v => QF (.ret v) s₃) hx hI F' N' ?_) (fun _ s₂ h₂ => wpAny_passesOwn hE h₂) fun _ _ z => z))
    intro m' news' h'' tk' hI' F'' N''
    exact ⟨x.length - (i + 1), by omega, i + 1, m', news', o', h'', tk', rfl, hi', rfl, hI', F'', N'', ho1', by rw [ho2']⟩
theorem strLoop {g : Heap} {L : Addr} {x : Str} {tx : Tok} {env : Env} {v : Str} {px pos : Pos} {iter : Expr} {body : List Stmt} {QF : Flow → Shared → Prop} {m : Str → Option Value} {news : List (Addr × Obj)}
    (Inv : Nat → (Str → Option Value) → List (Addr × Obj) → Prop) (hnf : ∀ i m news, Inv i m news → NoF news) (hh : A.handled = none) (hE : PassesOwn (md w) A env E) (hs : ∀ y, foldedSetIterable iter env y = pure y)
    (F : Fr g L s.heap m) (N : News g L s.heap news) (hI : Inv 0 m news)
    (hev : ∀ Q' : Value → Shared → Prop, (∀ tk, Q' (.str x tx) { s with toks := tk }) → wpAny (md w) A (eval iter env) Q' E s)
    (turn : ∀ i c m news it o h tk tc QF', x.cps[i]? = some c → Inv i m news → Fr g L h m → News g L h ((it, o) :: news) →
      (∀ m' news' h' tk', Inv (i + 1) m' news' → Fr g L h' m' → News g L h' ((it, o) :: news') → QF' .next { s with heap := h', toks := tk' }) →
      wpAny (md w) A (storeName env v (.str (sg c) tc)) (fun _ s₂ => wpAny (md w) A (execs body env) QF' E s₂) E { s with heap := h, toks := tk })
    (done : ∀ m news h tk, Inv x.length m news → Fr g L h m → News g L h news → QF .next { s with heap := h, toks := tk }) :
    wpAny (md w) A (exec (.For (.Name v px) iter body [] pos) env) QF E s := by
  refine wpAny_For (hev _ fun tk => ?_) hs
  cases ha : x.cps.all (· < 128) with
  | true =>
    refine wpAny_pyIter_ascii (s := { s with toks := tk }) ha ?_
    exact strLoopT "str_ascii_iterator" hE Inv hnf (fun hit hx k => wpAny_pyNext_ascii_item hit hx k) (fun hit hx k => wpAny_pyNext_ascii_end hh hit hx k) turn done hI (F.push _) (N.push F _ rfl) ⟨rfl, rfl⟩
  | false =>
    refine wpAny_pyIter_wide (s := { s with toks := tk }) ha ?_
    exact strLoopT "str_iterator" hE Inv hnf (fun hit hx k => wpAny_pyNext_wide_item hit hx k) (fun hit hx k => wpAny_pyNext_wide_end hh hit hx k) turn done hI (F.push _) (N.push F _ rfl) ⟨rfl, rfl⟩
end
-- Stb
/-- a state on the ledger -/
noncomputable def StN (news : List (Addr × Obj)) (st lw : Addr) (y : St) : Prop := ∃ tm wv vs n, (st, tupObj [.str y.mode tm, wv, .ref lw]) ∈ news ∧ WV wv y.word ∧ (lw, listObj vs n) ∈ news ∧ SV vs y.words
theorem StN.at {g h : Heap} {L st lw : Addr} {y : St} {news : List (Addr × Obj)} (x : StN news st lw y) (N : News g L h news) : StIn h st lw y := by
  obtain ⟨tm, wv, vs, n, h1, h2, h3, h4⟩ := x
  exact ⟨tm, wv, vs, n, (N _ h1).1, h2, (N _ h3).1, h4⟩
theorem StN.mono {st lw : Addr} {y : St} {news news' : List (Addr × Obj)} (x : StN news st lw y) (hs : ∀ p ∈ news, p ∈ news') : StN news' st lw y := by
  obtain ⟨tm, wv, vs, n, h1, h2, h3, h4⟩ := x
  exact ⟨tm, wv, vs, n, hs _ h1, h2, hs _ h3, h4⟩
/-- one object more, or one that stood -/
theorem oneMore {g h h' : Heap} {L a st : Addr} {o o₀ : Obj} {m : Str → Option Value} {news news₀ : List (Addr × Obj)} (F : Fr g L h m) (N : News g L h news) (hs : ∀ p ∈ news₀, p ∈ news) (k : h.StaysIn h') (hst : (st, o₀) ∈ news₀) (e : h'.get? a = some o) (ha : a = st ∨ h.get? a = none) (nf : ∀ vs, o.data ≠ .fields vs) :
    ∃ ads, News g L h' (ads ++ news) ∧ (a, o) ∈ ads ++ news₀ ∧ NoF ads := by
  rcases ha with rfl | ha
  · have h2 := k _ _ (N _ (hs _ hst)).1
    have h2' : h'.get? a = some o₀ := h2
    rw [e] at h2'
    cases h2'
    exact ⟨[], newsStays N k, hst, fun p hp => nomatch hp⟩
  · refine ⟨[(a, o)], newsAdd F (newsStays N k) e ha, .head _, fun p hp vs => ?_⟩
    rw [List.mem_singleton.mp hp]; exact nf vs
theorem stepB {g h h' : Heap} {L st lw a lw' : Addr} {x y : St} {m : Str → Option Value} {news news₀ : List (Addr × Obj)} (F : Fr g L h m) (N : News g L h news) (hs : ∀ p ∈ news₀, p ∈ news) (sb : StN news₀ st lw x) (k : h.StaysIn h') (hy : StIn h' a lw' y) (ha : a = st ∨ h.get? a = none) (hl : lw' = lw ∨ h.get? lw' = none) :
    ∃ ads, News g L h' (ads ++ news) ∧ StN (ads ++ news₀) a lw' y ∧ NoF ads := by
  obtain ⟨tm, wv, vs, n, h1, h2, h3, h4⟩ := sb
  obtain ⟨tm', wv', vs', n', e1, e2, e3, e4⟩ := hy
  obtain ⟨ads1, N1, i1, f1⟩ := oneMore F N hs k h1 e1 ha (fun vs q => by cases q)
  obtain ⟨ads2, N2, i2, f2⟩ := oneMore F N hs k h3 e3 hl (fun vs q => by cases q)
  refine ⟨ads1 ++ ads2, ?_, ⟨tm', wv', vs', n', ?_, e2, ?_, e4⟩, ?_⟩
  · intro p hp
    rcases List.mem_append.mp hp with hp | hp
    · rcases List.mem_append.mp hp with hp | hp
      · exact N1 p (List.mem_append_left _ hp)
      · exact N2 p (List.mem_append_left _ hp)
    · exact N1 p (List.mem_append_right _ hp)
  · rcases List.mem_append.mp i1 with hp | hp
    · exact List.mem_append_left _ (List.mem_append_left _ hp)
    · exact List.mem_append_right _ hp
  · rcases List.mem_append.mp i2 with hp | hp
    · exact List.mem_append_left _ (List.mem_append_right _ hp)
    · exact List.mem_append_right _ hp
  · intro p hp
    rcases List.mem_append.mp hp with hp | hp
    · exact f1 p hp
    · exact f2 p hp
theorem newsPerm {g h : Heap} {L : Addr} {x : Addr × Obj} {ads news : List (Addr × Obj)} (N : News g L h (ads ++ x :: news)) : News g L h (x :: (ads ++ news)) := fun p hp => by
  refine N p ?_
  simp only [List.mem_cons, List.mem_append] at hp ⊢
  rcases hp with rfl | hp | hp
  · exact .inr (.inl rfl)
  · exact .inl hp
  · exact .inr (.inr hp)
theorem NoF.app {a b : List (Addr × Obj)} (ha : NoF a) (hb : NoF b) : NoF (a ++ b) := fun p hp => (List.mem_append.mp hp).elim (ha p) (hb p)
/-- the sizes behind a turn -/
noncomputable def wl (s : St) : Nat := (soFar s.word).length
theorem soFar_none : soFar none = eS := rfl
theorem soFar_some (x : Str) : soFar (some x) = x := rfl
noncomputable def SzOk (a b : Nat) (t : St) : Prop := t.words.length ≤ a + 1 ∧ wl t ≤ b + 2
theorem szOk {a b : Nat} {m : Str} {w : Option Str} {ws : List Str} (h1 : ws.length ≤ a + 1) (h2 : (soFar w).length ≤ b + 2) : SzOk a b ⟨m, w, ws⟩ := ⟨h1, h2⟩
theorem ended_len (w : Option Str) (ws : List Str) : (ended w ws).length ≤ ws.length + 1 := by cases w <;> simp [ended]
theorem szIte {a b : Nat} {c : Bool} {x y : St} (hx : SzOk a b x) (hy : SzOk a b y) : SzOk a b (if c = true then x else y) := by cases c <;> assumption
theorem len_l2 {x X : Str} {c : Nat} (h : X.length ≤ 1) : (soFar (some (x ++ X ++ sg c))).length ≤ x.length + 2 := by
  rw [soFar_some, str_len_app, str_len_app, sg_len]; omega
theorem len_l3 {x X : Str} (h : X.length ≤ 1) : (soFar (some (x ++ X))).length ≤ x.length + 2 := by
  rw [soFar_some, str_len_app]; omega
theorem len_bs : (Str.ofString "\\").length ≤ 1 := by decide +kernel
theorem len_em : (Str.ofString "").length ≤ 1 := by decide +kernel
theorem len_if {b : Bool} {x y : Str} (hx : x.length ≤ 1) (hy : y.length ≤ 1) : (if b = true then x else y).length ≤ 1 := by cases b <;> assumption
theorem turn_sz (p : Bool) (s : St) (c : Nat) : SzOk s.words.length (wl s) (turn p s c) := by
  obtain ⟨mode, wd, ws⟩ := s
  have hs : (sg c).length ≤ 1 := Nat.le_refl _
  have hn : (soFar none).length ≤ wl ⟨mode, wd, ws⟩ + 2 := by rw [soFar_none, eS_len]; exact Nat.zero_le _
  have h0 : ws.length ≤ (St.mk mode wd ws).words.length + 1 := Nat.le_succ _
  have ha : ∀ y, (ws ++ [y]).length ≤ (St.mk mode wd ws).words.length + 1 := fun y => by rw [List.length_append]; exact Nat.le_refl _
  have hw : (soFar wd).length ≤ wl ⟨mode, wd, ws⟩ + 2 := Nat.le_add_right _ _
  have q : SzOk ws.length (wl ⟨mode, wd, ws⟩) (turnQ p ⟨mode, wd, ws⟩ c) := szIte (szOk h0 (len_l3 hs)) (szIte (szOk (ha _) hn) (szOk h0 hw))
  have r : SzOk ws.length (wl ⟨mode, wd, ws⟩) (turnW p ⟨mode, wd, ws⟩ c) := szIte (szIte (szOk h0 (len_l3 hs)) (szOk h0 hw)) (szOk h0 (len_l3 hs))
  have t : SzOk ws.length (wl ⟨mode, wd, ws⟩) (turnM p ⟨mode, wd, ws⟩ c) := szOk h0 (len_l3 (len_if hs len_em))
  exact szIte (szIte (szOk h0 hw) (szOk h0 hw)) (szIte (szOk h0 (len_l3 hs)) (szIte (szOk h0 (len_l2 (len_if len_bs len_em))) (szIte (szIte (szIte (szIte q (szOk h0 hw)) q) q) (szIte (szIte (szOk h0 hw) (szOk (ended_len _ _) hn)) (szIte (szIte r (szIte t (szIte r t))) (szOk (ended_len _ _) hn))))))
/-- the turns of a text -/
noncomputable def foldT (p : Bool) (x : St) (l : List Nat) : St := l.foldl (turn p) x
theorem told_fold (p : Bool) : ∀ (l : List Nat) (x : St), told p x l = if okM (foldT p x l).mode then some (ended (foldT p x l).word (foldT p x l).words) else none
  | [], x => rfl
  | c :: r, x => told_fold p r (turn p x c)
theorem foldT_snoc (p : Bool) (x : St) (l : List Nat) (c : Nat) : foldT p x (l ++ [c]) = turn p (foldT p x l) c := by simp [foldT]
theorem foldT_sz (p : Bool) : ∀ (l : List Nat) (x : St), (foldT p x l).words.length ≤ x.words.length + l.length ∧ wl (foldT p x l) ≤ wl x + 2 * l.length
  | [], x => ⟨Nat.le_refl _, Nat.le_refl _⟩
  | c :: r, x => by
    have h1 := turn_sz p x c
    have h2 := foldT_sz p r (turn p x c)
    unfold SzOk at h1
    show (foldT p (turn p x c) r).words.length ≤ _ ∧ wl (foldT p (turn p x c) r) ≤ _
    simp only [List.length_cons]
    omega
theorem wl_some {x : St} {y : Str} (h : x.word = some y) : y.length = wl x := by unfold wl; rw [h]; rfl
theorem rstR13 {w : World} {A : Around} {s : Shared} {Q : Bool → Shared → Prop} {E : Value → Shared → Prop} (h : wpAny (md w) A (truthy (.bool true)) Q E s) : wpAny (md w) A (truthy (.bool true)) Q E s := by
  first | (walk1; fail) | exact h
-- R13
theorem fillR13 : Fill PySem.Challenge.rw_oc0205_01 kx := by
  k_fill
  exact True.intro
section
variable {w : World} {mean : ExcName → Option Value} {mg mb : Str → Option Value} {dp un : Nat} {fr : Option (List Env)} {gd : Option (List Code)} {s : Shared} {Q E : Value → Shared → Prop}
@[reducible] noncomputable def tdForP : PSigma fun st : Stmt => (bd790[0]?).getD (.Pass default) = st := by
  refine ⟨?b, ?h⟩
  case h => (conv => lhs; whnf)
noncomputable def forBody (st : Stmt) : List Stmt := match st with
  | .For _ _ b _ _ => b
  | _ => []
@[reducible] noncomputable def tdBodyP : PSigma fun b : List Stmt => forBody tdForP.1 = b := by
  refine ⟨?b, ?h⟩
  case h => (conv => lhs; whnf)
@[reducible] noncomputable def tdBody : List Stmt := tdBodyP.1
@[reducible] noncomputable def tdTailP : PSigma fun b : List Stmt => bd790.drop 1 = b := by
  refine ⟨?b, ?h⟩
  case h => (conv => lhs; whnf)
@[reducible] noncomputable def tdTail : List Stmt := tdTailP.1
theorem bd790_eq : bd790 = tdForP.1 :: tdTail := rfl
noncomputable abbrev tdE (L : Addr) : Env := envOf (Str.ofString "_law_told") sc790 L 790 (.ref 789)
noncomputable abbrev tdM (st : Addr) (x : Value) (p : Bool) (sv : Option Value) : Str → Option Value := fun y =>
  if y = Str.ofString "state" then some (.ref st) else if y = Str.ofString "sign" then sv else if y = Str.ofString "text" then some x else if y = Str.ofString "plain" then some (.bool p) else none
theorem tdM_0 (st : Addr) (x : Value) (p : Bool) : (fun y => [(Str.ofString "state", Value.ref st), (Str.ofString "text", x), (Str.ofString "plain", Value.bool p)].reverse.lookup y) = tdM st x p none := by
  funext y
  unfold tdM
  by_cases h1 : y = Str.ofString "state"
  · subst h1; rfl
  · by_cases h2 : y = Str.ofString "text"
    · subst h2; rfl
    · by_cases h3 : y = Str.ofString "plain"
      · subst h3; rfl
      · have e1 : (y == Str.ofString "state") = false := by simpa using h1
        have e2 : (y == Str.ofString "text") = false := by simpa using h2
        have e3 : (y == Str.ofString "plain") = false := by simpa using h3
        simp only [List.reverse_cons, List.reverse_nil, List.nil_append, List.cons_append, List.lookup_cons, e1, e2, e3, List.lookup_nil]
        rw [if_neg h1, if_neg h2, if_neg h3]
        split <;> rfl
theorem tdM_1 (st st' : Addr) (x v : Value) (p : Bool) (sv : Option Value) : (fun y => if y = Str.ofString "state" then some (.ref st') else if y = Str.ofString "sign" then some v else tdM st x p sv y) = tdM st' x p (some v) := by
  funext y
  unfold tdM
  by_cases h : y = Str.ofString "state"
  · simp only [h, if_true]
  · by_cases h1 : y = Str.ofString "sign"
    · simp only [h, h1, if_true, if_false]
    · simp only [h, h1, if_false]
end
local macro_rules | `(tactic| walk_at "call ref") => `(tactic| (
  (with_reducible show wpAny _ _ (call (Value.ref 769) _) _ _ _);
  (with_reducible rename Fr _ _ _ _ => kF); (with_reducible rename News _ _ _ _ => kN); (with_reducible rename StN _ _ _ _ => kS);
  refine' turn_ct ?k1 ?k2 ?k3 ?k4 ?k5 ?_;
  (case k1 => exact Wd.keeps (by assumption) (Fr.keep kF)); (case k2 => (dsimp only; omega)); (case k3 => exact StN.at (StN.mono kS (fun p hp => List.Mem.tail _ hp)) kN); (case k4 => assumption); (case k5 => assumption);
  intro a' lw' h' tk' st' hst' ha' hl'; (obtain ⟨ads', kN', sb', nf'⟩ := stepB kF kN (fun p hp => List.Mem.tail _ hp) kS st' hst' ha' hl'); replace kF := frStays kF st'; clear kN hst' ha' hl' st'; try dsimp only))
section
variable {w : World} {mean : ExcName → Option Value} {mg mb : Str → Option Value} {dp un : Nat} {fr : Option (List Env)} {gd : Option (List Code)} {s : Shared} {Q E : Value → Shared → Prop}
section
variable {st lw : Nat} {x : St} {xs : List Nat} {tx : Tok} {p : Bool}
theorem tdTurn {g : Heap} {L it : Addr} {o : Obj} {h : Heap} {tk : Nat} {tc : Tok} {news : List (Addr × Obj)} {c : Nat} {sv : Option Value} {QF : Flow → Shared → Prop} {xv : Value}
    (W : Wd w mean mg mb g) (hroom : dp + 3 < recursionLimit) (F : Fr g L h (tdM st xv p sv)) (N : News g L h ((it, o) :: news)) (sb : StN news st lw x) (h1 : x.words.length < 1000) (h2 : ∀ y, x.word = some y → y.length ≤ 1000)
    (k : ∀ st' lw' v ads h' tk', StN (ads ++ news) st' lw' (turn p x c) → NoF ads → Fr g L h' (tdM st' xv p (some v)) → News g L h' ((it, o) :: (ads ++ news)) → QF .next { s with heap := h', toks := tk' }) :
    wpAny (md w) ((AR dp un fr gd).deeper (tdE L)) (storeName (tdE L) (Str.ofString "sign") (.str (sg c) tc)) (fun _ s₂ => wpAny (md w) ((AR dp un fr gd).deeper (tdE L)) (execs tdBody (tdE L)) QF E s₂) E { s with heap := h, toks := tk } := by
  have X := W.X
  have T := W.T
  w_on
  w_top on
  walk_at "my steps"
  all_goals (try dsimp only)
  all_goals exact k _ _ _ _ _ _ (by assumption) (by assumption) (frEq (by assumption) (tdM_1 ..)) (newsPerm (by assumption))
end
end
local macro_rules | `(tactic| walk_at "call ref") => `(tactic| (
  (with_reducible show wpAny _ _ (call (Value.ref 762) [Value.none, _]) _ _ _);
  (with_reducible rename Fr _ _ _ _ => kF); (with_reducible rename News _ _ _ _ => kN);
  refine' ended_none ?k1 ?k2 ?_;
  (case k1 => exact Wd.keeps (by assumption) (Fr.keep kF)); (case k2 => (dsimp only; omega));
  intro h' tk' st'; replace kF := frStays kF st'; replace kN := newsStays kN st'; try dsimp only))
section
variable {w : World} {mean : ExcName → Option Value} {mg mb : Str → Option Value} {dp un : Nat} {fr : Option (List Env)} {gd : Option (List Code)} {s : Shared} {Q E : Value → Shared → Prop}
section
variable {st lw : Nat} {x : St} {xs : List Nat} {tx : Tok} {p : Bool}
end
end
local macro_rules | `(tactic| walk_at "call ref") => `(tactic| (
  (with_reducible show wpAny _ _ (call (Value.ref 762) [Value.str _ _, _]) _ _ _);
  (with_reducible rename Fr _ _ _ _ => kF); (with_reducible rename News _ _ _ _ => kN);
  refine' ended_some ?k1 ?k2 ?k3 ?k4 ?_;
  (case k1 => exact Wd.keeps (by assumption) (Fr.keep kF)); (case k2 => (dsimp only; omega)); (case k3 => first | exact News.get kN (by k_mem) | exact Fr.keep kF _ _ (by assumption)); (case k4 => assumption);
  intro a' h' tk' st' fr' ls'; (have kN' := newsAdd kF (newsStays kN st') ls' fr'); replace kF := frStays kF st'; clear kN; try dsimp only))
section
variable {w : World} {mean : ExcName → Option Value} {mg mb : Str → Option Value} {dp un : Nat} {fr : Option (List Env)} {gd : Option (List Code)} {s : Shared} {Q E : Value → Shared → Prop}
section
variable {st lw : Nat} {x : St} {xs : List Nat} {tx : Tok} {p : Bool}
theorem okM_any (mode : Str) : okM mode = ([Str.ofString "gap", Str.ofString "word", Str.ofString "remark"].any fun x => x == mode) := by
  unfold okM
  simp only [List.any_cons, List.any_nil, Bool.or_false]
  rw [Bool.beq_comm (a := mode), Bool.beq_comm (a := mode), Bool.beq_comm (a := mode)]
theorem newsLast {g h : Heap} {L : Addr} {a b : Addr × Obj} {l : List (Addr × Obj)} (N : News g L h l) (ha : a ∈ l) (hb : b ∈ l) : News g L h [a, b] := fun p hp => by
  rcases List.mem_cons.mp hp with rfl | hp
  · exact N _ ha
  · rw [List.mem_singleton.mp hp]; exact N _ hb
theorem tdTailT {g : Heap} {L st0 lw0 : Addr} {o1 o2 : Obj} {vs : List Value} {n : Nat} {tm : Tok} {mode : Str} {wv : Value} {wd : Option Str} {ws : List Str} {sv : Option Value} {QF : Flow → Shared → Prop} {xv : Value}
    (W : Wd w mean mg mb g) (hroom : dp + 3 < recursionLimit) (F : Fr g L s.heap (tdM st xv p sv)) (N : News g L s.heap [(st, tupObj [.str mode tm, wv, .ref lw]), (lw, listObj vs n), (st0, o1), (lw0, o2)]) (hw : WV wv wd) (hv : SV vs ws) (hn : vs.length < 1000)
    (ret : ∀ v h' tk m, LsV h' v (if okM mode then some (ended wd ws) else none) → Fr g L h' m → News g L h' [(st0, o1), (lw0, o2)] → QF (.ret v) { s with heap := h', toks := tk }) :
    wpAny (md w) ((AR dp un fr gd).deeper (tdE L)) (execs tdTail (tdE L)) QF E s := by
  have X := W.X
  have T := W.T
  have IT : IsTup s.heap st #[.str mode tm, wv, .ref lw] := ⟨_, (N _ (.head _)).1, rfl, _, rfl⟩
  have IL : s.heap.IsList lw vs.toArray := ⟨_, (N _ (.tail _ (.head _))).1, rfl, _, rfl⟩
  have e1 := okM_any mode
  cases hw
  · w_on
    w_top on
    walk_at "my steps"
    all_goals (try dsimp only)
    · refine ret _ _ _ _ ?_ (by assumption) (newsLast (by assumption) (by k_mem) (by k_mem))
      rw [e1, show (List.any _ _) = true from by assumption, if_pos rfl]
      exact LsV.some (News.get (by assumption) (by k_mem)) hv
    · refine ret _ _ _ _ ?_ (by assumption) (newsLast (by assumption) (by k_mem) (by k_mem))
      rw [e1, show (List.any _ _) = false from by assumption, if_neg Bool.false_ne_true]
      exact LsV.none
  · w_on
    w_top on
    walk_at "my steps"
    all_goals (try dsimp only)
    · refine ret _ _ _ _ ?_ (by assumption) (newsLast (by assumption) (by k_mem) (by k_mem))
      rw [e1, show (List.any _ _) = true from by assumption, if_pos rfl]
      exact LsV.some (News.get (by assumption) (by k_mem)) hv.snoc
    · refine ret _ _ _ _ ?_ (by assumption) (newsLast (by assumption) (by k_mem) (by k_mem))
      rw [e1, show (List.any _ _) = false from by assumption, if_neg Bool.false_ne_true]
      exact LsV.none
theorem told_ct (W : Wd w mean mg mb (hideAll s.heap [st, lw])) (hroom : dp + 3 < recursionLimit) (hst : StIn s.heap st lw x) (h1 : x.words.length + xs.length < 900) (h2 : wl x + 2 * xs.length ≤ 900)
    (ret : ∀ v h' tk, LsV h' v (told p x xs) → s.heap.StaysIn h' → Q v { s with heap := h', toks := tk }) :
    wpAny (md w) (AR dp un fr gd) (call (.ref 790) [.ref st, .str (ofL xs) tx, .bool p]) Q E s := by
  have X := W.X
  have T := W.T
  obtain ⟨tm, wv, vs, n, g1, g2, g3, g4⟩ := hst
  refine enterK (binds := [("state", .ref st), ("text", .str (ofL xs) tx), ("plain", .bool p)]) [(st, tupObj [.str x.mode tm, wv, .ref lw]), (lw, listObj vs n)] W (hN2 g1 g3) (by k_is) (by k_is) (by show dp < _; omega) (BindsTo.of_eq rfl) (locs rfl) ?_ rfl rfl rfl (by decide)
  intro h₁ L hL F N
  dsimp only [ks, List.map] at F N
  have hlen : (ofL xs).length = xs.length := ofL_length xs
  rw [bd790_eq, execs_cons]
  refine wpAny_bind (strLoop (g := hideAll s.heap [st, lw]) (L := L) (x := ofL xs) (tx := tx) (v := Str.ofString "sign") (s := { s with heap := h₁, toks := _ }) (fun i m news => ∃ st' lw' sv, m = tdM st' (.str (ofL xs) tx) p sv ∧ StN news st' lw' (foldT p x (xs.take i)) ∧ NoF news ∧ ∀ q ∈ [(st, tupObj [.str x.mode tm, wv, .ref lw]), (lw, listObj vs n)], q ∈ news) ?_ rfl ?_ ?_ (frEq F (tdM_0 ..)) N ?_ ?_ ?_ ?_)
  · rintro i m news ⟨_, _, _, _, _, h, _⟩; exact h
  · passes_own
  · intro y; rfl
  · refine ⟨st, lw, none, rfl, ⟨tm, wv, vs, n, .head _, g2, .tail _ (.head _), g4⟩, ?_, fun q hq => hq⟩
    intro q hq vs' e
    simp only [List.mem_cons, List.not_mem_nil, or_false] at hq
    rcases hq with rfl | rfl <;> cases e
  · intro Q' hQ
    have F := frEq F (tdM_0 ..)
    w_on
    w_top on
    walk_at "my steps"
    all_goals (try dsimp only)
    all_goals exact hQ _
  · intro i c m news it o h tk tc QF' hx hI F N k
    obtain ⟨st', lw', sv, rfl, sb, nf, hq⟩ := hI
    have hc : xs[i]? = some c := by
      have := hx
      rw [← Array.getElem?_toList, cps_ofL] at this
      exact this
    have hi : i < xs.length := (List.getElem?_eq_some_iff.mp hc).1
    have sz := foldT_sz p (xs.take i) x
    have hl : (xs.take i).length ≤ xs.length := by rw [List.length_take]; omega
    refine tdTurn (s := s) (xv := .str (ofL xs) tx) (x := foldT p x (xs.take i)) W hroom F N sb (by omega) (fun y hy => by rw [wl_some hy]; omega) ?_
    intro st'' lw'' v ads h' tk' sb' nf' F' N'
    refine k _ _ _ _ ⟨st'', lw'', some v, rfl, ?_, nf'.app nf, fun q hq' => List.mem_append_right _ (hq q hq')⟩ F' N'
    rw [List.take_add_one, hc]
    show StN _ _ _ (foldT p x (xs.take i ++ [c]))
    rw [foldT_snoc]
    exact sb'
  · intro m news h tk hI F N
    obtain ⟨st', lw', sv, rfl, ⟨tm', wv', vs', n', i1, i2, i3, i4⟩, nf, hq⟩ := hI
    rw [hlen, List.take_length] at i1 i2 i4
    have sz := foldT_sz p xs x
    dsimp only
    refine tdTailT (s := { s with heap := h, toks := tk }) (xv := .str (ofL xs) tx) (mode := (foldT p x xs).mode) (wd := (foldT p x xs).word) (ws := (foldT p x xs).words) (st0 := st) (lw0 := lw) (o1 := tupObj [.str x.mode tm, wv, .ref lw]) (o2 := listObj vs n) (lw := lw') (tm := tm') (n := n') W hroom F ?_ i2 i4 (by rw [i4.length]; omega) ?_
    · intro q hq'
      simp only [List.mem_cons, List.not_mem_nil, or_false] at hq'
      rcases hq' with rfl | rfl | rfl | rfl
      · exact N _ i1
      · exact N _ i3
      · exact N _ (hq _ (.head _))
      · exact N _ (hq _ (.tail _ (.head _)))
    · intro v h' tk' m' hv' F' N'
      refine ret v h' tk' ?_ (stayAll (ads := [(st, tupObj [.str x.mode tm, wv, .ref lw]), (lw, listObj vs n)]) F' N' (hN2 g1 g3))
      rw [told_fold]; exact hv'
end
end
theorem rstR14 {w : World} {A : Around} {s : Shared} {Q : Bool → Shared → Prop} {E : Value → Shared → Prop} (h : wpAny (md w) A (truthy (.bool true)) Q E s) : wpAny (md w) A (truthy (.bool true)) Q E s := by
  first | (walk1; fail) | exact h
-- R14
theorem fillR14 : Fill PySem.Challenge.rw_oc0205_01 kx := by
  k_fill
  exact True.intro
section
variable {w : World} {mean : ExcName → Option Value} {mg mb : Str → Option Value} {dp un : Nat} {fr : Option (List Env)} {gd : Option (List Code)} {s : Shared} {Q E : Value → Shared → Prop}
noncomputable def forBody2 (st : Stmt) : List Stmt := match st with
  | .For _ _ b _ _ => b
  | _ => []
@[reducible] noncomputable def cl0P : PSigma fun st : Stmt => (bd776[0]?).getD (.Pass default) = st := by
  refine ⟨?b, ?h⟩
  case h => (conv => lhs; whnf)
@[reducible] noncomputable def clForP : PSigma fun st : Stmt => (bd776[1]?).getD (.Pass default) = st := by
  refine ⟨?b, ?h⟩
  case h => (conv => lhs; whnf)
@[reducible] noncomputable def clBodyP : PSigma fun b : List Stmt => forBody2 clForP.1 = b := by
  refine ⟨?b, ?h⟩
  case h => (conv => lhs; whnf)
@[reducible] noncomputable def clBody : List Stmt := clBodyP.1
@[reducible] noncomputable def clTailP : PSigma fun b : List Stmt => bd776.drop 2 = b := by
  refine ⟨?b, ?h⟩
  case h => (conv => lhs; whnf)
@[reducible] noncomputable def clTail : List Stmt := clTailP.1
theorem bd776_eq : bd776 = [cl0P.1] ++ (clForP.1 :: clTail) := rfl
noncomputable abbrev clE (L : Addr) : Env := envOf (Str.ofString "_law_closed") sc776 L 776 (.ref 775)
theorem clM_0 (st : Addr) (x : Value) (p : Bool) : (fun y => if y = Str.ofString "state" then some (Value.ref st) else [(Str.ofString "text", x), (Str.ofString "plain", Value.bool p)].reverse.lookup y) = tdM st x p none := by
  funext y
  unfold tdM
  by_cases h1 : y = Str.ofString "state"
  · rw [if_pos h1, if_pos h1]
  · rw [if_neg h1, if_neg h1]
    by_cases h2 : y = Str.ofString "text"
    · subst h2; rfl
    · by_cases h3 : y = Str.ofString "plain"
      · subst h3; rfl
      · have e2 : (y == Str.ofString "text") = false := by simpa using h2
        have e3 : (y == Str.ofString "plain") = false := by simpa using h3
        simp only [List.reverse_cons, List.reverse_nil, List.nil_append, List.cons_append, List.lookup_cons, e2, e3, List.lookup_nil]
        rw [if_neg h2, if_neg h3]
        split <;> rfl
noncomputable def MdOk (t : St) : Prop := t.mode.length ≤ 30
theorem mdIte {c : Bool} {x y : St} (hx : MdOk x) (hy : MdOk y) : MdOk (if c = true then x else y) := by cases c <;> assumption
theorem turn_md (p : Bool) (s : St) (c : Nat) (h : MdOk s) : MdOk (turn p s c) := by
  obtain ⟨mode, wd, ws⟩ := s
  have a : ∀ w ws, MdOk ⟨Str.ofString "gap", w, ws⟩ := fun _ _ => (by decide +kernel : (Str.ofString "gap").length ≤ 30)
  have b : ∀ w ws, MdOk ⟨Str.ofString "word", w, ws⟩ := fun _ _ => (by decide +kernel : (Str.ofString "word").length ≤ 30)
  have r : ∀ w ws, MdOk ⟨Str.ofString "remark", w, ws⟩ := fun _ _ => (by decide +kernel : (Str.ofString "remark").length ≤ 30)
  have e : ∀ w ws, MdOk ⟨Str.ofString "behind a backslash", w, ws⟩ := fun _ _ => (by decide +kernel : (Str.ofString "behind a backslash").length ≤ 30)
  have f : ∀ w ws, MdOk ⟨Str.ofString "behind a backslash in marks", w, ws⟩ := fun _ _ => (by decide +kernel : (Str.ofString "behind a backslash in marks").length ≤ 30)
  have g : ∀ w ws, MdOk ⟨Str.ofString "\"", w, ws⟩ := fun _ _ => (by decide +kernel : (Str.ofString "\"").length ≤ 30)
  have i : ∀ w ws, MdOk ⟨sg c, w, ws⟩ := fun _ _ => (by show 1 ≤ 30; decide)
  have k : ∀ w ws, MdOk ⟨mode, w, ws⟩ := fun _ _ => h
  have q : MdOk (turnQ p ⟨mode, wd, ws⟩ c) := mdIte (k _ _) (mdIte (a _ _) (b _ _))
  have l : MdOk (turnW p ⟨mode, wd, ws⟩ c) := mdIte (mdIte (b _ _) (e _ _)) (b _ _)
  have t : MdOk (turnM p ⟨mode, wd, ws⟩ c) := i _ _
  refine mdIte (mdIte ?_ h) (mdIte (b _ _) (mdIte (g _ _) (mdIte (mdIte (mdIte (mdIte q (f _ _)) q) q) (mdIte (mdIte (r _ _) (r _ _)) (mdIte (mdIte l (mdIte t (mdIte l t))) (a _ _))))))
  cases wd
  · exact a _ _
  · exact b _ _
theorem foldT_md (p : Bool) : ∀ (l : List Nat) (x : St), MdOk x → MdOk (foldT p x l)
  | [], _, h => h
  | c :: r, x, h => foldT_md p r _ (turn_md p x c h)
theorem markLen {mode : Str} (h : ([Str.ofString "'", Str.ofString "\""].any fun x => x == mode) = true) : mode.length = 1 := by
  simp only [List.any_cons, List.any_nil, Bool.or_false, Bool.or_eq_true, beq_iff_eq] at h
  rcases h with rfl | rfl
  · decide +kernel
  · decide +kernel
theorem markSg {mode : Str} (h : ([Str.ofString "'", Str.ofString "\""].any fun x => x == mode) = true) : ∀ c ∈ mode.cps.toList, c < 128 := by
  simp only [List.any_cons, List.any_nil, Bool.or_false, Bool.or_eq_true, beq_iff_eq] at h
  rcases h with rfl | rfl
  · decide +kernel
  · decide +kernel
section
variable {st lw : Nat} {x : St} {xs : List Nat} {tx : Tok} {p : Bool}
theorem clTurn {g : Heap} {L it : Addr} {o : Obj} {h : Heap} {tk : Nat} {tc : Tok} {news : List (Addr × Obj)} {c : Nat} {sv : Option Value} {QF : Flow → Shared → Prop} {xv : Value}
    (W : Wd w mean mg mb g) (hroom : dp + 3 < recursionLimit) (F : Fr g L h (tdM st xv p sv)) (N : News g L h ((it, o) :: news)) (sb : StN news st lw x) (h1 : x.words.length < 1000) (h2 : ∀ y, x.word = some y → y.length ≤ 1000)
    (k : ∀ st' lw' v ads h' tk', StN (ads ++ news) st' lw' (turn p x c) → NoF ads → Fr g L h' (tdM st' xv p (some v)) → News g L h' ((it, o) :: (ads ++ news)) → QF .next { s with heap := h', toks := tk' }) :
    wpAny (md w) ((AR dp un fr gd).deeper (clE L)) (storeName (clE L) (Str.ofString "sign") (.str (sg c) tc)) (fun _ s₂ => wpAny (md w) ((AR dp un fr gd).deeper (clE L)) (execs clBody (clE L)) QF E s₂) E { s with heap := h, toks := tk } := by
  have X := W.X
  have T := W.T
  w_on
  w_top on
  walk_at "my steps"
  all_goals (try dsimp only)
  all_goals exact k _ _ _ _ _ _ (by assumption) (by assumption) (frEq (by assumption) (tdM_1 ..)) (newsPerm (by assumption))
theorem clHead {g : Heap} {L : Addr} {QF : Flow → Shared → Prop} {xv : Value} (W : Wd w mean mg mb g) (F : Fr g L s.heap (fun y => [(Str.ofString "text", xv), (Str.ofString "plain", Value.bool p)].reverse.lookup y)) (N : News g L s.heap [])
    (ret : ∀ (st lw : Nat) tm n h' tk, Fr g L h' (tdM st xv p none) → News g L h' [(st, tupObj [.str mG tm, .none, .ref lw]), (lw, listObj [] n)] → QF .next { s with heap := h', toks := tk }) :
    wpAny (md w) ((AR dp un fr gd).deeper (clE L)) (execs [cl0P.1] (clE L)) QF E s := by
  have X := W.X
  have T := W.T
  w_on
  w_top on
  walk_at "my steps"
  all_goals (try dsimp only)
  all_goals exact ret _ _ _ _ _ _ (frEq (by assumption) (clM_0 ..)) (by assumption)
theorem clTailT {g : Heap} {L : Addr} {tm : Tok} {mode : Str} {wv : Value} {sv : Option Value} {QF : Flow → Shared → Prop} {ys : List Nat} {ty : Tok}
    (W : Wd w mean mg mb g) (F : Fr g L s.heap (tdM st (.str (ofL ys) ty) p sv)) (N : News g L s.heap [(st, tupObj [.str mode tm, wv, .ref lw])]) (hy : (ofL ys).length ≤ 1000) (hml : mode.length ≤ 30)
    (ret : ∀ zs t' h' tk m, zs.length ≤ ys.length + 2 → (∀ c ∈ zs, c ∈ ys ∨ c < 128) → Fr g L h' m → QF (.ret (.str (ofL zs) t')) { s with heap := h', toks := tk }) :
    wpAny (md w) ((AR dp un fr gd).deeper (clE L)) (execs clTail (clE L)) QF E s := by
  have X := W.X
  have T := W.T
  have IT : IsTup s.heap st #[.str mode tm, wv, .ref lw] := ⟨_, (N _ (.head _)).1, rfl, _, rfl⟩
  w_on
  w_top on
  walk_at "my steps"
  all_goals (try dsimp only)
  · rw [show ofL ys ++ Str.ofString "a\"" = ofL (ys ++ [97, 34]) from by rw [show Str.ofString "a\"" = ofL [97, 34] from by decide +kernel, ofL_append]]
    exact ret _ _ _ _ _ (by simp) (fun c hc => by rcases List.mem_append.mp hc with h | h; exact .inl h; simp at h; omega) (by assumption)
  · have hm := markLen (mode := mode) (by assumption)
    rw [show ofL ys ++ mode = ofL (ys ++ mode.cps.toList) from by rw [← ofL_append, ofL_cps]]
    exact ret _ _ _ _ _ (by rw [List.length_append, show mode.cps.toList.length = 1 from by simpa [Str.length] using hm]; omega) (fun c hc => (List.mem_append.mp hc).imp id (markSg (by assumption) c)) (by assumption)
  · exact ret _ _ _ _ _ (by omega) (fun c hc => .inl hc) (by assumption)
theorem closed_ct (W : Wd w mean mg mb s.heap) (hroom : dp + 3 < recursionLimit) (h1 : xs.length < 300)
    (ret : ∀ zs t' h' tk, zs.length ≤ xs.length + 2 → (∀ c ∈ zs, c ∈ xs ∨ c < 128) → s.heap.StaysIn h' → Q (.str (ofL zs) t') { s with heap := h', toks := tk }) :
    wpAny (md w) (AR dp un fr gd) (call (.ref 776) [.str (ofL xs) tx, .bool p]) Q E s := by
  have X := W.X
  have T := W.T
  refine enterA (binds := [("text", .str (ofL xs) tx), ("plain", .bool p)]) W (by k_is) (by k_is) (by show dp < _; omega) (BindsTo.of_eq rfl) (locs rfl) ?_ rfl rfl rfl (by decide)
  intro h₁ L hL F N
  have hlen : (ofL xs).length = xs.length := ofL_length xs
  rw [bd776_eq]
  refine execsApp (clHead (s := { s with heap := h₁, toks := _ }) W F N ?_)
  intro st lw tm n h₂ tk₂ F₂ N₂
  dsimp only
  rw [execs_cons]
  refine wpAny_bind (strLoop (g := s.heap) (L := L) (x := ofL xs) (tx := tx) (v := Str.ofString "sign") (s := { s with heap := h₂, toks := tk₂ }) (fun i m news => ∃ st' lw' sv, m = tdM st' (.str (ofL xs) tx) p sv ∧ StN news st' lw' (foldT p ⟨mG, none, []⟩ (xs.take i)) ∧ NoF news) ?_ rfl ?_ ?_ F₂ N₂ ?_ ?_ ?_ ?_)
  · rintro i m news ⟨_, _, _, _, _, h⟩; exact h
  · passes_own
  · intro y; rfl
  · refine ⟨st, lw, none, rfl, ⟨tm, .none, [], n, .head _, WV.none, .tail _ (.head _), SV.nil⟩, ?_⟩
    intro q hq vs' e
    simp only [List.mem_cons, List.not_mem_nil, or_false] at hq
    rcases hq with rfl | rfl <;> cases e
  · intro Q' hQ
    w_on
    w_top on
    walk_at "my steps"
    all_goals (try dsimp only)
    all_goals exact hQ _
  · intro i c m news it o h tk tc QF' hx hI F N k
    obtain ⟨st', lw', sv, rfl, sb, nf⟩ := hI
    have hc : xs[i]? = some c := by
      have := hx
      rw [← Array.getElem?_toList, cps_ofL] at this
      exact this
    have sz := foldT_sz p (xs.take i) ⟨mG, none, []⟩
    have hl : (xs.take i).length ≤ xs.length := by rw [List.length_take]; omega
    have hw0 : wl ⟨mG, none, []⟩ = 0 := eS_len
    have hz0 : (St.mk mG none []).words.length = 0 := rfl
    refine clTurn (s := s) (xv := .str (ofL xs) tx) (x := foldT p ⟨mG, none, []⟩ (xs.take i)) W hroom F N sb (by omega) (fun y hy => by rw [wl_some hy]; omega) ?_
    intro st'' lw'' v ads h' tk' sb' nf' F' N'
    refine k _ _ _ _ ⟨st'', lw'', some v, rfl, ?_, nf'.app nf⟩ F' N'
    rw [List.take_add_one, hc]
    show StN _ _ _ (foldT p ⟨mG, none, []⟩ (xs.take i ++ [c]))
    rw [foldT_snoc]
    exact sb'
  · intro m news h tk hI F N
    obtain ⟨st', lw', sv, rfl, ⟨tm', wv', vs', n', i1, i2, i3, i4⟩, nf⟩ := hI
    dsimp only
    refine clTailT (s := { s with heap := h, toks := tk }) (lw := lw') (tm := tm') (wv := wv') (mode := (foldT p ⟨mG, none, []⟩ (xs.take (ofL xs).length)).mode) W F ?_ (by rw [hlen]; omega) (foldT_md p _ _ (by decide +kernel : (Str.ofString "gap").length ≤ 30)) ?_
    · intro q hq'
      rw [List.mem_singleton.mp hq']
      exact N _ i1
    · intro zs t' h' tk' m' hz hzc F'
      exact ret zs t' h' tk' hz hzc F'.keep
end
end
theorem rstR15 {w : World} {A : Around} {s : Shared} {Q : Bool → Shared → Prop} {E : Value → Shared → Prop} (h : wpAny (md w) A (truthy (.bool true)) Q E s) : wpAny (md w) A (truthy (.bool true)) Q E s := by
  first | (walk1; fail) | exact h
-- R15
theorem fillR15 : Fill PySem.Challenge.rw_oc0205_01 kx := by
  k_fill
  exact True.intro
section
variable {w : World} {mean : ExcName → Option Value} {mg mb : Str → Option Value} {dp un : Nat} {fr : Option (List Env)} {gd : Option (List Code)} {s : Shared} {Q E : Value → Shared → Prop}
noncomputable def behind (p : Bool) (x : St) : St := if p then ⟨(match x.word with | none => mG | some _ => mW), x.word, x.words⟩ else ⟨mG, none, ended x.word x.words⟩
section
variable {st lw : Nat} {x : St} {p : Bool}
theorem behind_ct (W : Wd w mean mg mb s.heap) (hroom : dp + 1 < recursionLimit) (hst : StIn s.heap st lw x) (hn : x.words.length < 1000)
    (ret : ∀ (a lw' : Nat) h' tk, s.heap.StaysIn h' → StIn h' a lw' (behind p x) → s.heap.get? a = none → (lw' = lw ∨ s.heap.get? lw' = none) → Q (.ref a) { s with heap := h', toks := tk }) :
    wpAny (md w) (AR dp un fr gd) (call (.ref 783) [.ref st, .bool p]) Q E s := by
  have X := W.X
  have T := W.T
  obtain ⟨mode, wd, ws⟩ := x
  obtain ⟨tm, wv, vs, n, hst, hw, hl', hv⟩ := hst
  dsimp only at hn hw hv
  have hl : LsAt s.heap lw ws := ⟨vs, n, hl', hv⟩
  have hn' : vs.length < 1000 := by rw [hv.length]; exact hn
  have IL : s.heap.IsList lw vs.toArray := ⟨_, hl', rfl, _, rfl⟩
  have IT : IsTup s.heap st #[.str mode tm, wv, .ref lw] := ⟨_, hst, rfl, _, rfl⟩
  refine enterA (binds := [("state", .ref st), ("plain", .bool p)]) W (by k_is) (by k_is) (by show dp < _; omega) (BindsTo.of_eq rfl) (locs rfl) ?_ rfl rfl rfl (by decide)
  intro h₁ L hL F N
  cases p <;> rcases hw with _ | @⟨xw, tw⟩
  all_goals
    w_on
    w_top on
    walk_at "my steps"
    all_goals (try dsimp only)
  all_goals first
    | exact ret _ _ _ _ (Fr.keep (by assumption)) (stIn_mk (News.get (by assumption) (by exact List.Mem.head _)) (by first | exact WV.none | exact WV.some) (by first | exact LsAt.keeps hl (Fr.keep (by assumption)) | exact ⟨_, _, News.get (by assumption) (by exact List.Mem.tail _ (List.Mem.head _)), SV.snoc hv⟩) rfl)
        (newsFresh (by assumption) (by exact List.Mem.head _)) (by first | exact .inl rfl | exact .inr (newsFresh (by assumption) (by exact List.Mem.tail _ (List.Mem.head _))))
    | (trace_state; fail "behind: an end")
end
theorem itemOk {x : Str} (hx : PyData.strOk x = true) (i : Int) : (Txt.charAt x i).getD 0 < 1114112 := by
  cases e : Txt.charAt x i with
  | none => decide
  | some c =>
    unfold Txt.charAt at e
    obtain ⟨j, _, hj⟩ := Option.bind_eq_some_iff.mp e
    have hm : c ∈ x.cps := Array.mem_of_getElem? hj
    unfold PyData.strOk at hx
    have := (Array.all_eq_true_iff_forall_mem.mp hx) c hm
    simpa using this
theorem sign_ct {n : Int} {t : Tok} (W : Wd w mean mg mb s.heap) (hroom : dp < recursionLimit) (ret : ∀ c t' h' tk, c < 1114112 → s.heap.StaysIn h' → Q (.str (sg c) t') { s with heap := h', toks := tk }) :
    wpAny (md w) (AR dp un fr gd) (call (.ref 748) [.int n t]) Q E s := by
  have X := W.X
  have T := W.T
  have f1 := Int.fmod_lt_of_pos (n.fdiv 9) (b := 1112064) (by decide)
  have f2 := Int.fmod_nonneg_of_pos (n.fdiv 9) (b := 1112064) (by decide)
  refine enterA (binds := [("n", .int n t)]) W (by k_is) (by k_is) hroom (BindsTo.of_eq rfl) (locs rfl) ?_ rfl rfl rfl (by decide)
  intro h₁ L hL F N
  w_on
  w_top on
  walk_at "my steps"
  all_goals (try dsimp only)
  all_goals first
    | exact ret _ _ _ _ (itemOk (by decide +kernel) _) (Fr.keep (by assumption))
    | exact ret _ _ _ _ (by omega) (Fr.keep (by assumption))
    | (trace_state; fail "sign: an end")
noncomputable def cmt (x : Str) : Str := if (Txt.rstrip x).length = 0 then Str.ofString "#" else Str.ofString "# " ++ Txt.rstrip x
theorem comment_ct {x : Str} {t : Tok} (W : Wd w mean mg mb s.heap) (hroom : dp < recursionLimit) (hx : x.length ≤ 200) (ret : ∀ t' h' tk, s.heap.StaysIn h' → Q (.str (cmt x) t') { s with heap := h', toks := tk }) :
    wpAny (md w) (AR dp un fr gd) (call (.ref 46) [.str x t]) Q E s := by
  have X := W.X
  have T := W.T
  refine enterA (binds := [("line", .str x t)]) W (by k_is) (by k_is) hroom (BindsTo.of_eq rfl) (locs rfl) ?_ rfl rfl rfl (by decide)
  intro h₁ L hL F N
  w_on
  w_top on
  walk_at "my steps"
  all_goals (try dsimp only)
  · rw [show Str.ofString "# " ++ Txt.rstrip x = cmt x from by unfold cmt; rw [if_neg (by omega)]]
    exact ret _ _ _ (Fr.keep (by assumption))
  · rw [show Str.ofString "#" = cmt x from by unfold cmt; rw [if_pos (by omega)]]
    exact ret _ _ _ (Fr.keep (by assumption))
end
theorem rstR16 {w : World} {A : Around} {s : Shared} {Q : Bool → Shared → Prop} {E : Value → Shared → Prop} (h : wpAny (md w) A (truthy (.bool true)) Q E s) : wpAny (md w) A (truthy (.bool true)) Q E s := by
  first | (walk1; fail) | exact h
-- R16
theorem fillR16 : Fill PySem.Challenge.rw_oc0205_01 kx := by
  k_fill
  exact True.intro
section
variable {w : World} {mean : ExcName → Option Value} {mg mb : Str → Option Value} {dp un : Nat} {fr : Option (List Env)} {gd : Option (List Code)} {s : Shared} {Q E : Value → Shared → Prop}
noncomputable abbrev wh1 : Str := Str.ofString "\t\n\x0b\x0c\r\x1c\x1d\x1e\x1f \u0085\u00a0\u1680\u2000\u2001\u2002\u2003\u2004\u2005"
noncomputable abbrev wh2 : Str := Str.ofString "\u2006\u2007\u2008\u2009\u200a\u2028\u2029\u202f\u205f\u3000"
theorem wh1_len : wh1.length ≤ 100 := by decide +kernel
theorem wh2_len : wh2.length ≤ 100 := by decide +kernel
local macro_rules | `(tactic| walk_at "my len") => `(tactic| first | with_reducible exact wh1_len | with_reducible exact wh2_len)
@[reducible] noncomputable def ln0P : PSigma fun st : Stmt => (bd755[0]?).getD (.Pass default) = st := by
  refine ⟨?b, ?h⟩
  case h => (conv => lhs; whnf)
@[reducible] noncomputable def ln1P : PSigma fun st : Stmt => (bd755[1]?).getD (.Pass default) = st := by
  refine ⟨?b, ?h⟩
  case h => (conv => lhs; whnf)
@[reducible] noncomputable def ln2P : PSigma fun st : Stmt => (bd755[2]?).getD (.Pass default) = st := by
  refine ⟨?b, ?h⟩
  case h => (conv => lhs; whnf)
@[reducible] noncomputable def lnWP : PSigma fun st : Stmt => (bd755[3]?).getD (.Pass default) = st := by
  refine ⟨?b, ?h⟩
  case h => (conv => lhs; whnf)
@[reducible] noncomputable def lnTailP : PSigma fun b : List Stmt => bd755.drop 4 = b := by
  refine ⟨?b, ?h⟩
  case h => (conv => lhs; whnf)
@[reducible] noncomputable def lnTail : List Stmt := lnTailP.1
@[reducible] noncomputable def lnHead : List Stmt := [ln0P.1, ln1P.1, ln2P.1]
theorem bd755_eq : bd755 = lnHead ++ (lnWP.1 :: lnTail) := rfl
noncomputable abbrev lnE (L : Addr) : Env := envOf (Str.ofString "_law_line") sc755 L 755 (.ref 754)
noncomputable abbrev lnM (x : Value) (wv : Value) (e : Value) : Str → Option Value := fun y =>
  if y = Str.ofString "end" then some e else if y = Str.ofString "white" then some wv else if y = Str.ofString "note" then some x else none
theorem lnM_0 (x wv e v1 : Value) : (fun y => if y = Str.ofString "end" then some e else if y = Str.ofString "white" then some wv else if y = Str.ofString "white" then some v1 else [(Str.ofString "note", x)].reverse.lookup y) = lnM x wv e := by
  funext y
  unfold lnM
  by_cases h1 : y = Str.ofString "end"
  · rw [if_pos h1, if_pos h1]
  · rw [if_neg h1, if_neg h1]
    by_cases h2 : y = Str.ofString "white"
    · rw [if_pos h2, if_pos h2]
    · rw [if_neg h2, if_neg h2, if_neg h2]
      by_cases h3 : y = Str.ofString "note"
      · subst h3; rfl
      · have e3 : (y == Str.ofString "note") = false := by simpa using h3
        rw [if_neg h3]
        simp
        exact h3
theorem lnM_1 (x wv e e' : Value) : (fun y => if y = Str.ofString "end" then some e' else lnM x wv e y) = lnM x wv e' := by
  funext y
  unfold lnM
  by_cases h1 : y = Str.ofString "end"
  · rw [if_pos h1, if_pos h1]
  · simp only [h1, if_false]
noncomputable def wIn (c : Nat) : Bool := !notIn (wh1 ++ wh2) c
noncomputable def tr (l : List Nat) : Nat → Nat
  | 0 => 0
  | e + 1 => if wIn (l.getD e 0) then tr l e else e + 1
theorem tr_le (l : List Nat) : ∀ e, tr l e ≤ e
  | 0 => Nat.le_refl _
  | e + 1 => by
    unfold tr
    cases wIn (l.getD e 0)
    · exact Nat.le_refl _
    · exact Nat.le_succ_of_le (tr_le l e)
noncomputable def lnOf (l : List Nat) : Str := if tr l l.length = 0 then Str.ofString "#" else Str.ofString "# " ++ ofL (l.take (tr l l.length))
theorem item_at (l : List Nat) (e : Nat) (h0 : 0 < e) (h1 : e ≤ l.length) : Txt.item (ofL l) ((e : Int) - 1) = sg (l.getD (e - 1) 0) := by
  have e1 : seqIndex? ((e : Int) - 1) (ofL l).length = some (e - 1) := by
    unfold seqIndex?
    rw [ofL_length]
    dsimp only
    rw [show (if (e : Int) - 1 < 0 then (e : Int) - 1 + (l.length : Int) else (e : Int) - 1) = (e : Int) - 1 from if_neg (by omega), if_pos (by simp only [Bool.and_eq_true, decide_eq_true_eq]; omega)]
    congr 1
    omega
  have e2 : (ofL l).cps[e - 1]? = l[e - 1]? := by rw [← Array.getElem?_toList, cps_ofL]
  unfold Txt.item Txt.charAt
  rw [e1, Option.bind_some, e2, List.getD_eq_getElem?_getD]
section
variable {l : List Nat} {tx : Tok}
theorem lnHeadT {g : Heap} {L : Addr} {QF : Flow → Shared → Prop} (W : Wd w mean mg mb g) (F : Fr g L s.heap (fun y => [(Str.ofString "note", Value.str (ofL l) tx)].reverse.lookup y)) (N : News g L s.heap []) (hl : (ofL l).length ≤ 200)
    (ret : ∀ tw te h' tk, Fr g L h' (lnM (.str (ofL l) tx) (.str (wh1 ++ wh2) tw) (.int ((ofL l).length : Int) te)) → News g L h' [] → QF .next { s with heap := h', toks := tk }) :
    wpAny (md w) (AR dp un fr gd) (execs lnHead (lnE L)) QF E s := by
  have X := W.X
  have T := W.T
  w_on
  w_top on
  walk_at "my steps"
  all_goals (try dsimp only)
  all_goals exact ret _ _ _ _ (frEq (by assumption) (lnM_0 ..)) (by assumption)
theorem lnTest {g : Heap} {L : Addr} {QF : Bool → Shared → Prop} {e : Nat} {te tw : Tok} (W : Wd w mean mg mb g) (F : Fr g L s.heap (lnM (.str (ofL l) tx) (.str (wh1 ++ wh2) tw) (.int (e : Int) te))) (N : News g L s.heap []) (hl : (ofL l).length ≤ 200) (he : e ≤ (ofL l).length)
    (hT : 0 < e → wIn (l.getD (e - 1) 0) = true → ∀ tk, QF true { s with toks := tk }) (hF : (e = 0 ∨ (0 < e ∧ wIn (l.getD (e - 1) 0) = false)) → ∀ tk, QF false { s with toks := tk }) :
    wpAny (md w) (AR dp un fr gd) (isTrue (match lnWP.1 with | .While t _ _ _ => t | _ => .Constant .none 0 default) (lnE L) (eval (match lnWP.1 with | .While t _ _ _ => t | _ => .Constant .none 0 default) (lnE L))) QF E s := by
  have X := W.X
  have T := W.T
  have hlen : (ofL l).length = l.length := ofL_length l
  dsimp only
  w_on
  w_top on
  walk_at "my steps"
  all_goals (try dsimp only)
  · rename List.isEmpty _ = true => hz
    have h0 : 0 < e := by omega
    rw [item_at l e h0 (by omega)] at hz
    exact hF (.inr ⟨h0, by unfold wIn notIn; rw [hz]; rfl⟩) _
  · rename List.isEmpty _ = false => hz
    have h0 : 0 < e := by omega
    rw [item_at l e h0 (by omega)] at hz
    exact hT h0 (by unfold wIn notIn; rw [hz]; rfl) _
  · exact hF (.inl (by omega)) _
theorem lnBody {g : Heap} {L : Addr} {QF : Flow → Shared → Prop} {e : Nat} {te tw : Tok} (W : Wd w mean mg mb g) (F : Fr g L s.heap (lnM (.str (ofL l) tx) (.str (wh1 ++ wh2) tw) (.int (e : Int) te))) (N : News g L s.heap []) (he0 : 0 < e) (he : e ≤ 1000)
    (ret : ∀ te h' tk, Fr g L h' (lnM (.str (ofL l) tx) (.str (wh1 ++ wh2) tw) (.int ((e - 1 : Nat) : Int) te)) → News g L h' [] → QF .next { s with heap := h', toks := tk }) :
    wpAny (md w) (AR dp un fr gd) (execs (match lnWP.1 with | .While _ b _ _ => b | _ => []) (lnE L)) QF E s := by
  have X := W.X
  have T := W.T
  dsimp only
  w_on
  w_top on
  walk_at "my steps"
  all_goals (try dsimp only)
  all_goals exact ret _ _ _ (by rw [Int.natCast_sub he0]; exact frEq (by assumption) (lnM_1 ..)) (by assumption)
noncomputable def lnAt (l : List Nat) (e : Nat) : Str := if e = 0 then Str.ofString "#" else Str.ofString "# " ++ ofL (l.take e)
theorem lnTailT {g : Heap} {L : Addr} {QF : Flow → Shared → Prop} {e : Nat} {te tw : Tok} (W : Wd w mean mg mb g) (F : Fr g L s.heap (lnM (.str (ofL l) tx) (.str (wh1 ++ wh2) tw) (.int (e : Int) te))) (N : News g L s.heap []) (hl : (ofL l).length ≤ 200) (he : e ≤ (ofL l).length)
    (ret : ∀ t' h' tk m, Fr g L h' m → QF (.ret (.str (lnAt l e) t')) { s with heap := h', toks := tk }) :
    wpAny (md w) (AR dp un fr gd) (execs lnTail (lnE L)) QF E s := by
  have X := W.X
  have T := W.T
  w_on
  w_top on
  walk_at "my steps"
  all_goals (try dsimp only)
  · rw [slice_to _ e he, cps_ofL, show Str.ofString "# " ++ ofL (l.take e) = lnAt l e from by unfold lnAt; rw [if_neg (by omega)]]
    exact ret _ _ _ _ (by assumption)
  · rw [show Str.ofString "#" = lnAt l e from by unfold lnAt; rw [if_pos (by omega)]]
    exact ret _ _ _ _ (by assumption)
theorem lnLoop {g : Heap} {L : Addr} {QF : Flow → Shared → Prop} {tw : Tok} {R : Nat} (hE : PassesOwn (md w) (AR dp un fr gd) (lnE L) E) (W : Wd w mean mg mb g) (hl : (ofL l).length ≤ 200) {e : Nat} {te : Tok}
    (F : Fr g L s.heap (lnM (.str (ofL l) tx) (.str (wh1 ++ wh2) tw) (.int (e : Int) te))) (N : News g L s.heap []) (he : e ≤ (ofL l).length) (hR : tr l e = R)
    (ret : ∀ te h' tk, Fr g L h' (lnM (.str (ofL l) tx) (.str (wh1 ++ wh2) tw) (.int (R : Int) te)) → News g L h' [] → QF .next { s with heap := h', toks := tk }) :
    wpAny (md w) (AR dp un fr gd) (exec lnWP.1 (lnE L)) QF E s := by
  refine wpAny_While (codeAny_whileLoop (fun n s' => ∃ e te h tk, n = e ∧ s' = { s with heap := h, toks := tk } ∧ Fr g L h (lnM (.str (ofL l) tx) (.str (wh1 ++ wh2) tw) (.int (e : Int) te)) ∧ News g L h [] ∧ e ≤ (ofL l).length ∧ tr l e = R) ?_ e ⟨e, te, s.heap, s.toks, rfl, rfl, F, N, he, hR⟩)
  rintro n s' ⟨e, te, h, tk, rfl, rfl, F, N, he, hR⟩
  refine wpAny_mono (lnTest (s := { s with heap := h, toks := tk }) (E := E) (QF := fun b s₂ => if b = true then wpAny (md w) (AR dp un fr gd) (execs (match lnWP.1 with | .While _ b _ _ => b | _ => []) (lnE L)) (fun f s₃ => match f with
            | .next | .cont => ∃ m, m < n ∧ ∃ e te h tk, m = e ∧ s₃ = { s with heap := h, toks := tk } ∧ Fr g L h (lnM (.str (ofL l) tx) (.str (wh1 ++ wh2) tw) (.int (e : Int) te)) ∧ News g L h [] ∧ e ≤ (ofL l).length ∧ tr l e = R
            | .brk => QF .next s₃
            | .ret v => QF (.ret v) s₃) E s₂ else QF .next s₂) W F N hl he ?_ ?_) (fun b s₂ h₂ => ?_) hE
  · intro h0 hw tk'
    rw [if_pos rfl]
    refine lnBody (s := { s with heap := h, toks := tk' }) W F N h0 (by omega) ?_
    intro te' h' tk'' F' N'
    refine ⟨n - 1, by omega, n - 1, te', h', tk'', rfl, rfl, F', N', by omega, ?_⟩
    obtain ⟨k, rfl⟩ : ∃ k, n = k + 1 := ⟨n - 1, by omega⟩
    rw [Nat.add_sub_cancel] at hw ⊢
    rw [tr, if_pos hw] at hR
    exact hR
  · intro hz tk'
    rw [if_neg Bool.false_ne_true]
    have : n = R := by
      rcases hz with rfl | ⟨h0, hw⟩
      · exact hR
      · obtain ⟨k, rfl⟩ : ∃ k, n = k + 1 := ⟨n - 1, by omega⟩
        rw [Nat.add_sub_cancel] at hw
        rw [tr, if_neg (by rw [hw]; exact Bool.false_ne_true)] at hR
        exact hR
    subst this
    exact ret _ _ _ F N
  · cases b with
    | true =>
      rw [if_pos rfl] at h₂ ⊢
      exact wpAny_mono h₂ (fun f s₃ x => x) hE
    | false =>
      rw [if_neg Bool.false_ne_true] at h₂ ⊢
      exact wpAny_execs_nil h₂
theorem line_ct2 (W : Wd w mean mg mb s.heap) (hroom : dp < recursionLimit) (hl : l.length ≤ 200) (ret : ∀ t' h' tk, s.heap.StaysIn h' → Q (.str (lnAt l (tr l l.length)) t') { s with heap := h', toks := tk }) :
    wpAny (md w) (AR dp un fr gd) (call (.ref 755) [.str (ofL l) tx]) Q E s := by
  have X := W.X
  have T := W.T
  have hl' : (ofL l).length ≤ 200 := by rw [ofL_length]; exact hl
  refine enterA (binds := [("note", .str (ofL l) tx)]) W (by k_is) (by k_is) hroom (BindsTo.of_eq rfl) (locs rfl) ?_ rfl rfl rfl (by decide)
  intro h₁ L hL F N
  rw [bd755_eq]
  refine execsApp (lnHeadT (s := { s with heap := h₁, toks := _ }) W F N hl' ?_)
  intro tw te h₂ tk₂ F₂ N₂
  dsimp only
  rw [execs_cons]
  refine wpAny_bind (lnLoop (s := { s with heap := h₂, toks := tk₂ }) (R := tr l l.length) (e := (ofL l).length) (by passes_own) W hl' F₂ N₂ (Nat.le_refl _) (by rw [ofL_length]) ?_)
  intro te' h₃ tk₃ F₃ N₃
  dsimp only
  refine lnTailT (s := { s with heap := h₃, toks := tk₃ }) W F₃ N₃ hl' (by rw [ofL_length]; exact tr_le _ _) ?_
  intro t' h' tk m F'
  exact ret _ _ _ F'.keep
end
end
-- Wh
theorem wh_list : (wh1 ++ wh2).cps.toList = [9, 10, 11, 12, 13, 28, 29, 30, 31, 32, 133, 160, 5760, 8192, 8193, 8194, 8195, 8196, 8197, 8198, 8199, 8200, 8201, 8202, 8232, 8233, 8239, 8287, 12288] := by decide +kernel
theorem wi_mem (c : Nat) : ∀ r : List (Nat × Nat), (r.map (·.1)).Pairwise (· ≤ ·) → (Unicode.within r c = true ↔ c ∈ r.flatMap fun p => List.range' p.1 (p.2 + 1 - p.1))
  | [], _ => by simp [Unicode.within]
  | (a, b) :: r, h => by
    rw [List.map_cons, List.pairwise_cons] at h
    have ih := wi_mem c r h.2
    rw [Unicode.within, List.flatMap_cons, List.mem_append, List.mem_range'_1]
    by_cases k : c < a
    · have : c ∉ r.flatMap fun p => List.range' p.1 (p.2 + 1 - p.1) := by
        intro m
        obtain ⟨p, hp, hc⟩ := List.mem_flatMap.mp m
        have h1 := h.1 p.1 (List.mem_map.mpr ⟨p, hp, rfl⟩)
        have h2 := (List.mem_range'_1.mp hc).1
        have h3 : a ≤ p.1 := h1
        omega
      simp only [k, if_true, Bool.false_eq_true, false_iff]
      rintro (q | q)
      · have h3 : a ≤ c := q.1
        omega
      · exact this q
    · simp only [k, if_false, Bool.or_eq_true, decide_eq_true_eq, ih]
      refine or_congr ?_ Iff.rfl
      show c ≤ b ↔ a ≤ c ∧ c < a + (b + 1 - a)
      omega
theorem space_eq (c : Nat) : Unicode.isSpace c = wIn c := by
  have h1 : wIn c = decide (c ∈ UnicodeData.space.flatMap fun p => List.range' p.1 (p.2 + 1 - p.1)) := by
    unfold wIn
    rw [notIn_mem, Bool.not_not, wh_list]
    congr 1
  rw [h1, Bool.eq_iff_iff, decide_eq_true_eq]
  exact wi_mem c _ (by decide +kernel)
theorem tr_eq (l : List Nat) : ∀ e, e ≤ l.length → tr l e = e - ((l.take e).reverse.takeWhile Unicode.isSpace).length
  | 0, _ => by simp [tr]
  | e + 1, h => by
    have ih := tr_eq l e (by omega)
    have hle := tr_le l e
    have h1 : l.take (e + 1) = l.take e ++ [l.getD e 0] := by
      rw [List.take_add_one, List.getD_eq_getElem?_getD]
      have : e < l.length := by omega
      simp [this]
    rw [tr, h1, List.reverse_append, List.reverse_singleton, List.singleton_append, List.takeWhile_cons, space_eq]
    cases wIn (l.getD e 0)
    · simp
    · simp only [if_true, List.length_cons]
      rw [ih]; omega
theorem rstrip_eq (l : List Nat) : Txt.rstrip (ofL l) = ofL (l.take (tr l l.length)) := by
  have e := tr_eq l l.length (Nat.le_refl _)
  rw [List.take_length] at e
  unfold Txt.rstrip Txt.stripBy PySem.stripSame PySem.stripped PySem.stripLo PySem.stripHi
  simp only [if_false, Bool.false_eq_true, if_true, List.drop_zero, beq_self_eq_true, Bool.true_and, cps_ofL, ofL_length]
  rw [← e]
  split
  · rename_i h
    rw [beq_iff_eq.mp h, List.take_length]
  · rw [← ofL_cps (Builtin.Str.strSub _ _ _), StrLaws.strSub_toList, cps_ofL, List.drop_zero, Nat.sub_zero]
theorem cmt_eq (l : List Nat) : cmt (ofL l) = lnAt l (tr l l.length) := by
  unfold cmt lnAt
  rw [rstrip_eq, ofL_length, List.length_take, Nat.min_eq_left (tr_le l l.length)]
theorem rstR17 {w : World} {A : Around} {s : Shared} {Q : Bool → Shared → Prop} {E : Value → Shared → Prop} (h : wpAny (md w) A (truthy (.bool true)) Q E s) : wpAny (md w) A (truthy (.bool true)) Q E s := by
  first | (walk1; fail) | exact h
-- R17
theorem fillR17 : Fill PySem.Challenge.rw_oc0205_01 kx := by
  k_fill
  exact True.intro
section
variable {w : World} {mean : ExcName → Option Value} {mg mb : Str → Option Value} {dp un : Nat} {fr : Option (List Env)} {gd : Option (List Code)} {s : Shared} {Q E : Value → Shared → Prop}
@[reducible] noncomputable def lw1P : PSigma fun st : Stmt => (bd802[1]?).getD (.Pass default) = st := by
  refine ⟨?b, ?h⟩
  case h => (conv => lhs; whnf)
@[reducible] noncomputable def lw2P : PSigma fun st : Stmt => (bd802[2]?).getD (.Pass default) = st := by
  refine ⟨?b, ?h⟩
  case h => (conv => lhs; whnf)
noncomputable def compOf (st : Stmt) : Expr := match st with
  | .Assign _ (.Call _ (e :: _) _ _) _ => e
  | _ => .Constant .none 0 default
noncomputable def eltOf (e : Expr) : Expr := match e with
  | .ListComp x _ _ _ => x
  | e => e
noncomputable def scpOf (e : Expr) : Scope := match e with
  | .ListComp _ _ s _ => s
  | _ => pg.main.scope
noncomputable def ifsOf (e : Expr) : List Expr := match e with
  | .ListComp _ (⟨_, _, i, _⟩ :: _) _ _ => i
  | _ => []
@[reducible] noncomputable def cp1P : PSigma fun e : Expr => compOf lw1P.1 = e := by
  refine ⟨?b, ?h⟩
  case h => (conv => lhs; whnf)
@[reducible] noncomputable def cp2P : PSigma fun e : Expr => compOf lw2P.1 = e := by
  refine ⟨?b, ?h⟩
  case h => (conv => lhs; whnf)
@[reducible] noncomputable def el1P : PSigma fun e : Expr => eltOf cp1P.1 = e := by
  refine ⟨?b, ?h⟩
  case h => (conv => lhs; whnf)
@[reducible] noncomputable def el2P : PSigma fun e : Expr => eltOf cp2P.1 = e := by
  refine ⟨?b, ?h⟩
  case h => (conv => lhs; whnf)
noncomputable def tstOf (e : Expr) : Expr := match ifsOf e with
  | c :: _ => c
  | [] => e
@[reducible] noncomputable def ts1P : PSigma fun e : Expr => tstOf cp1P.1 = e := by
  refine ⟨?b, ?h⟩
  case h => (conv => lhs; whnf)
@[reducible] noncomputable def ts2P : PSigma fun e : Expr => tstOf cp2P.1 = e := by
  refine ⟨?b, ?h⟩
  case h => (conv => lhs; whnf)
@[reducible] noncomputable def sp2P : PSigma fun e : Scope => scpOf cp2P.1 = e := by
  refine ⟨?b, ?h⟩
  case h => (conv => lhs; whnf)
@[reducible] noncomputable def sp1P : PSigma fun e : Scope => scpOf cp1P.1 = e := by
  refine ⟨?b, ?h⟩
  case h => (conv => lhs; whnf)
noncomputable abbrev lwE (L fa : Addr) (cd : Value) : Env := envOf (Str.ofString "law") sc802 L fa cd
theorem nameL {M : Model} {A : Around} {C : Addr} {env : Env} {sc : Scope} {x : Str} {pos : Pos} {m : Str → Option Value} {v : Value} (hns : s.heap.Ns C m) (hm : m x = some v) (h : Q v s) (hk : sc.kind = .function) (hx : sc.names.lookup x = some .local) (hd : (x == ("__debug__" : Str)) = false) :
    wpAny M A (eval (.Name x pos) (compEnv sc C env)) Q E s := wpAny_Name (wpAny_loadName_local hk hx hns hm h) hd
theorem nameG {A : Around} {C : Addr} {env : Env} {sc : Scope} {x : Str} {pos : Pos} {v : Value} (W : Wd w mean mg mb s.heap) (e : nsIn (kx w.params) mainGlobals x = some (some v)) (h : Q v s) (hk : sc.kind = .function) (hx : sc.names.lookup x = some .globalImplicit) (hg : env.globals = mainGlobals) (hd : (x == ("__debug__" : Str)) = false) :
    wpAny (md w) A (eval (.Name x pos) (compEnv sc C env)) Q E s :=
  Calls.Name_function_global (env := compEnv sc C env) hk hx (Calls.loadGlobal_global (env := compEnv sc C env) (by show s.heap.Ns env.globals mg; rw [hg]; exact W.T.g) (mg_of W.X W.T.g e) h) hd
section
variable {C L fa : Addr} {cd : Value} {m₂ : Str → Option Value} {n : Int} {t : Tok}
local macro_rules | `(tactic| walk_at "eval Name") => `(tactic| (
  (with_reducible rename Heap.Ns _ _ _ => kN); refine' nameL kN ?k1 ?_ ?k2 ?k3 ?k4; (case k1 => assumption); (case k2 => exact rfl); (case k3 => exact rfl); (case k4 => decide +kernel)))
local macro_rules | `(tactic| walk_at "eval Name") => `(tactic| (
  (with_reducible show wpAny _ _ (eval (Expr.Name (PySem.Str.ofString "_law_sign") _) _) _ _ _);
  refine' nameG ?k0 ?k1 ?_ ?k2 ?k3 ?k5 ?k4; (case k0 => assumption); (case k1 => k_is); (case k2 => exact rfl); (case k3 => exact rfl); (case k5 => exact rfl); (case k4 => decide +kernel)))
local macro_rules | `(tactic| walk_at "call ref") => `(tactic| (
  (with_reducible show wpAny _ _ (call (Value.ref 748) _) _ _ _);
  refine' sign_ct ?k1 ?k2 ?_; (case k1 => assumption); (case k2 => (dsimp only; omega)); intro c' t' h' tk' hc' st'; try dsimp only))
theorem elt1 (W : Wd w mean mg mb s.heap) (hroom : dp + 3 < recursionLimit) (hns : s.heap.Ns C m₂) (hm : m₂ (Str.ofString "x") = some (.int n t))
    (ret : ∀ c t' h' tk, c < 1114112 → s.heap.StaysIn h' → Q (.str (sg c) t') { s with heap := h', toks := tk }) :
    wpAny (md w) ((AR dp un fr gd).deeper (lwE L fa cd)) (eval el1P.1 (compEnv sp1P.1 C (lwE L fa cd))) Q E s := by
  have X := W.X
  have T := W.T
  w_on
  w_top on
  walk_at "my steps"
  all_goals (try dsimp only)
  all_goals exact ret _ _ _ _ (by assumption) (by assumption)
theorem tst1 {QB : Bool → Shared → Prop} (W : Wd w mean mg mb s.heap) (hns : s.heap.Ns C m₂) (hm : m₂ (Str.ofString "x") = some (.int n t))
    (ret : ∀ tk, QB (n.fmod 2 == 0) { s with toks := tk }) :
    wpAny (md w) ((AR dp un fr gd).deeper (lwE L fa cd)) (isTrue ts1P.1 (compEnv sp1P.1 C (lwE L fa cd)) (eval ts1P.1 (compEnv sp1P.1 C (lwE L fa cd)))) QB E s := by
  have X := W.X
  have T := W.T
  w_on
  w_top on
  walk_at "my steps"
  all_goals (try dsimp only)
  all_goals exact ret _
theorem elt2 (W : Wd w mean mg mb s.heap) (hroom : dp + 3 < recursionLimit) (hns : s.heap.Ns C m₂) (hm : m₂ (Str.ofString "x") = some (.int n t))
    (ret : ∀ c t' h' tk, c < 1114112 → s.heap.StaysIn h' → Q (.str (sg c) t') { s with heap := h', toks := tk }) :
    wpAny (md w) ((AR dp un fr gd).deeper (lwE L fa cd)) (eval el2P.1 (compEnv sp2P.1 C (lwE L fa cd))) Q E s := by
  have X := W.X
  have T := W.T
  w_on
  w_top on
  walk_at "my steps"
  all_goals (try dsimp only)
  all_goals exact ret _ _ _ _ (by assumption) (by assumption)
theorem tst2 {QB : Bool → Shared → Prop} (W : Wd w mean mg mb s.heap) (hns : s.heap.Ns C m₂) (hm : m₂ (Str.ofString "x") = some (.int n t))
    (ret : ∀ tk, QB (n.fmod 2 == 1) { s with toks := tk }) :
    wpAny (md w) ((AR dp un fr gd).deeper (lwE L fa cd)) (isTrue ts2P.1 (compEnv sp2P.1 C (lwE L fa cd)) (eval ts2P.1 (compEnv sp2P.1 C (lwE L fa cd)))) QB E s := by
  have X := W.X
  have T := W.T
  w_on
  w_top on
  walk_at "my steps"
  all_goals (try dsimp only)
  all_goals exact ret _
end
theorem pairedSg {α : Type} : ∀ {l : List α} {ys : List Value}, Paired (fun _ y => ∃ c t, y = .str (sg c) t ∧ c < 1114112) l ys → ∃ cs : List Nat, StrsAre ys (cs.map sg) ∧ cs.length = l.length ∧ ∀ c ∈ cs, c < 1114112
  | _, _, .nil => ⟨[], .nil, rfl, fun _ h => nomatch h⟩
  | _, _, .cons ⟨c, t, e, hc⟩ r => by
    obtain ⟨cs, h1, h2, h3⟩ := pairedSg r
    subst e
    exact ⟨c :: cs, .cons _ _ h1, by simp [h2], fun d hd => by
      rcases List.mem_cons.mp hd with rfl | hd
      · exact hc
      · exact h3 d hd⟩
noncomputable def itOf (e : Expr) : Expr := match e with
  | .ListComp _ (⟨_, i, _, _⟩ :: _) _ _ => i
  | e => e
@[reducible] noncomputable def it1P : PSigma fun e : Expr => itOf cp1P.1 = e := by
  refine ⟨?b, ?h⟩
  case h => (conv => lhs; whnf)
@[reducible] noncomputable def it2P : PSigma fun e : Expr => itOf cp2P.1 = e := by
  refine ⟨?b, ?h⟩
  case h => (conv => lhs; whnf)
section
variable {L fa : Addr} {cd : Value}
theorem comp1_ct {ax : Addr} {vs : List Value} (W : Wd w mean mg mb s.heap) (hroom : dp + 3 < recursionLimit) (hev : ∀ Q' : Value → Shared → Prop, (∀ tk, Q' (.ref ax) { s with toks := tk }) → wpAny (md w) ((AR dp un fr gd).deeper (lwE L fa cd)) (eval it1P.1 (lwE L fa cd)) Q' E s)
    (hl : s.heap.IsList ax vs.toArray) (hI : ∀ v ∈ vs, ∃ n t, v = .int n t) (hlen : vs.length ≤ 63)
    (ret : ∀ (D : Nat) h' tk ys (cs : List Nat), s.heap.get? D = none → h'.IsList D ys → StrsAre ys.toList (cs.map sg) → cs.length ≤ vs.length → (∀ c ∈ cs, c < 1114112) → s.heap.StaysIn h' → Q (.ref D) { s with heap := h', toks := tk }) :
    wpAny (md w) ((AR dp un fr gd).deeper (lwE L fa cd)) (eval cp1P.1 (lwE L fa cd)) Q E s := by
  refine wpAny_ListComp_map (fun v => match v with | .int n _ => n.fmod 2 == 0 | _ => false) (fun _ y => ∃ c t, y = .str (sg c) t ∧ c < 1114112) rfl (by decide) (by decide) rfl (by decide +kernel) (by decide +kernel) (hev _ fun tk => ?_)
  refine ⟨ax, vs.toArray, rfl, hl, by rw [sizeLine_eq]; simp; omega, ?_, ?_, ?_⟩
  · intro C v s₂ m₂ E' hv hns hm hk
    obtain ⟨n, t, rfl⟩ := hI v (by simpa using hv)
    rw [List.forIn_cons]
    simp only [if_true]
    refine wpAny_bind (wpAny_bind (tst1 (s := s₂) (W.keeps hk) hns hm fun tk' => wpAny_pure ?_))
    exact wpAny_pure ⟨rfl, s₂.heap, tk', rfl, fun b o e => e⟩
  · intro C v s₂ m₂ E' hv hp hns hm hk
    obtain ⟨n, t, rfl⟩ := hI v (by simpa using hv)
    exact elt1 (s := s₂) (W.keeps hk) hroom hns hm fun c t' h' tk' hc st => ⟨⟨c, t', rfl, hc⟩, h', tk', rfl, st⟩
  · intro D h' tk' ys hD hy hP hk
    obtain ⟨cs, h1, h2, h3⟩ := pairedSg hP
    refine ret D h' tk' ys cs hD hy h1 ?_ h3 hk
    rw [h2]
    exact Nat.le_trans (List.length_filter_le _ _) (by simp)
theorem comp2_ct {ax : Addr} {vs : List Value} (W : Wd w mean mg mb s.heap) (hroom : dp + 3 < recursionLimit) (hev : ∀ Q' : Value → Shared → Prop, (∀ tk, Q' (.ref ax) { s with toks := tk }) → wpAny (md w) ((AR dp un fr gd).deeper (lwE L fa cd)) (eval it2P.1 (lwE L fa cd)) Q' E s)
    (hl : s.heap.IsList ax vs.toArray) (hI : ∀ v ∈ vs, ∃ n t, v = .int n t) (hlen : vs.length ≤ 63)
    (ret : ∀ (D : Nat) h' tk ys (cs : List Nat), s.heap.get? D = none → h'.IsList D ys → StrsAre ys.toList (cs.map sg) → cs.length ≤ vs.length → (∀ c ∈ cs, c < 1114112) → s.heap.StaysIn h' → Q (.ref D) { s with heap := h', toks := tk }) :
    wpAny (md w) ((AR dp un fr gd).deeper (lwE L fa cd)) (eval cp2P.1 (lwE L fa cd)) Q E s := by
  refine wpAny_ListComp_map (fun v => match v with | .int n _ => n.fmod 2 == 1 | _ => false) (fun _ y => ∃ c t, y = .str (sg c) t ∧ c < 1114112) rfl (by decide) (by decide) rfl (by decide +kernel) (by decide +kernel) (hev _ fun tk => ?_)
  refine ⟨ax, vs.toArray, rfl, hl, by rw [sizeLine_eq]; simp; omega, ?_, ?_, ?_⟩
  · intro C v s₂ m₂ E' hv hns hm hk
    obtain ⟨n, t, rfl⟩ := hI v (by simpa using hv)
    rw [List.forIn_cons]
    simp only [if_true]
    refine wpAny_bind (wpAny_bind (tst2 (s := s₂) (W.keeps hk) hns hm fun tk' => wpAny_pure ?_))
    exact wpAny_pure ⟨rfl, s₂.heap, tk', rfl, fun b o e => e⟩
  · intro C v s₂ m₂ E' hv hp hns hm hk
    obtain ⟨n, t, rfl⟩ := hI v (by simpa using hv)
    exact elt2 (s := s₂) (W.keeps hk) hroom hns hm fun c t' h' tk' hc st => ⟨⟨c, t', rfl, hc⟩, h', tk', rfl, st⟩
  · intro D h' tk' ys hD hy hP hk
    obtain ⟨cs, h1, h2, h3⟩ := pairedSg hP
    refine ret D h' tk' ys cs hD hy h1 ?_ h3 hk
    rw [h2]
    exact Nat.le_trans (List.length_filter_le _ _) (by simp)
end
end
-- For2
noncomputable abbrev rgO (x left : Int) : Obj := { cls := .type "range_iterator", dict := none, data := .fields #[rawInt x, rawInt left, rawInt 1], slots := #[] }
section
variable {w : World} {E : Value → Shared → Prop} {s : Shared} {A : Around}
theorem rngLoopT {g : Heap} {L : Addr} {n : Nat} {env : Env} {v : Str} {px : Pos} {body : List Stmt} {QF : Flow → Shared → Prop}
    (hh : A.handled = none) (hE : PassesOwn (md w) A env E) (Inv : Nat → (Str → Option Value) → List (Addr × Obj) → Prop) (hnf : ∀ i m news, Inv i m news → NoF news)
    (turn : ∀ i m news it o h tk tc QF', i < n → Inv i m news → Fr g L h m → News g L h ((it, o) :: news) → (∃ vs, o.data = .fields vs) →
      (∀ m' news' h' tk', Inv (i + 1) m' news' → Fr g L h' m' → News g L h' ((it, o) :: news') → QF' .next { s with heap := h', toks := tk' }) →
      wpAny (md w) A (storeName env v (.int (i : Int) tc)) (fun _ s₂ => wpAny (md w) A (execs body env) QF' E s₂) E { s with heap := h, toks := tk })
    (done : ∀ m news h tk, Inv n m news → Fr g L h m → News g L h news → QF .next { s with heap := h, toks := tk })
    {it : Addr} {h : Heap} {tk : Nat} {m : Str → Option Value} {news : List (Addr × Obj)} (hI : Inv 0 m news) (F : Fr g L h m) (N : News g L h ((it, rgO 0 (n : Int)) :: news)) :
    codeAny (md w) A (.forLoop (.Name v px) (.ref it) body [] env) (fun r s' => match r with | .ok f => QF f s' | .error e => cameBackBy (md w) A env E e s') { s with heap := h, toks := tk } := by
  refine codeAny_forLoop (R := fun r s' => match r with | .ok f => QF f s' | .error e => cameBackBy (md w) A env E e s')
    (fun k s' => ∃ i m news h tk, k = n - i ∧ i ≤ n ∧ s' = { s with heap := h, toks := tk } ∧ Inv i m news ∧ Fr g L h m ∧ News g L h ((it, rgO (i : Int) ((n - i : Nat) : Int)) :: news)) ?_ n ⟨0, m, news, h, tk, rfl, Nat.zero_le _, rfl, hI, F, N⟩
  rintro k s' ⟨i, m, news, h, tk, rfl, hi, rfl, hI, F, N⟩
  have hit : IsRangeIter h it (i : Int) ((n - i : Nat) : Int) 1 := (N _ (.head _)).1
  have nf : ∀ p ∈ news, p.2 ≠ rgO (i : Int) ((n - i : Nat) : Int) := fun p hp q => hnf _ _ _ hI p hp _ (by rw [q])
  by_cases hx : i < n
  · refine wpAny_passesOwn hE (wpAny_pyNext_range_item (s := { s with heap := h, toks := tk }) hit (by omega) fun h' hit' sb => ?_)
    have e : ∀ b o, b ≠ it → h.get? b = some o → h'.get? b = some o := fun b o hb q => (sb.2 b hb).trans q
    have F' := frBut F N e
    have e1 : (i : Int) + 1 = ((i + 1 : Nat) : Int) := by omega
    have e2 : ((n - i : Nat) : Int) - 1 = ((n - (i + 1) : Nat) : Int) := by omega
    rw [e1, e2] at hit'
    have N' : News g L h' ((it, rgO ((i + 1 : Nat) : Int) ((n - (i + 1) : Nat) : Int)) :: news) := fun p hp => by
      rcases List.mem_cons.mp hp with rfl | hp
      · exact ⟨hit', (N _ (.head _)).2⟩
      · exact newsBut N nf e p hp
    refine wpAny_passesOwn hE (wpAny_assign_Name (wpAny_mono (turn i m news it _ h' (tk + 1) tk (fun f s₃ => match f with
            | .next | .cont => ∃ k', k' < n - i ∧ ∃ i m news h tk, k' = n - i ∧ i ≤ n ∧ s₃ = { s with heap := h, toks := tk } ∧ Inv i m news ∧ Fr g L h m ∧ News g L h ((it, rgO (i : Int) ((n - i : Nat) : Int)) :: news)
            | .brk => QF .next s₃
            | .ret v => QF (.ret v) s₃) hx hI F' N' ⟨_, rfl⟩ ?_) (fun _ s₂ h₂ => wpAny_passesOwn hE h₂) fun _ _ z => z))
    intro m' news' h'' tk' hI' F'' N''
    exact ⟨n - (i + 1), by omega, i + 1, m', news', h'', tk', rfl, hx, rfl, hI', F'', N''⟩
  · obtain rfl : i = n := by omega
    refine wpAny_passesOwn hE (wpAny_pyNext_range_end (s := { s with heap := h, toks := tk }) hh hit (by omega) fun h' e => ?_)
    exact wpAny_execs_nil (done m news h' tk hI (frBut F N fun b o hb q => e b o hb q) (newsBut N nf fun b o hb q => e b o hb q))
theorem small01 (n : Nat) (h : n ≤ 1000) : Builtin.Range.small 0 (n : Int) 1 = true ∧ Builtin.Range.rangeSize 0 (n : Int) 1 = (n : Int) := by
  have e : Builtin.Range.rangeSize 0 (n : Int) 1 = (n : Int) := by
    unfold Builtin.Range.rangeSize
    rw [if_pos (by decide)]
    by_cases h0 : (0 : Int) < (n : Int)
    · rw [if_pos h0, Int.ediv_one]; omega
    · rw [if_neg h0]; omega
  refine ⟨?_, e⟩
  unfold Builtin.Range.small
  rw [e]
  unfold Builtin.Range.rangeFitsLong
  have e2 : (n : Int) + (1 - 1) = (n : Int) := by omega
  have f1 : (decide (-(2 ^ 63) ≤ (n : Int)) && decide ((n : Int) < 2 ^ 63)) = true := by
    rw [Bool.and_eq_true, decide_eq_true_eq, decide_eq_true_eq]
    omega
  rw [e2, f1, if_pos (by decide)]
  simp
theorem rngLoop {g : Heap} {L : Addr} {n : Nat} {env : Env} {v : Str} {px pos : Pos} {iter : Expr} {body : List Stmt} {QF : Flow → Shared → Prop} {m : Str → Option Value} {news : List (Addr × Obj)}
    (Inv : Nat → (Str → Option Value) → List (Addr × Obj) → Prop) (hnf : ∀ i m news, Inv i m news → NoF news) (hh : A.handled = none) (hE : PassesOwn (md w) A env E) (hs : ∀ y, foldedSetIterable iter env y = pure y) (hn : n ≤ 1000)
    (hI : Inv 0 m news)
    (hev : ∀ Q' : Value → Shared → Prop, (∀ r h' tk t u v, IsRange h' r 0 (n : Int) 1 t u v → Fr g L h' m → News g L h' news → Q' (.ref r) { s with heap := h', toks := tk }) → wpAny (md w) A (eval iter env) Q' E s)
    (turn : ∀ i m news it o h tk tc QF', i < n → Inv i m news → Fr g L h m → News g L h ((it, o) :: news) → (∃ vs, o.data = .fields vs) →
      (∀ m' news' h' tk', Inv (i + 1) m' news' → Fr g L h' m' → News g L h' ((it, o) :: news') → QF' .next { s with heap := h', toks := tk' }) →
      wpAny (md w) A (storeName env v (.int (i : Int) tc)) (fun _ s₂ => wpAny (md w) A (execs body env) QF' E s₂) E { s with heap := h, toks := tk })
    (done : ∀ m news h tk, Inv n m news → Fr g L h m → News g L h news → QF .next { s with heap := h, toks := tk }) :
    wpAny (md w) A (exec (.For (.Name v px) iter body [] pos) env) QF E s := by
  refine wpAny_For (hev _ fun r h' tk t u v hr F N => ?_) hs
  refine wpAny_pyIter_range (s := { s with heap := h', toks := tk }) hr (small01 n hn).1 ?_
  rw [(small01 n hn).2]
  exact rngLoopT hh hE Inv hnf turn done hI (F.push _) (N.push F _ rfl)
end
theorem rstR18 {w : World} {A : Around} {s : Shared} {Q : Bool → Shared → Prop} {E : Value → Shared → Prop} (h : wpAny (md w) A (truthy (.bool true)) Q E s) : wpAny (md w) A (truthy (.bool true)) Q E s := by
  first | (walk1; fail) | exact h
-- R18
theorem fillR18 : Fill PySem.Challenge.rw_oc0205_01 kx := by
  k_fill
  exact True.intro
section
variable {w : World} {mean : ExcName → Option Value} {mg mb : Str → Option Value} {dp un : Nat} {fr : Option (List Env)} {gd : Option (List Code)} {s : Shared} {Q E : Value → Shared → Prop}
theorem join_sg : ∀ cs : List Nat, Txt.join (Str.ofString "") (cs.map sg) = ofL cs := by
  have he : (Str.ofString "").cps = #[] := by decide +kernel
  have key : ∀ (cs : List Nat) (a : Array Nat), (cs.map sg).foldl (fun acc p => acc ++ (Str.ofString "").cps ++ p.cps) a = a ++ cs.toArray := by
    intro cs
    induction cs with
    | nil => intro a; simp
    | cons c r ih =>
      intro a
      rw [List.map_cons, List.foldl_cons, ih, he]
      simp
  intro cs
  cases cs with
  | nil => rfl
  | cons c r =>
    show (⟨((r.map sg)).foldl _ #[c]⟩ : Str) = _
    rw [key]
    unfold ofL
    simp
theorem intsMem : ∀ {vs : List Value} {ns : List Int}, IntsAre vs ns → ∀ v ∈ vs, ∃ n t, v = .int n t := by
  intro vs ns h
  induction h with
  | nil => intro v hv; cases hv
  | cons n t _ ih =>
    intro v hv
    rcases List.mem_cons.mp hv with rfl | hv
    · exact ⟨n, t, rfl⟩
    · exact ih v hv
@[reducible] noncomputable def lw0P : PSigma fun st : Stmt => (bd802[0]?).getD (.Pass default) = st := by
  refine ⟨?b, ?h⟩
  case h => (conv => lhs; whnf)
section
variable {L fa sc : Nat} {cd : Value} {vs : List Value} {ns : List Int} {g : Heap} {QF : Flow → Shared → Prop}
theorem joinSg {A : Around} {D : Addr} {ys : Array Value} {cs : List Nat} {t : Tok} (hl : s.heap.IsList D ys) (hi : StrsAre ys.toList (cs.map sg)) (hn : cs.length ≤ 100) (h : ∀ t' k, Q (.str (ofL cs) t') { s with toks := k }) :
    wpAny (md w) A (call (.builtin "str.join") [.str (Str.ofString "") t, .ref D]) Q E s := by
  refine join_listC hl hi (by decide +kernel) ?_ (by rw [join_sg]; exact h)
  have : ∀ cs : List Nat, ((cs.map sg).map (·.length)).sum = cs.length := by
    intro cs
    induction cs with
    | nil => rfl
    | cons c r ih => simp only [List.map_cons, List.sum_cons, ih, List.length_cons, sg_len]; omega
  rw [this, List.length_map]; omega
theorem lw0T (W : Wd w mean mg mb g) (F : Fr g L s.heap (fun y => [(Str.ofString "script", Value.ref sc)].reverse.lookup y)) (N : News g L s.heap []) (IL : g.IsList sc vs.toArray) (hI : IntsAre vs ns) (hn : ns.length ≤ 63)
    (ret : ∀ (D : Nat) ws h' tk, IntsAre ws (ns.take 12) → Fr g L h' (fun y => if y = Str.ofString "row" then some (Value.ref D) else [(Str.ofString "script", Value.ref sc)].lookup y) → News g L h' [(D, PySem.W.listOf ws.toArray 0)] → QF .next { s with heap := h', toks := tk }) :
    wpAny (md w) ((AR dp un fr gd).deeper (lwE L fa cd)) (execs [lw0P.1] (lwE L fa cd)) QF E s := by
  have X := W.X
  have T := W.T
  w_on
  w_top on
  walk_at "my steps"
  all_goals (try dsimp only)
  all_goals exact ret _ _ _ _ (by assumption) (by assumption) (by assumption)
local macro_rules | `(tactic| walk_at "eval ListComp") => `(tactic| (
  (with_reducible rename Fr _ _ _ _ => kF); (with_reducible rename News _ _ _ _ => kN); (with_reducible rename IntsAre _ _ => kI);
  k_dflt ((first | refine' comp1_ct ?k1 ?k2 ?k3 ?k4 ?k5 ?k6 ?_ | refine' comp2_ct ?k1 ?k2 ?k3 ?k4 ?k5 ?k6 ?_); (case k3 => exact fun Q' hQ => wpAny_Name (wpAny_loadName_local rfl rfl (Fr.ns kF) rfl (hQ _)) (by decide +kernel)); (case k4 => exact ⟨_, News.get kN (by k_mem), rfl, _, rfl⟩); (case k1 => exact Wd.keeps (by assumption) (Fr.keep kF)); (case k2 => assumption); (case k5 => exact intsMem kI); (case k6 => assumption));
  intro D' h' tk' ys' cs' hD' hy' hs' hc' hv' st'; (have hcl' : cs'.length ≤ 12 := Nat.le_trans hc' (by assumption)); replace kF := frStays kF st'; replace kN := newsStays kN st'; try dsimp only))
local macro_rules | `(tactic| walk_at "call builtin:str.join") => `(tactic| (
  (with_reducible rename StrsAre _ _ => kS); k_dflt (refine' joinSg (by assumption) kS ?k1 ?_; (case k1 => omega)); intro t' k'))
local macro_rules | `(tactic| walk_at "call ref") => `(tactic| (
  (with_reducible show wpAny _ _ (call (Value.ref 776) _) _ _ _);
  (with_reducible rename Fr _ _ _ _ => kF); (with_reducible rename News _ _ _ _ => kN);
  refine' closed_ct ?k1 ?k2 ?k3 ?_; (case k1 => exact Wd.keeps (by assumption) (Fr.keep kF)); (case k2 => (dsimp only; omega)); (case k3 => omega);
  intro zs' t' h' tk' hz' hzc' st'; (have hzl' : (ofL zs').length ≤ 14 := by rw [ofL_length]; omega); replace kF := frStays kF st'; replace kN := newsStays kN st'; try dsimp only))
@[reducible] noncomputable def lw3P : PSigma fun st : Stmt => (bd802[3]?).getD (.Pass default) = st := by
  refine ⟨?b, ?h⟩
  case h => (conv => lhs; whnf)
@[reducible] noncomputable def lw4P : PSigma fun st : Stmt => (bd802[4]?).getD (.Pass default) = st := by
  refine ⟨?b, ?h⟩
  case h => (conv => lhs; whnf)
@[reducible] noncomputable def lw5P : PSigma fun st : Stmt => (bd802[5]?).getD (.Pass default) = st := by
  refine ⟨?b, ?h⟩
  case h => (conv => lhs; whnf)
theorem lw1T {D : Nat} {ws : List Value} (W : Wd w mean mg mb g) (hroom : dp + 12 < recursionLimit) (hr3 : dp + 3 < recursionLimit) (F : Fr g L s.heap (fun y => if y = Str.ofString "row" then some (Value.ref D) else [(Str.ofString "script", Value.ref sc)].lookup y)) (N : News g L s.heap [(D, PySem.W.listOf ws.toArray 0)]) (hI : IntsAre ws (ns.take 12)) (hw : ws.length ≤ 63) (hw12 : ws.length ≤ 12)
    (ret : ∀ (zs nl : List Nat) tx tn p (st lw : Nat) tm (m0 : Str → Option Value) h' tk, zs.length ≤ 14 → nl.length ≤ 12 → (∀ c ∈ zs, c < 1114112) → (∀ c ∈ nl, c < 1114112) →
      Fr g L h' (fun y => if y = Str.ofString "state" then some (Value.ref st) else if y = Str.ofString "text" then some (Value.str (ofL zs ++ Str.ofString "\n'b c'\\d") tx) else if y = Str.ofString "plain" then some (Value.bool p) else if y = Str.ofString "note" then some (Value.str (ofL nl) tn) else m0 y) →
      News g L h' [(st, tupObj [.str mG tm, .none, .ref lw]), (lw, listObj [] 0)] → QF .next { s with heap := h', toks := tk }) :
    wpAny (md w) ((AR dp un fr gd).deeper (lwE L fa cd)) (execs [lw1P.1, lw2P.1, lw3P.1, lw4P.1, lw5P.1] (lwE L fa cd)) QF E s := by
  have X := W.X
  have T := W.T
  w_on
  w_top on
  walk_at "my steps"
  all_goals (try dsimp only)
  rename (ofL _).length ≤ 14 => hz
  rename News _ _ _ _ => kN
  rename Fr _ _ _ _ => kF
  rw [ofL_length] at hz
  rename (∀ c ∈ _, c ∈ _ ∨ c < 128) => hzc
  exact ret _ _ _ _ _ _ _ _ _ _ _ hz (by assumption) (fun c hc => (hzc c hc).elim (fun h => by solve_by_elim) (fun h => by omega)) (by assumption) kF (newsLast kN (.head _) (.tail _ (.head _)))
end
end
theorem rstR19 {w : World} {A : Around} {s : Shared} {Q : Bool → Shared → Prop} {E : Value → Shared → Prop} (h : wpAny (md w) A (truthy (.bool true)) Q E s) : wpAny (md w) A (truthy (.bool true)) Q E s := by
  first | (walk1; fail) | exact h
-- R19
theorem fillR19 : Fill PySem.Challenge.rw_oc0205_01 kx := by
  k_fill
  exact True.intro
section
variable {w : World} {mean : ExcName → Option Value} {mg mb : Str → Option Value} {dp un : Nat} {fr : Option (List Env)} {gd : Option (List Code)} {s : Shared} {Q E : Value → Shared → Prop}
@[reducible] noncomputable def lw6P : PSigma fun st : Stmt => (bd802[6]?).getD (.Pass default) = st := by
  refine ⟨?b, ?h⟩
  case h => (conv => lhs; whnf)
noncomputable def forIter (st : Stmt) : Expr := match st with
  | .For _ i _ _ _ => i
  | _ => .Constant .none 0 default
@[reducible] noncomputable def lwItP : PSigma fun e : Expr => forIter lw6P.1 = e := by
  refine ⟨?b, ?h⟩
  case h => (conv => lhs; whnf)
@[reducible] noncomputable def lwBodyP : PSigma fun b : List Stmt => forBody lw6P.1 = b := by
  refine ⟨?b, ?h⟩
  case h => (conv => lhs; whnf)
@[reducible] noncomputable def lwTailP : PSigma fun b : List Stmt => bd802.drop 7 = b := by
  refine ⟨?b, ?h⟩
  case h => (conv => lhs; whnf)
theorem bd802_eq : bd802 = [lw0P.1] ++ ([lw1P.1, lw2P.1, lw3P.1, lw4P.1, lw5P.1] ++ (lw6P.1 :: lwTailP.1)) := rfl
noncomputable abbrev lpM (tx nt : Value) (p : Bool) (st : Addr) (kv rv dv : Option Value) (m0 : Str → Option Value) : Str → Option Value := fun y =>
  if y = Str.ofString "state" then some (.ref st) else if y = Str.ofString "due" then dv else if y = Str.ofString "rest" then rv else if y = Str.ofString "k" then kv
  else if y = Str.ofString "text" then some tx else if y = Str.ofString "plain" then some (.bool p) else if y = Str.ofString "note" then some nt else m0 y
section
variable {L fa st lw : Nat} {cd : Value} {xs nl : List Nat} {tx tn : Tok} {p : Bool} {g : Heap} {QF : Flow → Shared → Prop} {m0 : Str → Option Value} {kv rv dv : Option Value} {news : List (Addr × Obj)}
theorem lwIter (W : Wd w mean mg mb g) (F : Fr g L s.heap (lpM (.str (ofL xs) tx) (.str (ofL nl) tn) p st kv rv dv m0)) (N : News g L s.heap news) (hx : (ofL xs).length ≤ 100)
    (ret : ∀ r h' tk t u v, IsRange h' r 0 (((ofL xs).length + 1 : Nat) : Int) 1 t u v → Fr g L h' (lpM (.str (ofL xs) tx) (.str (ofL nl) tn) p st kv rv dv m0) → News g L h' news → Q (.ref r) { s with heap := h', toks := tk }) :
    wpAny (md w) ((AR dp un fr gd).deeper (lwE L fa cd)) (eval lwItP.1 (lwE L fa cd)) Q E s := by
  have X := W.X
  have T := W.T
  w_on
  w_top on
  walk_at "my steps"
  all_goals (try dsimp only)
  all_goals exact ret _ _ _ _ _ _ (by rw [Int.natCast_add]; assumption) (by assumption) (by assumption)
end
end
theorem rstR20 {w : World} {A : Around} {s : Shared} {Q : Bool → Shared → Prop} {E : Value → Shared → Prop} (h : wpAny (md w) A (truthy (.bool true)) Q E s) : wpAny (md w) A (truthy (.bool true)) Q E s := by
  first | (walk1; fail) | exact h
-- R20
theorem fillR20 : Fill PySem.Challenge.rw_oc0205_01 kx := by
  k_fill
  exact True.intro
section
variable {w : World} {mean : ExcName → Option Value} {mg mb : Str → Option Value} {dp un : Nat} {fr : Option (List Env)} {gd : Option (List Code)} {s : Shared} {Q E : Value → Shared → Prop}
@[reducible] noncomputable def b0P : PSigma fun st : Stmt => (lwBodyP.1[0]?).getD (.Pass default) = st := by
  refine ⟨?b, ?h⟩
  case h => (conv => lhs; whnf)
@[reducible] noncomputable def b1P : PSigma fun st : Stmt => (lwBodyP.1[1]?).getD (.Pass default) = st := by
  refine ⟨?b, ?h⟩
  case h => (conv => lhs; whnf)
@[reducible] noncomputable def b2P : PSigma fun st : Stmt => (lwBodyP.1[2]?).getD (.Pass default) = st := by
  refine ⟨?b, ?h⟩
  case h => (conv => lhs; whnf)
@[reducible] noncomputable def b3P : PSigma fun st : Stmt => (lwBodyP.1[3]?).getD (.Pass default) = st := by
  refine ⟨?b, ?h⟩
  case h => (conv => lhs; whnf)
theorem lwBody_eq : lwBodyP.1 = [b0P.1] ++ ([b1P.1] ++ ([b2P.1] ++ [b3P.1])) := rfl
theorem lpM_d (tx nt v : Value) (p : Bool) (st : Addr) (kv rv dv : Option Value) (m0 : Str → Option Value) : (fun y => if y = Str.ofString "due" then some v else lpM tx nt p st kv rv dv m0 y) = lpM tx nt p st kv rv (some v) m0 := by
  funext y
  unfold lpM
  by_cases h : y = Str.ofString "due"
  · subst h
    rw [if_pos rfl, if_neg (by decide +kernel), if_pos rfl]
  · simp only [h, if_false]
theorem lpM_r (tx nt v : Value) (p : Bool) (st : Addr) (kv rv dv : Option Value) (m0 : Str → Option Value) : (fun y => if y = Str.ofString "rest" then some v else lpM tx nt p st kv rv dv m0 y) = lpM tx nt p st kv (some v) dv m0 := by
  funext y
  unfold lpM
  by_cases h : y = Str.ofString "rest"
  · subst h
    rw [if_pos rfl, if_neg (by decide +kernel), if_neg (by decide +kernel), if_pos rfl]
  · simp only [h, if_false]
theorem lpM_k (tx nt v : Value) (p : Bool) (st : Addr) (kv rv dv : Option Value) (m0 : Str → Option Value) : (fun y => if y = Str.ofString "k" then some v else lpM tx nt p st kv rv dv m0 y) = lpM tx nt p st (some v) rv dv m0 := by
  funext y
  unfold lpM
  by_cases h : y = Str.ofString "k"
  · subst h
    rw [if_pos rfl, if_neg (by decide +kernel), if_neg (by decide +kernel), if_neg (by decide +kernel), if_pos rfl]
  · simp only [h, if_false]
theorem lpM_s (tx nt : Value) (p : Bool) (st st' : Addr) (kv rv dv : Option Value) (m0 : Str → Option Value) : (fun y => if y = Str.ofString "state" then some (.ref st') else lpM tx nt p st kv rv dv m0 y) = lpM tx nt p st' kv rv dv m0 := by
  funext y
  unfold lpM
  by_cases h : y = Str.ofString "state"
  · rw [if_pos h, if_pos h]
  · simp only [h, if_false]
noncomputable def lnL (nl : List Nat) : List Nat := if tr nl nl.length = 0 then [35] else 35 :: 32 :: nl.take (tr nl nl.length)
theorem part_eq (ys : List Nat) : (Txt.partition (ofL ys) (Str.ofString "\n")).2.2 = ofL (dropLine ys) := by
  unfold Txt.partition
  rw [nlStr]
  rcases StrLaws.occ_head_from (ofL ys) (sg 10) 0 1 (Nat.le_refl _) with ⟨e, hn⟩ | ⟨i, r, e, hp, ha, hn⟩
  · rw [e, dropLine_none ys fun i q => hn i (Nat.zero_le _) ((at_nl ys i).mpr q)]
    rfl
  · rw [e, dropLine_at ys i ((at_nl ys i).mp ha) fun k hk q => hn k (Nat.zero_le _) hk ((at_nl ys k).mpr q)]
    show Builtin.Str.strSub _ _ _ = _
    have hi : i < ys.length := (List.getElem?_eq_some_iff.mp ((at_nl ys i).mp ha)).1
    rw [← ofL_cps (Builtin.Str.strSub _ _ _), StrLaws.strSub_toList, cps_ofL, sg_len, ofL_length]
    congr 1
    apply List.take_of_length_le
    rw [List.length_drop]; omega
theorem lnL_eq (nl : List Nat) : lnAt nl (tr nl nl.length) = ofL (lnL nl) := by
  unfold lnAt lnL
  by_cases h : tr nl nl.length = 0
  · rw [if_pos h, if_pos h]; decide +kernel
  · rw [if_neg h, if_neg h, show Str.ofString "# " = ofL [35, 32] from by decide +kernel, ofL_append]; rfl
theorem lnL_len (nl : List Nat) : (lnL nl).length ≤ nl.length + 2 := by
  unfold lnL
  split
  · simp
  · simp only [List.length_cons, List.length_take]; omega
theorem rest_eq (nl xs : List Nat) (k : Nat) (hk : k ≤ (ofL xs).length) : lnAt nl (tr nl nl.length) ++ Str.ofString "\n" ++ Txt.slice (ofL xs) (some (k : Int)) none = ofL (lnL nl ++ 10 :: xs.drop k) := by
  rw [lnL_eq, slice_from _ k hk, cps_ofL, show Str.ofString "\n" = ofL [10] from by decide +kernel, ofL_append, ofL_append]
  simp
local macro_rules | `(tactic| walk_at "call ref") => `(tactic| (
  (with_reducible show wpAny _ _ (call (Value.ref 755) _) _ _ _);
  (with_reducible rename Fr _ _ _ _ => kF); (with_reducible rename News _ _ _ _ => kN);
  refine' line_ct2 ?k1 ?k2 ?k3 ?_; (case k1 => exact Wd.keeps (by assumption) (Fr.keep kF)); (case k2 => (dsimp only; omega)); (case k3 => omega);
  intro t' h' tk' st'; replace kF := frStays kF st'; replace kN := newsStays kN st'; try dsimp only))
section
variable {L fa st lw : Nat} {cd : Value} {xs nl : List Nat} {tx tn tk0 : Tok} {p : Bool} {g : Heap} {QF : Flow → Shared → Prop} {m0 : Str → Option Value} {kv rv dv : Option Value} {news : List (Addr × Obj)} {k : Nat}
theorem b0T (W : Wd w mean mg mb g) (hroom : dp + 12 < recursionLimit) (F : Fr g L s.heap (lpM (.str (ofL xs) tx) (.str (ofL nl) tn) p st (some (.int (k : Int) tk0)) rv dv m0)) (N : News g L s.heap news) (hx : (ofL xs).length ≤ 100) (hk : k ≤ (ofL xs).length) (hn : nl.length ≤ 12)
    (ret : ∀ tr' h' tk, Fr g L h' (lpM (.str (ofL xs) tx) (.str (ofL nl) tn) p st (some (.int (k : Int) tk0)) (some (.str (ofL (lnL nl ++ 10 :: xs.drop k)) tr')) dv m0) → News g L h' news → QF .next { s with heap := h', toks := tk }) :
    wpAny (md w) ((AR dp un fr gd).deeper (lwE L fa cd)) (execs [b0P.1] (lwE L fa cd)) QF E s := by
  have X := W.X
  have T := W.T
  have hll : (lnAt nl (tr nl nl.length)).length ≤ 100 := by rw [lnL_eq, ofL_length]; have := lnL_len nl; omega
  w_on
  w_top on
  walk_at "my steps"
  all_goals (try dsimp only)
  rename Fr _ _ _ _ => kF
  rw [rest_eq nl xs k hk] at kF
  exact ret _ _ _ (frEq kF (lpM_r ..)) (by assumption)
/-- a list of texts, or None; the list in the base or on the ledger -/
inductive LsB (g : Heap) (news : List (Addr × Obj)) : Value → Option (List Str) → Prop
  | none : LsB g news .none none
  | some {ls : Nat} {vs : List Value} {xs : List Str} {c : Nat} : (g.get? ls = some (listObj vs c) ∨ (ls, listObj vs c) ∈ news) → SV vs xs → LsB g news (.ref ls) (some xs)
theorem LsB.mono {news news' : List (Addr × Obj)} {v : Value} {o : Option (List Str)} (x : LsB g news v o) (hs : ∀ p ∈ news, p ∈ news') : LsB g news' v o := by
  cases x with
  | none => exact .none
  | some h hv => exact .some (h.imp id (hs _)) hv
theorem LsB.at {news : List (Addr × Obj)} {v : Value} {o : Option (List Str)} {h : Heap} {m : Str → Option Value} (x : LsB g news v o) (F : Fr g L h m) (N : News g L h news) : LsV h v o := by
  cases x with
  | none => exact .none
  | some h hv => exact .some (h.elim (F.keep _ _) fun q => (N _ q).1) hv
theorem lsAdd {news : List (Addr × Obj)} {v : Value} {o : Option (List Str)} {h : Heap} {m : Str → Option Value} (F : Fr g L h m) (N : News g L h news) (x : LsV h v o) : ∃ ads, News g L h (ads ++ news) ∧ LsB g (ads ++ news) v o ∧ NoF ads := by
  cases x with
  | none => exact ⟨[], N, .none, fun p hp => nomatch hp⟩
  | @some ls vs xs c e hv =>
    cases q : g.get? ls with
    | some ob =>
      have := F.keep _ _ q
      rw [e] at this
      cases this
      exact ⟨[], N, .some (.inl q) hv, fun p hp => nomatch hp⟩
    | none =>
      refine ⟨[(ls, listObj vs c)], fun p hp => ?_, .some (.inr (.head _)) hv, fun p hp ws => ?_⟩
      · rcases List.mem_cons.mp hp with rfl | hp
        · refine ⟨e, fun z => ?_, q⟩
          obtain ⟨oL, a1, a2, hL, a3, _⟩ := F.ns
          have z : ls = L := z
          rw [← z, e] at hL
          cases hL
          cases a3
        · exact N p hp
      · rw [List.mem_singleton.mp hp]
        intro z; cases z
theorem subMid {α : Type} {a b l r : List α} : ∀ p ∈ l ++ r, p ∈ a ++ (l ++ (b ++ r)) := fun p hp => by
  rcases List.mem_append.mp hp with h | h
  · exact List.mem_append_right _ (List.mem_append_left _ h)
  · exact List.mem_append_right _ (List.mem_append_right _ (List.mem_append_right _ h))
theorem stNof {x : St} {tm : Tok} {wv : Value} {vs : List Value} {n : Nat} {news : List (Addr × Obj)} (m1 : (st, tupObj [.str x.mode tm, wv, .ref lw]) ∈ news) (hw : WV wv x.word) (m2 : (lw, listObj vs n) ∈ news) (hv : SV vs x.words) : StN news st lw x := ⟨tm, wv, vs, n, m1, hw, m2, hv⟩
theorem wdSt {h : Heap} {m : Str → Option Value} {x : St} {news news' : List (Addr × Obj)} (W : Wd w mean mg mb g) (F : Fr g L h m) (N : News g L h news') (S : StN news st lw x) (hs : ∀ p ∈ news, p ∈ news') : Wd w mean mg mb (hideAll h [st, lw]) := by
  obtain ⟨tm, wv, vs, n, m1, _, m2, _⟩ := S
  exact wd2 W F N (hs _ m1) (hs _ m2)
local macro_rules | `(tactic| walk_at "my sub") => `(tactic| first | exact fun _ hp => hp | exact fun _ hp => List.Mem.tail _ hp | exact fun _ hp => List.Mem.tail _ (List.Mem.tail _ hp) | exact fun _ hp => List.Mem.tail _ (List.Mem.tail _ (List.Mem.tail _ hp)) | exact subMid (a := [_]) (b := [_]))
local macro_rules | `(tactic| walk_at "call ref") => `(tactic| (
  (with_reducible show wpAny _ _ (call (Value.ref 783) _) _ _ _);
  (with_reducible rename Fr _ _ _ _ => kF); (with_reducible rename News _ _ _ _ => kN); (with_reducible rename StN _ _ _ _ => kS);
  refine' behind_ct ?k1 ?k2 ?k3 ?k4 ?_; (case k1 => exact Wd.keeps (by assumption) (Fr.keep kF)); (case k2 => (dsimp only; omega)); (case k3 => exact StN.at (StN.mono kS (by walk_at "my sub")) kN); (case k4 => omega);
  intro a' lw' h' tk' st' hs' ha' hl'; (obtain ⟨ads', kN', sb', nf'⟩ := stepB kF kN (by walk_at "my sub") kS st' hs' (.inr ha') hl'); replace kF := frStays kF st'; clear kN hs' ha' hl' st'; try dsimp only))
local macro_rules | `(tactic| walk_at "call ref") => `(tactic| (
  (with_reducible show wpAny _ _ (call (Value.ref 790) _) _ _ _);
  (with_reducible rename Fr _ _ _ _ => kF); (with_reducible rename News _ _ _ _ => kN); (with_reducible rename StN _ _ _ _ => kS);
  refine' told_ct ?k1 ?k2 ?k3 ?k4 ?k5 ?_; (case k3 => exact StN.at (StN.mono kS (by walk_at "my sub")) kN); (case k1 => exact wdSt (by assumption) kF kN kS (by walk_at "my sub")); (case k2 => (dsimp only; omega)); (case k4 => omega); (case k5 => omega);
  intro v' h' tk' lv' st'; replace kF := frStays kF st'; replace kN := newsStays kN st'; (obtain ⟨ads2', kN2', lb', nf2'⟩ := lsAdd kF kN lv'); clear kN lv'; try dsimp only))
local macro_rules | `(tactic| walk_at "call ref") => `(tactic| (
  (with_reducible show wpAny _ _ (call (Value.ref 790) [_, Value.str (Txt.partition (ofL _) _).snd.snd _, _]) _ _ _); rw [part_eq]))
theorem b1T {tr' : Tok} {x : St} {o : Obj} {it : Nat} {ys : List Nat} (W : Wd w mean mg mb g) (hroom : dp + 12 < recursionLimit) (F : Fr g L s.heap (lpM (.str (ofL xs) tx) (.str (ofL nl) tn) p st kv (some (.str (ofL ys) tr')) dv m0)) (hy : (ofL ys).length ≤ 200) (hyl : ys.length ≤ 200) (hdl : (dropLine ys).length ≤ 200) (hbs : (behind p x).words.length ≤ 301) (hbw : wl (behind p x) ≤ 300)
    {tm : Tok} {wv : Value} {vs : List Value} {n : Nat} (N : News g L s.heap [(st, tupObj [.str x.mode tm, wv, .ref lw]), (lw, listObj vs n), (it, o)]) (hw : WV wv x.word) (hv : SV vs x.words) (hsz : x.words.length < 300) (hsw : wl x ≤ 300)
    (ret : ∀ v news' h' tk, LsB g news' v (if okM x.mode then told p (behind p x) (dropLine ys) else told p x ys) → (∀ q ∈ [(st, tupObj [.str x.mode tm, wv, .ref lw]), (lw, listObj vs n), (it, o)], q ∈ news') → Fr g L h' (lpM (.str (ofL xs) tx) (.str (ofL nl) tn) p st kv (some (.str (ofL ys) tr')) (some v) m0) → News g L h' news' → QF .next { s with heap := h', toks := tk }) :
    wpAny (md w) ((AR dp un fr gd).deeper (lwE L fa cd)) (execs [b1P.1] (lwE L fa cd)) QF E s := by
  have X := W.X
  have T := W.T
  have IT : IsTup s.heap st #[.str x.mode tm, wv, .ref lw] := ⟨_, (N _ (.head _)).1, rfl, _, rfl⟩
  have SN : StN [(st, tupObj [.str x.mode tm, wv, .ref lw]), (lw, listObj vs n), (it, o)] st lw x := stNof (.head _) hw (.tail _ (.head _)) hv
  w_on
  w_top on
  walk_at "my steps"
  all_goals (try dsimp only)
  · rename LsB _ _ _ _ => kB
    refine ret _ _ _ _ ?_ ?_ (frEq (by assumption) (lpM_d ..)) (by assumption)
    · rw [okM_any, show (List.any _ _) = true from by assumption, if_pos rfl]
      exact kB
    · intro q hq
      exact List.mem_append_right _ (.tail _ (List.mem_append_right _ (.tail _ hq)))
  · rename LsB _ _ _ _ => kB
    refine ret _ _ _ _ ?_ ?_ (frEq (by assumption) (lpM_d ..)) (by assumption)
    · rw [okM_any, show (List.any _ _) = false from by assumption, if_neg Bool.false_ne_true]
      exact kB
    · intro q hq
      exact List.mem_append_right _ (.tail _ hq)
end
end
-- NeS
section
open PySem.SeqAt PyProof.V
theorem rdS {h : Heap} : ∀ {vs : List Value} {ws : List Str}, SV vs ws → ReadsAll h vs (ws.map PyData.str) []
  | _, _, .nil => .nil
  | _, _, .cons (x := x) (t := t) r => by
    have := ReadsAll.cons (Reads.str (h := h) x t) (rdS (h := h) r)
    simpa using this
noncomputable def OkW (ws : List Str) : Prop := ∀ x ∈ ws, PyData.strOk x = true
theorem layS : ∀ ws : List Str, OkW ws → PyData.canLayAll0 (ws.map PyData.str) = true
  | [], _ => by simp [PyData.canLayAll0]
  | n :: r, h => by simp [PyData.canLayAll0, PyData.canLay0, layS r (fun x hx => h x (.tail _ hx)), h n (.head _)]
theorem depS : ∀ ws : List Str, PyData.depthAll (ws.map PyData.str) ≤ 1
  | [] => by simp [PyData.depthAll]
  | n :: r => by
    have := depS r
    simp only [List.map_cons, PyData.depthAll, PyData.depth]
    omega
theorem shpS (ws : List Str) (hw : OkW ws) : shaped (.list (ws.map PyData.str)) = true := by
  have h1 := depS ws
  have h2 : PyData.depth (.list (ws.map PyData.str)) ≤ 64 := by simp only [PyData.depth]; omega
  show (PyData.canLay0 (.list (ws.map PyData.str)) && decide (PyData.depth (.list (ws.map PyData.str)) ≤ 64)) = true
  rw [Bool.and_eq_true]
  exact ⟨by simp only [PyData.canLay0]; exact layS ws hw, decide_eq_true h2⟩
theorem mixS : ∀ ws : List Str, noMixAll (ws.map PyData.str) (ws.map PyData.str) = true
  | [] => by simp [noMixAll]
  | _ :: r => by simp [noMixAll, noMix, mixS r]
theorem samS : ∀ ws : List Str, PySem.Spec.sameAll (ws.map PyData.str) (ws.map PyData.str) = true
  | [] => by simp [PySem.Spec.sameAll]
  | n :: r => by simp [PySem.Spec.sameAll, PySem.Spec.same, samS r]
theorem neS {w : World} {A : Around} {E : Value → Shared → Prop} {s : Shared} {a b : Addr} {vs us : List Value} {ws : List Str} {c d : Nat} {Q : Value → Shared → Prop} (hl : s.heap.get? a = some (listObj vs c)) (hi : SV vs ws) (hl' : s.heap.get? b = some (listObj us d)) (hi' : SV us ws) (hw : OkW ws) (hu : A.units + 64 < cLine)
    (h : Q (.bool false) s) : wpAny (md w) A (compareOp .NotEq (.ref a) (.ref b)) Q E s :=
  ne_dataH_same (Reads.list hl rfl rfl (by simpa using rdS hi)) (Reads.list hl' rfl rfl (by simpa using rdS hi')) (shpS ws hw) (shpS ws hw) hu (by simp only [noMix]; exact mixS ws) (by simp only [PySem.Spec.same]; rw [samS]; exact h)
end
theorem rstR21 {w : World} {A : Around} {s : Shared} {Q : Bool → Shared → Prop} {E : Value → Shared → Prop} (h : wpAny (md w) A (truthy (.bool true)) Q E s) : wpAny (md w) A (truthy (.bool true)) Q E s := by
  first | (walk1; fail) | exact h
-- R21
theorem fillR21 : Fill PySem.Challenge.rw_oc0205_01 kx := by
  k_fill
  exact True.intro
section
variable {w : World} {mean : ExcName → Option Value} {mg mb : Str → Option Value} {dp un : Nat} {fr : Option (List Env)} {gd : Option (List Code)} {s : Shared} {Q E : Value → Shared → Prop}
theorem sp_eq (nl xs : List Nat) (k : Nat) (hk : k ≤ (ofL xs).length) : Txt.slice (ofL xs) none (some (k : Int)) ++ cmt (ofL nl) ++ Str.ofString "\n" ++ Txt.slice (ofL xs) (some (k : Int)) none = ofL (xs.take k ++ (lnL nl ++ 10 :: xs.drop k)) := by
  rw [cmt_eq, lnL_eq, slice_from _ k hk, slice_to _ k hk, cps_ofL, show Str.ofString "\n" = ofL [10] from by decide +kernel, ofL_append, ofL_append, ofL_append]
  simp
theorem backSplit {g h h' : Heap} {L fa : Addr} {cd : Value} {m : Str → Option Value} {news : List (Addr × Obj)} (F : Fr g L h m) (N : News g L h news) (st : (hideAll h ([lwE L fa cd].filterMap (·.frame))).StaysIn h') (up : h.UpToSlots h') : Fr g L h' m ∧ News g L h' news := by
  have st' : ∀ b o, b ≠ L → h.get? b = some o → h'.get? b = some o := fun b o hb e => st _ _ (hideAll_get _ e fun hm => hb (List.mem_singleton.mp hm))
  refine ⟨F.of_stays (fun b o e => st' b o (fun q => ?_) (F.keep _ _ e)) up, fun p hp => ⟨st' _ _ (N p hp).2.1 (N p hp).1, (N p hp).2⟩⟩
  have := Heap.lt_size e
  rw [q] at this
  exact absurd (Nat.lt_of_lt_of_le this F.above) (Nat.lt_irrefl _)
local macro_rules | `(tactic| walk_at "call ref") => `(tactic| (
  (with_reducible show wpAny _ _ (call (Value.ref 46) _) _ _ _);
  (with_reducible rename Fr _ _ _ _ => kF); (with_reducible rename News _ _ _ _ => kN);
  refine' comment_ct ?k1 ?k2 ?k3 ?_; (case k1 => exact Wd.keeps (by assumption) (Fr.keep kF)); (case k2 => (dsimp only; omega)); (case k3 => assumption);
  intro t' h' tk' st'; replace kF := frStays kF st'; replace kN := newsStays kN st'; try dsimp only))
local macro_rules | `(tactic| walk_at "call ref") => `(tactic| (
  (with_reducible show wpAny _ _ (call (Value.ref 797) _) _ _ _);
  (with_reducible rename Fr _ _ _ _ => kF); (with_reducible rename News _ _ _ _ => kN); (with_reducible rename Below _ _ _ _ => kK);
  rw [sp_eq _ _ _ (by assumption)];
  refine' lsplit_ct ?k1 (Below.push kK kF rfl) ?k0 ?k2 ?k3 ?_; (case k1 => exact Wd.keeps (by assumption) (Fr.keep kF)); (case k0 => assumption); (case k2 => (dsimp only; omega)); (case k3 => assumption);
  intro v' h' tk' lv' st' up'; (obtain ⟨kF', kN'⟩ := backSplit kF kN st' up'); (rw [show told _ _ _ = _ from by assumption] at lv'); clear kF kN; cases lv'; try dsimp only))
theorem nlLen : (Str.ofString "\n").length ≤ 1 := by decide +kernel
theorem len100 {x : Str} (h : x.length ≤ 100) : x.length ≤ 100 := h
local macro_rules | `(tactic| walk_at "my len") => `(tactic| first | with_reducible exact nlLen | (refine len100 ?_; with_reducible assumption) | exact lenApp (by walk_at "my len") (by walk_at "my len"))
theorem neS2 {A : Around} {g : Heap} {L : Addr} {m : Str → Option Value} {news : List (Addr × Obj)} {a b : Addr} {vs us : List Value} {ws : List Str} {c d : Nat} (F : Fr g L s.heap m) (N : News g L s.heap news) (hl : s.heap.get? a = some (listObj vs c)) (hi : SV vs ws) (hl' : g.get? b = some (listObj us d) ∨ (b, listObj us d) ∈ news) (hi' : SV us ws) (hw : OkW ws) (hu : A.units + 64 < cLine)
    (h : Q (.bool false) s) : wpAny (md w) A (compareOp .NotEq (.ref a) (.ref b)) Q E s := neS hl hi (hl'.elim (F.keep _ _) fun q => (N _ q).1) hi' hw hu h
local macro_rules | `(tactic| walk_at "compareOp NotEq ref ref") => `(tactic| (
  (with_reducible rename Fr _ _ _ _ => kF); (with_reducible rename News _ _ _ _ => kN);
  k_dflt (refine' neS2 kF kN ?k1 ?k2 ?k3 ?k4 ?k5 ?k6 ?_; (case k1 => assumption); (case k3 => assumption); (case k2 => assumption); (case k4 => assumption); (case k5 => assumption); (case k6 => (simp only [units_deeper]; omega)))))
section
variable {L fa st lw : Nat} {cd : Value} {xs nl : List Nat} {tx tn tk0 : Tok} {p : Bool} {g : Heap} {QF : Flow → Shared → Prop} {m0 : Str → Option Value} {rv : Option Value} {news : List (Addr × Obj)} {k : Nat}
theorem b2N (W : Wd w mean mg mb g) (K : Below (AR dp un fr gd) g [] g) (hroom : dp + 12 < recursionLimit) (F : Fr g L s.heap (lpM (.str (ofL xs) tx) (.str (ofL nl) tn) p st (some (.int (k : Int) tk0)) rv (some .none) m0)) (N : News g L s.heap news) (hx : (ofL xs).length ≤ 100) (hk : k ≤ (ofL xs).length) (hn : (ofL nl).length ≤ 200) (hcm : (cmt (ofL nl)).length ≤ 100) (hcs : (xs.take k ++ (lnL nl ++ 10 :: xs.drop k)).length ≤ 100000)
    (hT : told p ⟨mG, none, []⟩ (xs.take k ++ (lnL nl ++ 10 :: xs.drop k)) = none)
    (ret : ∀ h' tk, Fr g L h' (lpM (.str (ofL xs) tx) (.str (ofL nl) tn) p st (some (.int (k : Int) tk0)) rv (some .none) m0) → News g L h' news → QF .next { s with heap := h', toks := tk }) :
    wpAny (md w) ((AR dp un fr gd).deeper (lwE L fa cd)) (execs [b2P.1] (lwE L fa cd)) QF E s := by
  have X := W.X
  have T := W.T
  have hs1 : (Txt.slice (ofL xs) none (some (k : Int))).length ≤ 100 := by rw [slice_to _ k hk, cps_ofL, ofL_length, List.length_take]; rw [ofL_length] at hx; omega
  have hs2 : (Txt.slice (ofL xs) (some (k : Int)) none).length ≤ 100 := by rw [slice_from _ k hk, cps_ofL, ofL_length, List.length_drop]; rw [ofL_length] at hx; omega
  w_on
  w_top on
  walk_at "my steps"
  all_goals (try dsimp only)
  all_goals exact ret _ _ (by assumption) (by assumption)
theorem b2S {ls : Nat} {vs : List Value} {ws : List Str} {c : Nat} (W : Wd w mean mg mb g) (K : Below (AR dp un fr gd) g [] g) (hroom : dp + 12 < recursionLimit) (F : Fr g L s.heap (lpM (.str (ofL xs) tx) (.str (ofL nl) tn) p st (some (.int (k : Int) tk0)) rv (some (.ref ls)) m0)) (N : News g L s.heap news) (hx : (ofL xs).length ≤ 100) (hk : k ≤ (ofL xs).length) (hn : (ofL nl).length ≤ 200) (hcm : (cmt (ofL nl)).length ≤ 100) (hcs : (xs.take k ++ (lnL nl ++ 10 :: xs.drop k)).length ≤ 100000)
    (hT : told p ⟨mG, none, []⟩ (xs.take k ++ (lnL nl ++ 10 :: xs.drop k)) = some ws) (hls : g.get? ls = some (listObj vs c) ∨ (ls, listObj vs c) ∈ news) (hv : SV vs ws) (hok : OkW ws) (hun : un + 200 < cLine)
    (ret : ∀ h' tk, Fr g L h' (lpM (.str (ofL xs) tx) (.str (ofL nl) tn) p st (some (.int (k : Int) tk0)) rv (some (.ref ls)) m0) → News g L h' news → QF .next { s with heap := h', toks := tk }) :
    wpAny (md w) ((AR dp un fr gd).deeper (lwE L fa cd)) (execs [b2P.1] (lwE L fa cd)) QF E s := by
  have X := W.X
  have T := W.T
  have hs1 : (Txt.slice (ofL xs) none (some (k : Int))).length ≤ 100 := by rw [slice_to _ k hk, cps_ofL, ofL_length, List.length_take]; rw [ofL_length] at hx; omega
  have hs2 : (Txt.slice (ofL xs) (some (k : Int)) none).length ≤ 100 := by rw [slice_from _ k hk, cps_ofL, ofL_length, List.length_drop]; rw [ofL_length] at hx; omega
  w_on
  w_top on
  walk_at "my steps"
  all_goals (try dsimp only)
  all_goals exact ret _ _ (by assumption) (by assumption)
end
end
theorem rstR22 {w : World} {A : Around} {s : Shared} {Q : Bool → Shared → Prop} {E : Value → Shared → Prop} (h : wpAny (md w) A (truthy (.bool true)) Q E s) : wpAny (md w) A (truthy (.bool true)) Q E s := by
  first | (walk1; fail) | exact h
-- R22
theorem fillR22 : Fill PySem.Challenge.rw_oc0205_01 kx := by
  k_fill
  exact True.intro
section
variable {w : World} {mean : ExcName → Option Value} {mg mb : Str → Option Value} {dp un : Nat} {fr : Option (List Env)} {gd : Option (List Code)} {s : Shared} {Q E : Value → Shared → Prop}
theorem item_k (xs : List Nat) (k c : Nat) (h : xs[k]? = some c) : (Txt.charAt (ofL xs) (k : Int)).getD 0 = c := by
  have hk : k < xs.length := (List.getElem?_eq_some_iff.mp h).1
  have e1 : seqIndex? (k : Int) (ofL xs).length = some k := by
    unfold seqIndex?
    rw [ofL_length]
    dsimp only
    rw [show (if (k : Int) < 0 then (k : Int) + (xs.length : Int) else (k : Int)) = (k : Int) from if_neg (by omega), if_pos (by simp only [Bool.and_eq_true, decide_eq_true_eq]; omega)]
    congr 1
  have e2 : (ofL xs).cps[k]? = xs[k]? := by rw [← Array.getElem?_toList, cps_ofL]
  unfold Txt.charAt
  rw [e1, Option.bind_some, e2, h]; rfl
section
variable {L fa st lw : Nat} {cd : Value} {xs nl : List Nat} {tx tn tk0 : Tok} {p : Bool} {g : Heap} {QF : Flow → Shared → Prop} {m0 : Str → Option Value} {rv dv : Option Value} {news : List (Addr × Obj)} {k : Nat} {x : St} {it : Nat} {o : Obj}
theorem b3T (W : Wd w mean mg mb g) (hroom : dp + 12 < recursionLimit) (F : Fr g L s.heap (lpM (.str (ofL xs) tx) (.str (ofL nl) tn) p st (some (.int (k : Int) tk0)) rv dv m0)) (N : News g L s.heap ((it, o) :: news)) (sb : StN news st lw x) (h1 : x.words.length < 1000) (h2 : ∀ y, x.word = some y → y.length ≤ 1000) (hx : (ofL xs).length ≤ 100) (hk : k ≤ (ofL xs).length)
    (ret1 : ∀ st' lw' ads h' tk c, xs[k]? = some c → StN (ads ++ news) st' lw' (turn p x c) → NoF ads → Fr g L h' (lpM (.str (ofL xs) tx) (.str (ofL nl) tn) p st' (some (.int (k : Int) tk0)) rv dv m0) → News g L h' ((it, o) :: (ads ++ news)) → QF .next { s with heap := h', toks := tk })
    (ret2 : k = xs.length → ∀ h' tk, Fr g L h' (lpM (.str (ofL xs) tx) (.str (ofL nl) tn) p st (some (.int (k : Int) tk0)) rv dv m0) → News g L h' ((it, o) :: news) → QF .next { s with heap := h', toks := tk }) :
    wpAny (md w) ((AR dp un fr gd).deeper (lwE L fa cd)) (execs [b3P.1] (lwE L fa cd)) QF E s := by
  have X := W.X
  have T := W.T
  have hlen : (ofL xs).length = xs.length := ofL_length xs
  w_on
  w_top on
  walk_at "my steps"
  all_goals (try dsimp only)
  · have hk' : k < xs.length := by omega
    have hc : xs[k]? = some xs[k] := by simp [hk']
    exact ret1 _ _ _ _ _ _ hc (by rw [← item_k xs k _ hc]; assumption) (by assumption) (frEq (by assumption) (lpM_s ..)) (newsPerm (by assumption))
  · exact ret2 (by omega) _ _ (by assumption) (by assumption)
end
end
-- Pe
/-! the law's identity, plain -/
noncomputable abbrev st0 : St := ⟨mG, none, []⟩
theorem told_app (p : Bool) : ∀ (a b : List Nat) (x : St), told p x (a ++ b) = told p (foldT p x a) b
  | [], _, _ => rfl
  | c :: r, b, x => told_app p r b (turn p x c)
/-- without posix's other: in a remark of posix there is no word in hand; in a gap never -/
noncomputable def RmOk (p : Bool) (x : St) : Prop := (p = false → x.mode = mR → x.word = none) ∧ (x.mode = mG → x.word = none) ∧ (x.mode = mW → x.word ≠ none)
theorem lnL_cons (nl : List Nat) : ∃ r, lnL nl = 35 :: r := by
  unfold lnL
  by_cases h : tr nl nl.length = 0
  · rw [if_pos h]; exact ⟨_, rfl⟩
  · rw [if_neg h]; exact ⟨_, rfl⟩
theorem modes {x : St} (h : okM x.mode = true) : x.mode = mG ∨ x.mode = mW ∨ x.mode = mR := by
  unfold okM at h
  simp only [Bool.or_eq_true, beq_iff_eq] at h
  exact h
theorem due_eq (p : Bool) (x : St) (r : List Nat) (hx : RmOk p x) (h : okM x.mode = true) : told p x (35 :: r) = told p (behind p x) (dropLine (35 :: r)) := by
  obtain ⟨mode, wd, ws⟩ := x
  obtain ⟨r1, r2, r3⟩ := hx
  dsimp only at r1 r2 r3
  have hd : dropLine (35 :: r) = dropLine r := by rw [dropLine, if_neg (by decide)]
  rw [hd, told]
  rcases modes h with e | e | e <;> dsimp only at e <;> subst e
  · obtain rfl := r2 rfl
    rw [turn_gap, if_pos (by decide), told_rem]
    cases p <;> rfl
  · obtain ⟨y, rfl⟩ : ∃ y, wd = some y := by
      cases wd with
      | none => exact absurd rfl (r3 rfl)
      | some y => exact ⟨y, rfl⟩
    rw [turn_word, if_pos (by decide)]
    cases p
    · rw [if_neg Bool.false_ne_true, told_rem]; rfl
    · rw [if_pos rfl, told_rem]; rfl
  · rw [turn_rem, if_neg (by decide), told_rem]
    cases p
    · obtain rfl := r1 rfl rfl
      rfl
    · rfl
theorem due_all (p : Bool) (xs nl : List Nat) (k : Nat) (hx : RmOk p (foldT p st0 (xs.take k))) :
    told p st0 (xs.take k ++ (lnL nl ++ 10 :: xs.drop k)) = if okM (foldT p st0 (xs.take k)).mode then told p (behind p (foldT p st0 (xs.take k))) (dropLine (lnL nl ++ 10 :: xs.drop k)) else told p (foldT p st0 (xs.take k)) (lnL nl ++ 10 :: xs.drop k) := by
  rw [told_app]
  cases h : okM (foldT p st0 (xs.take k)).mode with
  | false => rfl
  | true =>
    rw [if_pos rfl]
    obtain ⟨r, e⟩ := lnL_cons nl
    rw [e, List.cons_append]
    exact due_eq p _ _ hx h
theorem okApp {x y : Str} (hx : PyData.strOk x = true) (hy : PyData.strOk y = true) : PyData.strOk (x ++ y) = true := by
  unfold PyData.strOk at *
  show Array.all (x.cps ++ y.cps) _ = true
  rw [Array.all_append, hx, hy]; rfl
theorem okSg {c : Nat} (h : c < 1114112) : PyData.strOk (sg c) = true := by
  unfold PyData.strOk
  simpa using h
theorem okE : PyData.strOk eS = true := by decide +kernel
theorem OkW.snoc {ws : List Str} {y : Str} (h : OkW ws) (hy : PyData.strOk y = true) : OkW (ws ++ [y]) := fun x hx => by
  rcases List.mem_append.mp hx with hx | hx
  · exact h x hx
  · rw [List.mem_singleton.mp hx]; exact hy
/-- the states that are reached -/
inductive Rch (p : Bool) : St → Prop
  | gap {ws : List Str} : OkW ws → Rch p ⟨mG, none, ws⟩
  | word {y : Str} {ws : List Str} : OkW ws → PyData.strOk y = true → Rch p ⟨mW, some y, ws⟩
  | rem0 {ws : List Str} : OkW ws → Rch p ⟨mR, none, ws⟩
  | rem1 {y : Str} {ws : List Str} : p = true → OkW ws → PyData.strOk y = true → Rch p ⟨mR, some y, ws⟩
  | q39 {y : Str} {ws : List Str} : OkW ws → PyData.strOk y = true → Rch p ⟨sg 39, some y, ws⟩
  | q34 {y : Str} {ws : List Str} : OkW ws → PyData.strOk y = true → Rch p ⟨sg 34, some y, ws⟩
  | bs {y : Str} {ws : List Str} : OkW ws → PyData.strOk y = true → Rch p ⟨mB, some y, ws⟩
  | bm {y : Str} {ws : List Str} : OkW ws → PyData.strOk y = true → Rch p ⟨mBM, some y, ws⟩
theorem rchIte {p : Bool} {b : Bool} {x y : St} (hx : b = true → Rch p x) (hy : b = false → Rch p y) : Rch p (if b = true then x else y) := by
  cases b with
  | true => exact hx rfl
  | false => exact hy rfl
theorem okIte {b : Bool} {x y : Str} (hx : PyData.strOk x = true) (hy : PyData.strOk y = true) : PyData.strOk (if b = true then x else y) = true := by cases b <;> assumption
theorem rch_mark {p : Bool} {c : Nat} {y : Str} {ws : List Str} (h : (c == 39 || c == 34) = true) (hw : OkW ws) (hy : PyData.strOk y = true) : Rch p ⟨sg c, some y, ws⟩ := by
  simp only [Bool.or_eq_true, beq_iff_eq] at h
  rcases h with rfl | rfl
  · exact .q39 hw hy
  · exact .q34 hw hy
theorem rch_turn {p : Bool} {x : St} {c : Nat} (hc : c < 1114112) (h : Rch p x) : Rch p (turn p x c) := by
  have hs := okSg hc
  cases h with
  | gap hw =>
    rw [turn_gap]
    exact rchIte (fun _ => .rem0 hw) fun _ => rchIte (fun _ => .gap hw) fun _ => rchIte (fun e => rch_mark e hw (okIte hs okE)) fun _ => rchIte (fun _ => .bs hw okE) fun _ => .word hw hs
  | word hw hy =>
    rw [turn_word]
    refine rchIte (fun _ => rchIte (fun e => .rem1 e hw hy) fun _ => .rem0 (hw.snoc hy)) fun _ => rchIte (fun _ => .gap (hw.snoc hy)) fun _ => rchIte (fun e => rch_mark (by simp only [Bool.and_eq_true] at e; exact e.2) hw hy) fun _ => rchIte (fun _ => .bs hw hy) fun _ => .word hw (okApp hy hs)
  | rem0 hw =>
    rw [turn_rem]
    split
    · exact .gap hw
    · exact .rem0 hw
  | rem1 hp hw hy =>
    rw [turn_rem]
    split
    · exact .word hw hy
    · exact .rem1 hp hw hy
  | q39 hw hy =>
    rw [turn_q39]
    exact rchIte (fun _ => rchIte (fun _ => .gap (hw.snoc (okApp hy hs))) fun _ => .word hw hy) fun _ => .q39 hw (okApp hy hs)
  | q34 hw hy =>
    rw [turn_q34]
    exact rchIte (fun _ => rchIte (fun _ => .gap (hw.snoc (okApp hy hs))) fun _ => .word hw hy) fun _ => rchIte (fun _ => .bm hw hy) fun _ => .q34 hw (okApp hy hs)
  | bs hw hy =>
    rw [turn_bs]
    exact .word hw (okApp hy hs)
  | bm hw hy =>
    rw [turn_bm]
    exact .q34 hw (okApp (okIte hy (okApp hy (okSg (by decide)))) hs)
theorem rch_fold {p : Bool} : ∀ (l : List Nat) (x : St), (∀ c ∈ l, c < 1114112) → Rch p x → Rch p (foldT p x l)
  | [], _, _, h => h
  | c :: r, x, hl, h => rch_fold r _ (fun d hd => hl d (.tail _ hd)) (rch_turn (hl c (.head _)) h)
theorem Rch.rm {p : Bool} {x : St} (h : Rch p x) : RmOk p x := by
  have a1 : mR ≠ mG := by decide +kernel
  have a2 : mR ≠ mW := by decide +kernel
  have a3 : mG ≠ mW := by decide +kernel
  have a4 : mW ≠ mR := by decide +kernel
  have b1 : sg 39 ≠ mG := by decide +kernel
  have b2 : sg 39 ≠ mR := by decide +kernel
  have b3 : sg 34 ≠ mG := by decide +kernel
  have b4 : sg 34 ≠ mR := by decide +kernel
  have b5 : mB ≠ mG := by decide +kernel
  have b6 : mB ≠ mR := by decide +kernel
  have b7 : mBM ≠ mG := by decide +kernel
  have b8 : mBM ≠ mR := by decide +kernel
  have n : ∀ y : Str, some y ≠ (none : Option Str) := fun _ => by simp
  cases h with
  | gap _ => exact ⟨fun _ _ => rfl, fun _ => rfl, fun e => absurd e a3⟩
  | word _ _ => exact ⟨fun _ e => absurd e a4, fun e => absurd e.symm a3, fun _ => n _⟩
  | rem0 _ => exact ⟨fun _ _ => rfl, fun e => absurd e a1, fun e => absurd e a2⟩
  | rem1 hp _ _ => exact ⟨fun e => absurd (hp.symm.trans e) (by decide), fun e => absurd e a1, fun _ => n _⟩
  | q39 _ _ => exact ⟨fun _ e => absurd e b2, fun e => absurd e b1, fun _ => n _⟩
  | q34 _ _ => exact ⟨fun _ e => absurd e b4, fun e => absurd e b3, fun _ => n _⟩
  | bs _ _ => exact ⟨fun _ e => absurd e b6, fun e => absurd e b5, fun _ => n _⟩
  | bm _ _ => exact ⟨fun _ e => absurd e b8, fun e => absurd e b7, fun _ => n _⟩
theorem Rch.ended {p : Bool} {x : St} (h : Rch p x) : OkW (ended x.word x.words) := by
  cases h with
  | gap hw => exact hw
  | rem0 hw => exact hw
  | word hw hy => exact hw.snoc hy
  | rem1 _ hw hy => exact hw.snoc hy
  | q39 hw hy => exact hw.snoc hy
  | q34 hw hy => exact hw.snoc hy
  | bs hw hy => exact hw.snoc hy
  | bm hw hy => exact hw.snoc hy
theorem rch0 {p : Bool} : Rch p st0 := .gap fun _ h => nomatch h
theorem told_ok {p : Bool} {l : List Nat} {x : St} {ws : List Str} (hl : ∀ c ∈ l, c < 1114112) (h : Rch p x) (e : told p x l = some ws) : OkW ws := by
  rw [told_fold] at e
  cases hm : okM (foldT p x l).mode with
  | false => rw [hm] at e; cases e
  | true =>
    rw [hm, if_pos rfl] at e
    cases e
    exact (rch_fold l x hl h).ended
theorem lnL_ok {nl : List Nat} (h : ∀ c ∈ nl, c < 1114112) : ∀ c ∈ lnL nl, c < 1114112 := by
  intro c hc
  unfold lnL at hc
  split at hc
  · rw [List.mem_singleton.mp hc]; decide
  · rcases List.mem_cons.mp hc with rfl | hc
    · decide
    · rcases List.mem_cons.mp hc with rfl | hc
      · decide
      · exact h c (List.mem_of_mem_take hc)
theorem behind_sz (p : Bool) (x : St) : (behind p x).words.length ≤ x.words.length + 1 ∧ wl (behind p x) ≤ wl x := by
  obtain ⟨mode, wd, ws⟩ := x
  cases p
  · exact ⟨ended_len wd ws, by show (soFar none).length ≤ _; rw [soFar_none, eS_len]; exact Nat.zero_le _⟩
  · exact ⟨Nat.le_succ _, Nat.le_refl _⟩
theorem rstR23 {w : World} {A : Around} {s : Shared} {Q : Bool → Shared → Prop} {E : Value → Shared → Prop} (h : wpAny (md w) A (truthy (.bool true)) Q E s) : wpAny (md w) A (truthy (.bool true)) Q E s := by
  first | (walk1; fail) | exact h
-- R23
theorem fillR23 : Fill PySem.Challenge.rw_oc0205_01 kx := by
  k_fill
  exact True.intro
section
variable {w : World} {mean : ExcName → Option Value} {mg mb : Str → Option Value} {dp un : Nat} {fr : Option (List Env)} {gd : Option (List Code)} {s : Shared} {Q E : Value → Shared → Prop}
theorem lpM_i (tx nt : Value) (p : Bool) (st : Addr) (m0 : Str → Option Value) : (fun y => if y = Str.ofString "state" then some (Value.ref st) else if y = Str.ofString "text" then some tx else if y = Str.ofString "plain" then some (Value.bool p) else if y = Str.ofString "note" then some nt else m0 y) = lpM tx nt p st (m0 (Str.ofString "k")) (m0 (Str.ofString "rest")) (m0 (Str.ofString "due")) m0 := by
  funext y
  unfold lpM
  by_cases h1 : y = Str.ofString "due"
  · subst h1
    rw [if_neg (by decide +kernel), if_neg (by decide +kernel), if_neg (by decide +kernel), if_neg (by decide +kernel), if_neg (by decide +kernel), if_pos rfl]
  · by_cases h2 : y = Str.ofString "rest"
    · subst h2
      rw [if_neg (by decide +kernel), if_neg (by decide +kernel), if_neg (by decide +kernel), if_neg (by decide +kernel), if_neg (by decide +kernel), if_neg (by decide +kernel), if_pos rfl]
    · by_cases h3 : y = Str.ofString "k"
      · subst h3
        rw [if_neg (by decide +kernel), if_neg (by decide +kernel), if_neg (by decide +kernel), if_neg (by decide +kernel), if_neg (by decide +kernel), if_neg (by decide +kernel), if_neg (by decide +kernel), if_pos rfl]
      · simp only [h1, h2, h3, if_false]
section
variable {L fa : Nat} {cd : Value} {xs nl : List Nat} {tx tn : Tok} {p : Bool} {g : Heap} {QF : Flow → Shared → Prop} {m0 : Str → Option Value}
theorem kStore {st k : Nat} {tc : Tok} {kv rv dv : Option Value} {news : List (Addr × Obj)} {QU : Unit → Shared → Prop} (W : Wd w mean mg mb g) (F : Fr g L s.heap (lpM (.str (ofL xs) tx) (.str (ofL nl) tn) p st kv rv dv m0)) (N : News g L s.heap news)
    (ret : ∀ h' tk, Fr g L h' (lpM (.str (ofL xs) tx) (.str (ofL nl) tn) p st (some (.int (k : Int) tc)) rv dv m0) → News g L h' news → QU () { s with heap := h', toks := tk }) :
    wpAny (md w) ((AR dp un fr gd).deeper (lwE L fa cd)) (storeName (lwE L fa cd) (Str.ofString "k") (.int (k : Int) tc)) QU E s := by
  have X := W.X
  have T := W.T
  w_on
  w_top on
  walk_at "my steps"
  all_goals (try dsimp only)
  all_goals exact ret _ _ (frEq (by assumption) (lpM_k ..)) (by assumption)
theorem bodyT {k st lw it : Nat} {o : Obj} {tk0 : Tok} {rv dv : Option Value} {news : List (Addr × Obj)} (W : Wd w mean mg mb g) (K : Below (AR dp un fr gd) g [] g) (hroom : dp + 12 < recursionLimit) (hun : un + 200 < cLine)
    (F : Fr g L s.heap (lpM (.str (ofL xs) tx) (.str (ofL nl) tn) p st (some (.int (k : Int) tk0)) rv dv m0)) (N : News g L s.heap ((it, o) :: news)) (sb : StN news st lw (foldT p st0 (xs.take k)))
    (hx : xs.length ≤ 30) (hnl : nl.length ≤ 12) (hk : k ≤ xs.length) (hxo : ∀ c ∈ xs, c < 1114112) (hno : ∀ c ∈ nl, c < 1114112)
    (ret : ∀ st' lw' kv' rv' dv' news' h' tk, StN news' st' lw' (foldT p st0 (xs.take (k + 1))) → NoF news' → Fr g L h' (lpM (.str (ofL xs) tx) (.str (ofL nl) tn) p st' kv' rv' dv' m0) → News g L h' ((it, o) :: news') → QF .next { s with heap := h', toks := tk }) :
    wpAny (md w) ((AR dp un fr gd).deeper (lwE L fa cd)) (execs lwBodyP.1 (lwE L fa cd)) QF E s := by
  obtain ⟨tm, wv, vs, n, m1, hw, m2, hv⟩ := sb
  have hlen := ofL_length xs
  have hlen2 := ofL_length nl
  have sz := foldT_sz p (xs.take k) st0
  have hl : (xs.take k).length ≤ xs.length := by rw [List.length_take]; omega
  have hl2 : (xs.drop k).length ≤ xs.length := by rw [List.length_drop]; omega
  have hw0 : wl st0 = 0 := eS_len
  have hz0 : st0.words.length = 0 := rfl
  have hlc := lnL_len nl
  have rc := rch_fold (p := p) (xs.take k) st0 (fun c hc => hxo c (List.mem_of_mem_take hc)) rch0
  have bz := behind_sz p (foldT p st0 (xs.take k))
  have hys : (lnL nl ++ 10 :: xs.drop k).length ≤ 45 := by rw [List.length_append, List.length_cons]; omega
  have hdl := dropLine_len (lnL nl ++ 10 :: xs.drop k)
  have hcm : (cmt (ofL nl)).length ≤ 100 := by rw [cmt_eq, lnL_eq, ofL_length]; omega
  have N3 : News g L s.heap [(st, tupObj [.str (foldT p st0 (xs.take k)).mode tm, wv, .ref lw]), (lw, listObj vs n), (it, o)] := by
    intro q hq
    simp only [List.mem_cons, List.not_mem_nil, or_false] at hq
    rcases hq with rfl | rfl | rfl
    · exact N _ (.tail _ m1)
    · exact N _ (.tail _ m2)
    · exact N _ (.head _)
  rw [lwBody_eq]
  refine execsApp (b0T W hroom F N3 (by omega) (by omega) hnl ?_)
  intro tr' h1 tk1 F1 N1
  dsimp only
  refine execsApp (b1T (s := { s with heap := h1, toks := tk1 }) W hroom F1 (by rw [ofL_length]; omega) (by omega) (by omega) (by omega) (by omega) N1 hw hv (by omega) (by omega) ?_)
  intro v news2 h2 tk2 lb sub F2 N2
  dsimp only
  refine execsApp ?_
  rw [← due_all p xs nl k rc.rm] at lb
  have tail : ∀ h' tk, Fr g L h' (lpM (.str (ofL xs) tx) (.str (ofL nl) tn) p st (some (.int (k : Int) tk0)) (some (.str (ofL (lnL nl ++ 10 :: xs.drop k)) tr')) (some v) m0) → News g L h' news2 → wpAny (md w) ((AR dp un fr gd).deeper (lwE L fa cd)) (execs [b3P.1] (lwE L fa cd)) QF E { s with heap := h', toks := tk } := by
    intro h3 tk3 F3 N3'
    have nf : NoF [(st, tupObj [.str (foldT p st0 (xs.take k)).mode tm, wv, .ref lw]), (lw, listObj vs n)] := by
      intro q hq vs' e
      simp only [List.mem_cons, List.not_mem_nil, or_false] at hq
      rcases hq with rfl | rfl <;> cases e
    refine b3T (s := { s with heap := h3, toks := tk3 }) (x := foldT p st0 (xs.take k)) (news := [(st, tupObj [.str (foldT p st0 (xs.take k)).mode tm, wv, .ref lw]), (lw, listObj vs n)]) (it := it) (o := o) W hroom F3 ?_ ⟨tm, wv, vs, n, .head _, hw, .tail _ (.head _), hv⟩ (by omega) (fun y hy => by rw [wl_some hy]; omega) (by omega) (by omega) ?_ ?_
    · intro q hq
      simp only [List.mem_cons, List.not_mem_nil, or_false] at hq
      rcases hq with rfl | rfl | rfl
      · exact N3' _ (sub _ (.tail _ (.tail _ (.head _))))
      · exact N3' _ (sub _ (.head _))
      · exact N3' _ (sub _ (.tail _ (.head _)))
    · intro st' lw' ads h' tk c hc sb' nf' F' N'
      refine ret st' lw' _ _ _ _ h' tk ?_ (nf'.app nf) F' N'
      rw [List.take_add_one, hc]
      show StN _ _ _ (foldT p st0 (xs.take k ++ [c]))
      rw [foldT_snoc]
      exact sb'
    · intro hk' h' tk F' N'
      refine ret st lw _ _ _ _ h' tk ?_ nf F' N'
      have e : xs.take (k + 1) = xs.take k := by rw [List.take_of_length_le (by omega), List.take_of_length_le (by omega)]
      rw [e]
      exact ⟨tm, wv, vs, n, .head _, hw, .tail _ (.head _), hv⟩
  have hcs : (xs.take k ++ (lnL nl ++ 10 :: xs.drop k)).length ≤ 100000 := by rw [List.length_append]; omega
  generalize hT : told p st0 (xs.take k ++ (lnL nl ++ 10 :: xs.drop k)) = tw at lb
  cases lb with
  | none => exact b2N (s := { s with heap := h2, toks := tk2 }) W K hroom F2 N2 (by omega) (by omega) (by omega) hcm hcs hT (fun h' tk F' N' => tail h' tk F' N')
  | some e hv2 =>
    refine b2S (s := { s with heap := h2, toks := tk2 }) W K hroom F2 N2 (by omega) (by omega) (by omega) hcm hcs hT e hv2 (told_ok ?_ rch0 hT) hun (fun h' tk F' N' => tail h' tk F' N')
    intro c hc
    rcases List.mem_append.mp hc with h | h
    · exact hxo c (List.mem_of_mem_take h)
    · rcases List.mem_append.mp h with h | h
      · exact lnL_ok hno c h
      · rcases List.mem_cons.mp h with rfl | h
        · decide
        · exact hxo c (List.mem_of_mem_drop h)
end
end
theorem rstR24 {w : World} {A : Around} {s : Shared} {Q : Bool → Shared → Prop} {E : Value → Shared → Prop} (h : wpAny (md w) A (truthy (.bool true)) Q E s) : wpAny (md w) A (truthy (.bool true)) Q E s := by
  first | (walk1; fail) | exact h
-- R24
theorem fillR24 : Fill PySem.Challenge.rw_oc0205_01 kx := by
  k_fill
  exact True.intro
section
variable {w : World} {mean : ExcName → Option Value} {mg mb : Str → Option Value} {dp un : Nat} {fr : Option (List Env)} {gd : Option (List Code)} {s : Shared} {Q E : Value → Shared → Prop}
theorem tailL : Str.ofString "\n'b c'\\d" = ofL [10, 39, 98, 32, 99, 39, 92, 100] := by decide +kernel
theorem intsLen : ∀ {vs : List Value} {ns : List Int}, IntsAre vs ns → vs.length = ns.length := by
  intro vs ns h
  induction h with
  | nil => rfl
  | cons n t _ ih => simp only [List.length_cons, ih]
section
variable {L fa sc : Nat} {cd : Value} {vs : List Value} {ns : List Int} {g : Heap} {QF : Flow → Shared → Prop}
theorem loopT {xs nl : List Nat} {tx tn : Tok} {p : Bool} {m0 : Str → Option Value} {st lw : Nat} {kv rv dv : Option Value} {news : List (Addr × Obj)} (W : Wd w mean mg mb g) (K : Below (AR dp un fr gd) g [] g) (hroom : dp + 12 < recursionLimit) (hun : un + 200 < cLine) (hE : PassesOwn (md w) ((AR dp un fr gd).deeper (lwE L fa cd)) (lwE L fa cd) E)
    (F : Fr g L s.heap (lpM (.str (ofL xs) tx) (.str (ofL nl) tn) p st kv rv dv m0)) (N : News g L s.heap news) (sb : StN news st lw st0) (nf : NoF news)
    (hx : xs.length ≤ 30) (hnl : nl.length ≤ 12) (hxo : ∀ c ∈ xs, c < 1114112) (hno : ∀ c ∈ nl, c < 1114112)
    (ret : ∀ h' tk m, Fr g L h' m → News g L h' [] → QF .next { s with heap := h', toks := tk }) :
    wpAny (md w) ((AR dp un fr gd).deeper (lwE L fa cd)) (exec lw6P.1 (lwE L fa cd)) QF E s := by
  have hlen := ofL_length xs
  refine rngLoop (g := g) (L := L) (n := (ofL xs).length + 1) (v := Str.ofString "k") (body := lwBodyP.1) (fun i m news => ∃ st lw kv rv dv, m = lpM (.str (ofL xs) tx) (.str (ofL nl) tn) p st kv rv dv m0 ∧ StN news st lw (foldT p st0 (xs.take i)) ∧ NoF news) ?_ rfl hE ?_ (by omega) ⟨st, lw, kv, rv, dv, rfl, sb, nf⟩ ?_ ?_ ?_
  · rintro i m news ⟨_, _, _, _, _, _, _, h⟩; exact h
  · intro y; rfl
  · intro Q' hQ
    exact lwIter W F N (by omega) hQ
  · intro i m news it o h tk tc QF' hi hI F N _ k
    obtain ⟨st, lw, kv, rv, dv, rfl, sb, nf⟩ := hI
    refine kStore (s := { s with heap := h, toks := tk }) W F N ?_
    intro h1 tk1 F1 N1
    refine bodyT (s := { s with heap := h1, toks := tk1 }) W K hroom hun F1 N1 sb hx hnl (by omega) hxo hno ?_
    intro st' lw' kv' rv' dv' news' h' tk' sb' nf' F' N'
    exact k _ _ h' tk' ⟨st', lw', kv', rv', dv', rfl, sb', nf'⟩ F' N'
  · intro m news h tk hI F N
    exact ret h tk m F News.nil
theorem lawT (W : Wd w mean mg mb g) (K : Below (AR dp un fr gd) g [] g) (hroom : dp + 12 < recursionLimit) (hun : un + 200 < cLine) (hE : PassesOwn (md w) ((AR dp un fr gd).deeper (lwE L fa cd)) (lwE L fa cd) E)
    (F : Fr g L s.heap (fun y => [(Str.ofString "script", Value.ref sc)].reverse.lookup y)) (N : News g L s.heap []) (IL : g.IsList sc vs.toArray) (hI : IntsAre vs ns) (hn : ns.length ≤ 63)
    (ret : ∀ h' tk m, Fr g L h' m → QF (.ret (.bool true)) { s with heap := h', toks := tk }) :
    wpAny (md w) ((AR dp un fr gd).deeper (lwE L fa cd)) (execs bd802 (lwE L fa cd)) QF E s := by
  rw [bd802_eq]
  refine execsApp (lw0T W F N IL hI hn ?_)
  intro D ws h1 tk1 hI1 F1 N1
  dsimp only
  have hl := intsLen hI1
  rw [List.length_take] at hl
  refine execsApp (lw1T (s := { s with heap := h1, toks := tk1 }) W hroom (by omega) F1 N1 hI1 (by omega) (by omega) ?_)
  intro zs nl tx tn p st lw tm m0 h2 tk2 hz hnl hzo hno F2 N2
  dsimp only
  rw [tailL, ofL_append, lpM_i] at F2
  rw [execs_cons]
  refine wpAny_bind (loopT (s := { s with heap := h2, toks := tk2 }) W K hroom hun hE F2 N2 ⟨tm, .none, [], 0, .head _, WV.none, .tail _ (.head _), SV.nil⟩ ?_ ?_ hnl ?_ hno ?_)
  · intro q hq vs' e
    simp only [List.mem_cons, List.not_mem_nil, or_false] at hq
    rcases hq with rfl | rfl <;> cases e
  · rw [List.length_append]
    show zs.length + 8 ≤ 30
    omega
  · intro c hc
    rcases List.mem_append.mp hc with h | h
    · exact hzo c h
    · simp only [List.mem_cons, List.not_mem_nil, or_false] at h
      omega
  · intro h3 tk3 m F3 N3
    dsimp only
    have X := W.X
    have T := W.T
    w_on
    w_top on
    walk_at "my steps"
    all_goals (try dsimp only)
    all_goals exact ret _ _ _ (by assumption)
end
end
theorem rstR25 {w : World} {A : Around} {s : Shared} {Q : Bool → Shared → Prop} {E : Value → Shared → Prop} (h : wpAny (md w) A (truthy (.bool true)) Q E s) : wpAny (md w) A (truthy (.bool true)) Q E s := by
  first | (walk1; fail) | exact h
-- R25
theorem fillR25 : Fill PySem.Challenge.rw_oc0205_01 kx := by
  k_fill
  exact True.intro
section
variable {w : World} {mean : ExcName → Option Value} {mg mb : Str → Option Value} {dp un : Nat} {fr : Option (List Env)} {gd : Option (List Code)} {s : Shared} {Q E : Value → Shared → Prop}
theorem callerA_AR : callerA = AR (1 + claimMargin) 4 (some []) (some []) := rfl
theorem lawHolds : PySem.Challenge.rw_oc0205_01.Holds := by
  refine hd ?_
  k_fill
  intro w s₀ s₁ mg mb G Y fa o pm cd doc dV kV at_ ho hcd hD hmg hg args vals as hpre hlay hrd hwl hlo
  have kX := kIn_of Y
  refine Ground.open G ?_
  intro kT _ hD' _ _
  obtain ⟨_, _, he, _⟩ := based_of_top kT rfl hmg at_ ho
  have he : cd = _ := he
  subst he
  wrow_args hpre hlay hrd hwl hlo
  refine enter_call ?_
  w_top on
  refine codeAny_mono ?_ (fun _ _ g => GoodW.toG g)
  have kK := below_caller (Top.heap kT)
  w_call any at_ ho hcd hD kT kF
  k_drop
  rename News _ _ _ _ => kN
  rename IntsAre _ _ => kI
  rename Heap.IsList _ _ _ => kL
  rename (¬ _ < _) => kC
  rename (Shared.gens _ = _) => kG
  refine lawT (dp := 1 + claimMargin) (un := 4) (fr := some []) (gd := some []) (s := { heap := _, gens := _, drawn := _, toks := _, os := _ }) ⟨kX, kT⟩ kK (by decide +kernel) (by decide +kernel) ?_ kF kN kL kI (by omega) ?_
  · passes_own
  · intro h' tk m F'
    dsimp only
    refine goodW_bool F' kG (raisesW_false ?hn) ?hp
    case hn => wrow_none_raised
    case hp => wrow_post
end
end Mine
theorem PySem.Challenge.cw_oc0205_01_holds : PySem.Challenge.rw_oc0205_01.Holds := by
  exact Mine.lawHolds
