import PyProof.Rows.All
import Wide.All
import OpenK.AllK
import Wide.FinOn
import KE.KMulAny
import KE.KEqDict
import PySem.Challenge.RW_st0047_01
open PySem PySem.W PyProof.Rows
set_option Elab.async false
set_option maxRecDepth 100000
set_option linter.all false
-- HeadB
section
set_option maxHeartbeats 0
namespace Mine
noncomputable abbrev pg : Program := PySem.Challenge.pw_st0047_01
noncomputable def stm (i : Nat) : Stmt := (pg.main.body[i]?).getD (.Pass ⟨0, 0, 0, 0⟩)
noncomputable def clsBody : Stmt → List Stmt
  | .ClassDef _ _ _ b _ _ _ _ _ _ _ => b
  | _ => []
noncomputable def inC (i j : Nat) : Stmt := ((clsBody (stm i))[j]?).getD (.Pass ⟨0, 0, 0, 0⟩)
noncomputable def fArgs : Stmt → Arguments
  | .FunctionDef _ a _ _ _ _ _ _ _ _ => a
  | _ => ⟨[], [], none, [], [], none, []⟩
noncomputable def fBody : Stmt → List Stmt
  | .FunctionDef _ _ b _ _ _ _ _ _ _ => b
  | _ => []
noncomputable def fScope : Stmt → Scope
  | .FunctionDef _ _ _ _ _ _ s _ _ _ => s
  | _ => { kind := .function, names := [], isGenerator := false, isCoroutine := false, more := [] }
noncomputable abbrev kh (P : Params) (s : Str) : Int := PyData.keyHash P s
noncomputable abbrev en (P : Params) (s : Str) (t : Nat) (v : Value) : DictEntry := ⟨PyData.keyHash P s, .str s t, v⟩
noncomputable abbrev g0 : Array GenState := Array.mk []
noncomputable abbrev lf : Life := {}
noncomputable abbrev dr : Drawn := {}
noncomputable def env0 : Env := { scope := pg.main.scope, locals := mainNs, globals := mainNs, cells := [], code := .ref 13, frame := some 14 }
noncomputable def cd0 : Code := .body (behindTheImports pg) env0
noncomputable abbrev q0 : Pos := ⟨0, 0, 0, 0⟩
noncomputable abbrev stT (t : Params → BT) (n k : Nat) (w : World) (os : OsState) : SharedT := ⟨t w.params, n, lf, g0, dr, k, os⟩
noncomputable abbrev th (l : List Stmt) (p : Pos) : Thread := piecesOf l env0 cd0 p [topFrame q0]
noncomputable abbrev SR (w : World) (n : Nat) (s : SharedT) (t : Thread) := segRunT treeTable pg w 11 (some (.ref 6)) 1 n s t
noncomputable abbrev yes (b : Bool) (w : World) : World := w.withFollow "special-get-raises" b
noncomputable def zipKV : List (Option PySem.Expr) → List PySem.Expr → List (Int × Str)
  | some (.Constant (.int k) _ _) :: ks, .Constant (.str s) _ _ :: vs => (k, s) :: zipKV ks vs
  | _, _ => []
noncomputable def dictOfStm : Stmt → List (Option PySem.Expr) × List PySem.Expr × Pos
  | .Assign _ (.Dict ks vs p) _ => (ks, vs, p)
  | _ => ([], [], ⟨0, 0, 0, 0⟩)
noncomputable def kvs : List (Int × Str) := zipKV (dictOfStm (stm 9)).1 (dictOfStm (stm 9)).2.1
noncomputable def entsFrom : Nat → Nat → List (Int × Str) → List DictEntry
  | _, _, [] => []
  | t, d, (k, s) :: r => ⟨k, .int k t, .str s (t + 1)⟩ :: entsFrom (t + d) d r
noncomputable def kvsN : { l : List (Int × Str) // kvs = l } := ⟨_, by
  unfold kvs stm pg PySem.Challenge.pw_st0047_01
  dsimp only [dictOfStm, zipKV, List.getElem?_cons_succ, List.getElem?_cons_zero, Option.getD_some]⟩
noncomputable def e1N : { l : List DictEntry // entsFrom 398 3 (kvs.take 646) = l } := ⟨_, (congrArg (fun l => entsFrom 398 3 (l.take 646)) kvsN.2).trans (by
  unfold kvsN
  dsimp only [entsFrom, List.take_succ_cons, List.take_zero, Nat.reduceAdd])⟩
noncomputable def e2N : { l : List DictEntry // entsFrom 2336 2 (kvs.drop 646) = l } := ⟨_, (congrArg (fun l => entsFrom 2336 2 (l.drop 646)) kvsN.2).trans (by
  unfold kvsN
  dsimp only [entsFrom, List.drop_succ_cons, List.drop_zero, Nat.reduceAdd])⟩
noncomputable def bigO (j : Nat) (_ : Params) : Obj := .mk (.type "dict") none (.dict (e1N.1.take (17 * j)).toArray (17 * j)) #[]
noncomputable def o120 (_ : Params) : Obj := .mk (.type "dict") none (.dict (e1N.1 ++ e2N.1).toArray 650) #[]
noncomputable def subO (i : Nat) (_ : Params) : Obj := match i with
  | 37 => .mk (.type "dict") none (.dict e2N.1.toArray 4) #[]
  | i => .mk (.type "dict") none (.dict ((e1N.1.drop (17 * (i + 1))).take 17).toArray 17) #[]
noncomputable def placesL (h : Int) : List DictEntry → Nat → List Nat
  | [], _ => []
  | e :: r, i => match Z.eqB e.hash h with
    | true => i :: placesL h r (i + 1)
    | false => placesL h r (i + 1)
theorem placesL_eq (h : Int) (es : Array DictEntry) : placesWithHash es.size (fun i => es[i]?.map (·.hash)) h = placesL h es.toList 0 := by
  rw [PySem.Fast.places_eq]
  have key : ∀ (l : List DictEntry) (pre : List DictEntry), es.toList = pre ++ l → PySem.Fast.placesFrom (fun i => es[i]?.map (·.hash)) h l.length pre.length = placesL h l pre.length := by
    intro l
    induction l with
    | nil => intro pre _; rfl
    | cons e r ih =>
      intro pre hp
      have hi : es[pre.length]? = some e := by
        rw [← Array.getElem?_toList, hp]; simp
      have := ih (pre ++ [e]) (by simp [hp])
      simp only [List.length_append, List.length_cons, List.length_nil, Nat.zero_add] at this
      simp only [List.length_cons, PySem.Fast.placesFrom, placesL, hi, Option.map_some, this]
      by_cases q : e.hash = h
      · rw [(Z.eqB_iff _ _).mpr q, if_pos (by rw [q]; exact beq_self_eq_true _)]
      · have q' : Z.eqB e.hash h = false := by
          cases z : Z.eqB e.hash h with
          | false => rfl
          | true => exact absurd ((Z.eqB_iff _ _).mp z) q
        rw [q', if_neg (by simpa using q)]
  have := key es.toList [] rfl
  simpa using this
noncomputable def dfX : { f : Addr → Value → Int → Sem (Option Nat) // @dictFind = f } := ⟨_, by
  unfold dictFind
  simp only [placesL_eq]
  rw [PySem.W.Fast.te1156441195427279134, PySem.W.Fast.te17029171927554795714]⟩
noncomputable def dpX : { f : Addr → Int → Value → Value → Sem Unit // @dictPut = f } := ⟨_, by
  unfold dictPut
  rw [dfX.2, PySem.W.Fast.te11826078720135083572]⟩
noncomputable def mmX : { f : Addr → Value → Bool → Sem Unit // @mergeMapping = f } := ⟨_, by
  unfold mergeMapping
  rw [dpX.2, PySem.W.Fast.te6571733998842723752, PySem.W.Fast.te4214721358667687652, PySem.W.Fast.te1156441195427279134, PySem.W.Fast.te8314933798227046258]⟩
noncomputable def ddX : { x : ((Option (Sem Value) × Sem Value) → (Option Addr × List (Sem Value × Sem Value)) → Sem (ForInStep (Option Addr × List (Sem Value × Sem Value)))) × ((Option Addr × List (Sem Value × Sem Value)) → Sem Value) // ∀ items, dictDisplay items = (forIn items ((none : Option Addr), ([] : List (Sem Value × Sem Value))) x.1) >>= x.2 } := ⟨(_, _), fun items => by
  unfold dictDisplay
  rw [mmX.2, PySem.W.Fast.te11913375310210876947]⟩
noncomputable abbrev PV := Sem Value × Sem Value
noncomputable abbrev BB := ddX.1.1
theorem stepB (k v : Sem Value) (main : Option Addr) (run : List PV) (h : run.length + 1 ≠ 17) : BB (some k, v) (main, run) = pure (.yield (main, run ++ [(k, v)])) := by
  show (if ((run ++ [(k, v)]).length == 17) = true then _ else _) = _
  rw [if_neg (by simp; omega)]
noncomputable abbrev lift : List PV → List (Option (Sem Value) × Sem Value) := List.map fun x => (some x.1, x.2)
theorem chunk (main : Option Addr) (rest : List PV) (x : PV) : ∀ (l run : List PV), run.length + l.length = 16 →
    forIn (lift (l ++ x :: rest)) (main, run) BB = (BB (some x.1, x.2) (main, run ++ l) >>= fun r => match r with | .done b => pure b | .yield b => forIn (lift rest) b BB)
  | [], run, _ => by
    show forIn ((some x.1, x.2) :: lift rest) (main, run) BB = _
    rw [List.forIn_cons, List.append_nil]
    refine congrArg _ (funext fun r => ?_)
    cases r <;> rfl
  | y :: l, run, h => by
    show forIn ((some y.1, y.2) :: lift (l ++ x :: rest)) (main, run) BB = _
    rw [List.forIn_cons, stepB _ _ _ _ (by simp at h; omega), pure_bind]
    show forIn (lift (l ++ x :: rest)) (main, run ++ [(y.1, y.2)]) BB = _
    rw [chunk main rest x l (run ++ [(y.1, y.2)]) (by simp at h ⊢; omega), List.append_assoc]
    rfl
theorem tailB (main : Option Addr) : ∀ (l run : List PV), run.length + l.length < 17 → forIn (lift l) (main, run) BB = pure (main, run ++ l)
  | [], run, _ => by simp
  | x :: l, run, h => by
    show forIn ((some x.1, x.2) :: lift l) (main, run) BB = _
    rw [List.forIn_cons, stepB _ _ _ _ (by simp at h; omega), pure_bind]
    show forIn (lift l) (main, run ++ [(x.1, x.2)]) BB = _
    rw [tailB main l (run ++ [(x.1, x.2)]) (by simp at h ⊢; omega)]
    simp
noncomputable def pairs : List PV := ((dictOfStm (stm 9)).1.filterMap fun k => k.map fun k => eval k env0).zip ((evalEach (dictOfStm (stm 9)).2.1 env0).map fun v => do let x ← v; standAt (dictOfStm (stm 9)).2.2; pure x)
noncomputable def pairsN : { l : List PV // pairs = l } := ⟨_, by
  unfold pairs stm pg PySem.Challenge.pw_st0047_01
  dsimp only [dictOfStm, List.filterMap_cons, List.filterMap_nil, Option.map_some, PySem.evalEach, List.map_cons, List.map_nil, List.zip_cons_cons, List.zip_nil_left, List.getElem?_cons_succ, List.getElem?_cons_zero, Option.getD_some]⟩
noncomputable def resY : ForInStep (Option Addr × List PV) → Flow
  | .yield (some d, []) => .ret (.ref d)
  | _ => .brk
noncomputable def ckT (j : Nat) (main : Option Addr) : Sem (ForInStep (Option Addr × List PV)) :=
  match (pairsN.1.drop (17 * j + 16)) with
  | x :: _ => BB (some x.1, x.2) (main, (pairsN.1.drop (17 * j)).take 16)
  | [] => pure (.done (none, []))
noncomputable def trJ0 : Nat := 0
noncomputable abbrev thS {α : Type} (t : Sem α) (res : α → Flow) (p : Pos) : Thread := ⟨t.wrap (fun a => doneF (res a)) deadEnd id id, cd0, p, [topFrame q0]⟩

noncomputable def o11_A (_ : Params) : Obj := (.mk (.type "tuple") none (.seq #[] 0) #[])
noncomputable def o12_A (_ : Params) : Obj := (.mk .none none (.fields #[]) #[])
noncomputable def o13_A (_ : Params) : Obj := (.mk (.type "code") none (.fields #[(.str (.ofString "<module>") 182), (.str (.ofString "<module>") 183), (.str (.ofString "/claim/cut.py") 184), (.int 1 0), (.int 0 0), (.int 0 0), (.int 0 0), (.int 0 0), (.ref 11), (.bool false), (.int 181 0), (.ref 12), .none, .none, .none, .none, (.int 185 0), (.int 1 0), (.str (.ofString "/claim/cut.py") 186)]) #[])
noncomputable def o14_A (_ : Params) : Obj := (.mk (.type "frame") none .plain #[(some (.ref 13)), (some (.ref 3)), (some (.ref 3)), none, (some (.str (.ofString "__main__") 164)), none, (some (.ref 0))])
noncomputable def treeA (P : Params) : BT := (.node (boot_o_0 P) (.node (boot_o_1 P) (.node (boot_o_3 P) (.node (boot_o_7 P) .nil .nil) (.node (o11_A P) .nil .nil)) (.node (boot_o_5 P) (.node (boot_o_9 P) .nil .nil) (.node (o13_A P) .nil .nil))) (.node (boot_o_2 P) (.node (boot_o_4 P) (.node (boot_o_8 P) .nil .nil) (.node (o12_A P) .nil .nil)) (.node (boot_o_6 P) (.node (boot_o_10 P) .nil .nil) (.node (o14_A P) .nil .nil))))
noncomputable def heapA (P : Params) : Heap := ⟨#[boot_o_0 P, boot_o_1 P, boot_o_2 P, boot_o_3 P, boot_o_4 P, boot_o_5 P, boot_o_6 P, boot_o_7 P, boot_o_8 P, boot_o_9 P, boot_o_10 P, o11_A P, o12_A P, o13_A P, o14_A P], (@PySem.Life.mk [] [] [] 0 [] [] false #[] [] 0 false false false 0 [2000, 10, 10] false 0 true [] [] 0 false)⟩
noncomputable def treeB (P : Params) : BT := (.node (boot_o_0 P) (.node (boot_o_1 P) (.node (boot_o_3 P) (.node (boot_o_7 P) .nil .nil) (.node (o11_A P) .nil .nil)) (.node (boot_o_5 P) (.node (boot_o_9 P) .nil .nil) (.node (o13_A P) .nil .nil))) (.node (boot_o_2 P) (.node (boot_o_4 P) (.node (boot_o_8 P) .nil .nil) (.node (o12_A P) .nil .nil)) (.node (boot_o_6 P) (.node (boot_o_10 P) .nil .nil) (.node (o14_A P) .nil .nil))))
noncomputable def o3_6 (P : Params) : Obj := (.mk (.type "dict") none (.dict #[(en P "__name__" 165 (.str (.ofString "cpy313.stringprep") 329)), (en P "__doc__" 166 .none), (en P "__package__" 167 .none), (en P "__loader__" 168 (.builtin "__main__.__loader__#opaque")), (en P "__spec__" 169 .none), (en P "__annotations__" 170 (.ref 6)), (en P "__builtins__" 171 (.ref 4)), (en P "__file__" 173 (.str (.ofString "/claim/cut.py") 172)), (en P "__cached__" 174 .none), (en P "Whitespace" 294 (.ref 76)), (en P "_iter_escaped_chars" 306 (.ref 87)), (en P "_strip_quoted_realnames" 318 (.ref 94)), (en P "_check_parenthesis" 328 (.ref 101))] 13) #[])
noncomputable def o12_6 (_ : Params) : Obj := (.mk .none none (.fields #[(.int 2 0), (.int 0 0), (.ref 20), (.int 69 0), (.int 0 0), (.ref 86), (.int 82 0), (.int 0 0), (.ref 93), (.int 100 0), (.int 0 0), (.ref 100)]) #[])
noncomputable def o15_6 (_ : Params) : Obj := (.mk (.type "tuple") none (.seq #[] 0) #[])
noncomputable def o16_6 (_ : Params) : Obj := (.mk (.type "builtin_function_or_method") none (.fields #[(.builtin "type.__prepare__"), (.type "type")]) #[])
noncomputable def o17_6 (P : Params) : Obj := (.mk (.type "dict") none (.dict #[(en P "__module__" 196 (.str (.ofString "cpy313.tabnanny") 187)), (en P "__qualname__" 198 (.str (.ofString "Whitespace") 197)), (en P "__firstlineno__" 200 (.int 2 199)), (en P "S" 204 (.str (.ofString " ") 202)), (en P "T" 205 (.str (.ofString "\t") 203)), (en P "__init__" 220 (.ref 31)), (en P "longest_run_of_spaces" 229 (.ref 38)), (en P "indent_level" 241 (.ref 45)), (en P "equal" 249 (.ref 52)), (en P "not_equal_witness" 260 (.ref 59)), (en P "less" 270 (.ref 66)), (en P "not_less_witness" 281 (.ref 73)), (en P "__static_attributes__" 287 (.ref 74))] 13) #[])
noncomputable def o18_6 (_ : Params) : Obj := (.mk (.type "tuple") none (.seq #[] 0) #[])
noncomputable def o19_6 (_ : Params) : Obj := (.mk .none none (.fields #[(.int 5 0), (.int 4 0), (.ref 30), (.int 28 0), (.int 4 0), (.ref 37), (.int 32 0), (.int 4 0), (.ref 44), (.int 39 0), (.int 4 0), (.ref 51), (.int 42 0), (.int 4 0), (.ref 58), (.int 50 0), (.int 4 0), (.ref 65), (.int 61 0), (.int 4 0), (.ref 72)]) #[])
noncomputable def o20_6 (_ : Params) : Obj := (.mk (.type "code") none (.fields #[(.str (.ofString "Whitespace") 191), (.str (.ofString "Whitespace") 192), (.str (.ofString "/claim/cut.py") 193), (.int 2 0), (.int 0 0), (.int 0 0), (.int 0 0), (.int 0 0), (.ref 18), (.bool false), (.int 181 0), (.ref 19), .none, .none, .none, .none, (.int 194 0), (.int 2 0), (.str (.ofString "/claim/cut.py") 195)]) #[])
noncomputable def o21_6 (_ : Params) : Obj := (.mk (.type "frame") none .plain #[(some (.ref 20)), (some (.ref 3)), (some (.ref 17)), none, (some (.str (.ofString "cpy313.tabnanny") 187)), none, (some (.ref 0))])
noncomputable def o22_6 (_ : Params) : Obj := (.mk (.type "str_ascii_iterator") none (.fields #[.none, (.int 2 0)]) #[])
noncomputable def o23_6 (_ : Params) : Obj := (.mk (.type "tuple") none (.seq #[] 0) #[])
noncomputable def o24_6 (_ : Params) : Obj := (.mk (.type "StopIteration") none (.fields #[(.ref 23), .none, .none, .none, (.bool false), .none]) #[])
noncomputable def o25_6 (_ : Params) : Obj := (.mk (.type "tuple") none (.seq #[] 0) #[])
noncomputable def o26_6 (_ : Params) : Obj := (.mk .none none (.fields #[]) #[])
noncomputable def o27_6 (_ : Params) : Obj := (.mk (.type "tuple") none (.seq #[(.str (.ofString "self") 209), (.str (.ofString "ws") 210), (.str (.ofString "S") 211), (.str (.ofString "T") 212), (.str (.ofString "count") 213), (.str (.ofString "b") 214), (.str (.ofString "n") 215), (.str (.ofString "nt") 216), (.str (.ofString "ch") 217)] 0) #[])
noncomputable def o28_6 (_ : Params) : Obj := (.mk (.type "tuple") none (.seq #[] 0) #[])
noncomputable def o29_6 (_ : Params) : Obj := (.mk .none none (.func (.mk (.ofString "__init__") (.ofString "Whitespace.__init__") (fArgs (inC 1 1)) (.stmts (fBody (inC 1 1))) (fScope (inC 1 1)) 0 [] .none .none .none .none none .none .none 0)) #[])
noncomputable def o30_6 (_ : Params) : Obj := (.mk (.type "code") none (.fields #[(.str (.ofString "__init__") 206), (.str (.ofString "Whitespace.__init__") 207), (.str (.ofString "/claim/cut.py") 208), (.int 5 0), (.int 2 0), (.int 0 0), (.int 0 0), (.int 3 0), (.ref 25), (.bool true), (.int 181 0), (.ref 26), .none, (.ref 27), (.ref 28), (.ref 29), (.int 218 0), (.int 5 0), (.str (.ofString "/claim/cut.py") 219)]) #[])
noncomputable def o31_6 (_ : Params) : Obj := (.mk (.type "function") none (.func (.mk (.ofString "__init__") (.ofString "Whitespace.__init__") (fArgs (inC 1 1)) (.stmts (fBody (inC 1 1))) (fScope (inC 1 1)) 3 [] .none .none .none (.str (.ofString "cpy313.tabnanny") 187) none (.ref 30) .none 0)) #[])
noncomputable def o32_6 (_ : Params) : Obj := (.mk (.type "tuple") none (.seq #[] 0) #[])
noncomputable def o33_6 (_ : Params) : Obj := (.mk .none none (.fields #[]) #[])
noncomputable def o34_6 (_ : Params) : Obj := (.mk (.type "tuple") none (.seq #[(.str (.ofString "self") 224), (.str (.ofString "count") 225), (.str (.ofString "trailing") 226)] 0) #[])
noncomputable def o35_6 (_ : Params) : Obj := (.mk (.type "tuple") none (.seq #[] 0) #[])
noncomputable def o36_6 (_ : Params) : Obj := (.mk .none none (.func (.mk (.ofString "longest_run_of_spaces") (.ofString "Whitespace.longest_run_of_spaces") (fArgs (inC 1 2)) (.stmts (fBody (inC 1 2))) (fScope (inC 1 2)) 0 [] .none .none .none .none none .none .none 0)) #[])
noncomputable def o37_6 (_ : Params) : Obj := (.mk (.type "code") none (.fields #[(.str (.ofString "longest_run_of_spaces") 221), (.str (.ofString "Whitespace.longest_run_of_spaces") 222), (.str (.ofString "/claim/cut.py") 223), (.int 28 0), (.int 1 0), (.int 0 0), (.int 0 0), (.int 3 0), (.ref 32), (.bool true), (.int 181 0), (.ref 33), .none, (.ref 34), (.ref 35), (.ref 36), (.int 227 0), (.int 28 0), (.str (.ofString "/claim/cut.py") 228)]) #[])
noncomputable def o38_6 (_ : Params) : Obj := (.mk (.type "function") none (.func (.mk (.ofString "longest_run_of_spaces") (.ofString "Whitespace.longest_run_of_spaces") (fArgs (inC 1 2)) (.stmts (fBody (inC 1 2))) (fScope (inC 1 2)) 3 [] .none .none .none (.str (.ofString "cpy313.tabnanny") 187) none (.ref 37) .none 0)) #[])
noncomputable def o39_6 (_ : Params) : Obj := (.mk (.type "tuple") none (.seq #[] 0) #[])
noncomputable def o40_6 (_ : Params) : Obj := (.mk .none none (.fields #[]) #[])
noncomputable def o41_6 (_ : Params) : Obj := (.mk (.type "tuple") none (.seq #[(.str (.ofString "self") 233), (.str (.ofString "tabsize") 234), (.str (.ofString "count") 235), (.str (.ofString "trailing") 236), (.str (.ofString "il") 237), (.str (.ofString "i") 238)] 0) #[])
noncomputable def o42_6 (_ : Params) : Obj := (.mk (.type "tuple") none (.seq #[] 0) #[])
noncomputable def o43_6 (_ : Params) : Obj := (.mk .none none (.func (.mk (.ofString "indent_level") (.ofString "Whitespace.indent_level") (fArgs (inC 1 3)) (.stmts (fBody (inC 1 3))) (fScope (inC 1 3)) 0 [] .none .none .none .none none .none .none 0)) #[])
noncomputable def o44_6 (_ : Params) : Obj := (.mk (.type "code") none (.fields #[(.str (.ofString "indent_level") 230), (.str (.ofString "Whitespace.indent_level") 231), (.str (.ofString "/claim/cut.py") 232), (.int 32 0), (.int 2 0), (.int 0 0), (.int 0 0), (.int 3 0), (.ref 39), (.bool true), (.int 181 0), (.ref 40), .none, (.ref 41), (.ref 42), (.ref 43), (.int 239 0), (.int 32 0), (.str (.ofString "/claim/cut.py") 240)]) #[])
noncomputable def o45_6 (_ : Params) : Obj := (.mk (.type "function") none (.func (.mk (.ofString "indent_level") (.ofString "Whitespace.indent_level") (fArgs (inC 1 3)) (.stmts (fBody (inC 1 3))) (fScope (inC 1 3)) 3 [] .none .none .none (.str (.ofString "cpy313.tabnanny") 187) none (.ref 44) .none 0)) #[])
noncomputable def o46_6 (_ : Params) : Obj := (.mk (.type "tuple") none (.seq #[] 0) #[])
noncomputable def o47_6 (_ : Params) : Obj := (.mk .none none (.fields #[]) #[])
noncomputable def o48_6 (_ : Params) : Obj := (.mk (.type "tuple") none (.seq #[(.str (.ofString "self") 245), (.str (.ofString "other") 246)] 0) #[])
noncomputable def o49_6 (_ : Params) : Obj := (.mk (.type "tuple") none (.seq #[] 0) #[])
noncomputable def o50_6 (_ : Params) : Obj := (.mk .none none (.func (.mk (.ofString "equal") (.ofString "Whitespace.equal") (fArgs (inC 1 4)) (.stmts (fBody (inC 1 4))) (fScope (inC 1 4)) 0 [] .none .none .none .none none .none .none 0)) #[])
noncomputable def o51_6 (_ : Params) : Obj := (.mk (.type "code") none (.fields #[(.str (.ofString "equal") 242), (.str (.ofString "Whitespace.equal") 243), (.str (.ofString "/claim/cut.py") 244), (.int 39 0), (.int 2 0), (.int 0 0), (.int 0 0), (.int 3 0), (.ref 46), (.bool true), (.int 181 0), (.ref 47), .none, (.ref 48), (.ref 49), (.ref 50), (.int 247 0), (.int 39 0), (.str (.ofString "/claim/cut.py") 248)]) #[])
noncomputable def o52_6 (_ : Params) : Obj := (.mk (.type "function") none (.func (.mk (.ofString "equal") (.ofString "Whitespace.equal") (fArgs (inC 1 4)) (.stmts (fBody (inC 1 4))) (fScope (inC 1 4)) 3 [] .none .none .none (.str (.ofString "cpy313.tabnanny") 187) none (.ref 51) .none 0)) #[])
noncomputable def o53_6 (_ : Params) : Obj := (.mk (.type "tuple") none (.seq #[] 0) #[])
noncomputable def o54_6 (_ : Params) : Obj := (.mk .none none (.fields #[]) #[])
noncomputable def o55_6 (_ : Params) : Obj := (.mk (.type "tuple") none (.seq #[(.str (.ofString "self") 253), (.str (.ofString "other") 254), (.str (.ofString "n") 255), (.str (.ofString "a") 256), (.str (.ofString "ts") 257)] 0) #[])
noncomputable def o56_6 (_ : Params) : Obj := (.mk (.type "tuple") none (.seq #[] 0) #[])
noncomputable def o57_6 (_ : Params) : Obj := (.mk .none none (.func (.mk (.ofString "not_equal_witness") (.ofString "Whitespace.not_equal_witness") (fArgs (inC 1 5)) (.stmts (fBody (inC 1 5))) (fScope (inC 1 5)) 0 [] .none .none .none .none none .none .none 0)) #[])
noncomputable def o58_6 (_ : Params) : Obj := (.mk (.type "code") none (.fields #[(.str (.ofString "not_equal_witness") 250), (.str (.ofString "Whitespace.not_equal_witness") 251), (.str (.ofString "/claim/cut.py") 252), (.int 42 0), (.int 2 0), (.int 0 0), (.int 0 0), (.int 3 0), (.ref 53), (.bool true), (.int 181 0), (.ref 54), .none, (.ref 55), (.ref 56), (.ref 57), (.int 258 0), (.int 42 0), (.str (.ofString "/claim/cut.py") 259)]) #[])
noncomputable def o59_6 (_ : Params) : Obj := (.mk (.type "function") none (.func (.mk (.ofString "not_equal_witness") (.ofString "Whitespace.not_equal_witness") (fArgs (inC 1 5)) (.stmts (fBody (inC 1 5))) (fScope (inC 1 5)) 3 [] .none .none .none (.str (.ofString "cpy313.tabnanny") 187) none (.ref 58) .none 0)) #[])
noncomputable def o60_6 (_ : Params) : Obj := (.mk (.type "tuple") none (.seq #[] 0) #[])
noncomputable def o61_6 (_ : Params) : Obj := (.mk .none none (.fields #[]) #[])
noncomputable def o62_6 (_ : Params) : Obj := (.mk (.type "tuple") none (.seq #[(.str (.ofString "self") 264), (.str (.ofString "other") 265), (.str (.ofString "n") 266), (.str (.ofString "ts") 267)] 0) #[])
noncomputable def o63_6 (_ : Params) : Obj := (.mk (.type "tuple") none (.seq #[] 0) #[])
noncomputable def o64_6 (_ : Params) : Obj := (.mk .none none (.func (.mk (.ofString "less") (.ofString "Whitespace.less") (fArgs (inC 1 6)) (.stmts (fBody (inC 1 6))) (fScope (inC 1 6)) 0 [] .none .none .none .none none .none .none 0)) #[])
noncomputable def o65_6 (_ : Params) : Obj := (.mk (.type "code") none (.fields #[(.str (.ofString "less") 261), (.str (.ofString "Whitespace.less") 262), (.str (.ofString "/claim/cut.py") 263), (.int 50 0), (.int 2 0), (.int 0 0), (.int 0 0), (.int 3 0), (.ref 60), (.bool true), (.int 181 0), (.ref 61), .none, (.ref 62), (.ref 63), (.ref 64), (.int 268 0), (.int 50 0), (.str (.ofString "/claim/cut.py") 269)]) #[])
noncomputable def o66_6 (_ : Params) : Obj := (.mk (.type "function") none (.func (.mk (.ofString "less") (.ofString "Whitespace.less") (fArgs (inC 1 6)) (.stmts (fBody (inC 1 6))) (fScope (inC 1 6)) 3 [] .none .none .none (.str (.ofString "cpy313.tabnanny") 187) none (.ref 65) .none 0)) #[])
noncomputable def o67_6 (_ : Params) : Obj := (.mk (.type "tuple") none (.seq #[] 0) #[])
noncomputable def o68_6 (_ : Params) : Obj := (.mk .none none (.fields #[]) #[])
noncomputable def o69_6 (_ : Params) : Obj := (.mk (.type "tuple") none (.seq #[(.str (.ofString "self") 274), (.str (.ofString "other") 275), (.str (.ofString "n") 276), (.str (.ofString "a") 277), (.str (.ofString "ts") 278)] 0) #[])
noncomputable def o70_6 (_ : Params) : Obj := (.mk (.type "tuple") none (.seq #[] 0) #[])
noncomputable def o71_6 (_ : Params) : Obj := (.mk .none none (.func (.mk (.ofString "not_less_witness") (.ofString "Whitespace.not_less_witness") (fArgs (inC 1 7)) (.stmts (fBody (inC 1 7))) (fScope (inC 1 7)) 0 [] .none .none .none .none none .none .none 0)) #[])
noncomputable def o72_6 (_ : Params) : Obj := (.mk (.type "code") none (.fields #[(.str (.ofString "not_less_witness") 271), (.str (.ofString "Whitespace.not_less_witness") 272), (.str (.ofString "/claim/cut.py") 273), (.int 61 0), (.int 2 0), (.int 0 0), (.int 0 0), (.int 3 0), (.ref 67), (.bool true), (.int 181 0), (.ref 68), .none, (.ref 69), (.ref 70), (.ref 71), (.int 279 0), (.int 61 0), (.str (.ofString "/claim/cut.py") 280)]) #[])
noncomputable def o73_6 (_ : Params) : Obj := (.mk (.type "function") none (.func (.mk (.ofString "not_less_witness") (.ofString "Whitespace.not_less_witness") (fArgs (inC 1 7)) (.stmts (fBody (inC 1 7))) (fScope (inC 1 7)) 3 [] .none .none .none (.str (.ofString "cpy313.tabnanny") 187) none (.ref 72) .none 0)) #[])
noncomputable def o74_6 (_ : Params) : Obj := (.mk (.type "tuple") none (.seq #[(.str (.ofString "is_simple") 282), (.str (.ofString "n") 283), (.str (.ofString "norm") 284), (.str (.ofString "nt") 285), (.str (.ofString "raw") 286)] 0) #[])
noncomputable def o75_6 (P : Params) : Obj := (.mk (.type "dict") none (.dict #[(en P "__module__" 196 (.str (.ofString "cpy313.tabnanny") 187)), (en P "__firstlineno__" 200 (.int 2 199)), (en P "S" 204 (.str (.ofString " ") 202)), (en P "T" 205 (.str (.ofString "\t") 203)), (en P "__init__" 220 (.ref 31)), (en P "longest_run_of_spaces" 229 (.ref 38)), (en P "indent_level" 241 (.ref 45)), (en P "equal" 249 (.ref 52)), (en P "not_equal_witness" 260 (.ref 59)), (en P "less" 270 (.ref 66)), (en P "not_less_witness" 281 (.ref 73)), (en P "__static_attributes__" 287 (.ref 74)), (en P "__dict__" 289 (.ref 77)), (en P "__weakref__" 291 (.ref 78)), (en P "__doc__" 292 .none)] 4) #[])
noncomputable def o76_6 (_ : Params) : Obj := (.mk (.type "type") none (.cls (.mk (.ofString "Whitespace") [(.type "object")] [(.ref 76), (.type "object")] 75 (.ofString "Whitespace") true [] [] false none false)) #[none, none, (some (.str (.ofString "Whitespace") 189)), (some (.str (.ofString "Whitespace") 197)), (some (.builtin "object.__new__")), (some (.bool true))])
noncomputable def o77_6 (_ : Params) : Obj := (.mk (.type "getset_descriptor") none (.fields #[(.str (.ofString "__dict__") 288), (.ref 76), (.builtin "function.__dict__"), (.builtin "function.__dict__#set")]) #[])
noncomputable def o78_6 (_ : Params) : Obj := (.mk (.type "getset_descriptor") none (.fields #[(.str (.ofString "__weakref__") 290), (.ref 76), (.builtin "ExceptionGroup.__weakref__"), .none]) #[])
noncomputable def o79_6 (_ : Params) : Obj := (.mk (.type "super") none (.fields #[(.ref 76), (.ref 76), (.ref 76)]) #[])
noncomputable def o80_6 (_ : Params) : Obj := (.mk (.type "builtin_function_or_method") none (.fields #[(.builtin "object.__init_subclass__"), (.ref 76)]) #[])
noncomputable def o81_6 (_ : Params) : Obj := (.mk (.type "tuple") none (.seq #[] 0) #[])
noncomputable def o82_6 (_ : Params) : Obj := (.mk .none none (.fields #[]) #[])
noncomputable def o83_6 (_ : Params) : Obj := (.mk (.type "tuple") none (.seq #[(.str (.ofString "addr") 300), (.str (.ofString "pos") 301), (.str (.ofString "escape") 302), (.str (.ofString "ch") 303)] 0) #[])
noncomputable def o84_6 (_ : Params) : Obj := (.mk (.type "tuple") none (.seq #[] 0) #[])
noncomputable def o85_6 (_ : Params) : Obj := (.mk .none none (.func (.mk (.ofString "_iter_escaped_chars") (.ofString "_iter_escaped_chars") (fArgs (stm 3)) (.stmts (fBody (stm 3))) (fScope (stm 3)) 0 [] .none .none .none .none none .none .none 0)) #[])
noncomputable def o86_6 (_ : Params) : Obj := (.mk (.type "code") none (.fields #[(.str (.ofString "_iter_escaped_chars") 297), (.str (.ofString "_iter_escaped_chars") 298), (.str (.ofString "/claim/cut.py") 299), (.int 69 0), (.int 1 0), (.int 0 0), (.int 0 0), (.int 35 0), (.ref 81), (.bool true), (.int 181 0), (.ref 82), .none, (.ref 83), (.ref 84), (.ref 85), (.int 304 0), (.int 69 0), (.str (.ofString "/claim/cut.py") 305)]) #[])
noncomputable def o87_6 (_ : Params) : Obj := (.mk (.type "function") none (.func (.mk (.ofString "_iter_escaped_chars") (.ofString "_iter_escaped_chars") (fArgs (stm 3)) (.stmts (fBody (stm 3))) (fScope (stm 3)) 3 [] .none .none .none (.str (.ofString "cpy313.email.utils") 295) none (.ref 86) .none 0)) #[])
noncomputable def o88_6 (_ : Params) : Obj := (.mk (.type "tuple") none (.seq #[] 0) #[])
noncomputable def o89_6 (_ : Params) : Obj := (.mk .none none (.fields #[]) #[])
noncomputable def o90_6 (_ : Params) : Obj := (.mk (.type "tuple") none (.seq #[(.str (.ofString "addr") 310), (.str (.ofString "start") 311), (.str (.ofString "open_pos") 312), (.str (.ofString "result") 313), (.str (.ofString "pos") 314), (.str (.ofString "ch") 315)] 0) #[])
noncomputable def o91_6 (_ : Params) : Obj := (.mk (.type "tuple") none (.seq #[] 0) #[])
noncomputable def o92_6 (_ : Params) : Obj := (.mk .none none (.func (.mk (.ofString "_strip_quoted_realnames") (.ofString "_strip_quoted_realnames") (fArgs (stm 4)) (.stmts (fBody (stm 4))) (fScope (stm 4)) 0 [] .none .none .none .none none .none .none 0)) #[])
noncomputable def o93_6 (_ : Params) : Obj := (.mk (.type "code") none (.fields #[(.str (.ofString "_strip_quoted_realnames") 307), (.str (.ofString "_strip_quoted_realnames") 308), (.str (.ofString "/claim/cut.py") 309), (.int 82 0), (.int 1 0), (.int 0 0), (.int 0 0), (.int 3 0), (.ref 88), (.bool true), (.int 181 0), (.ref 89), .none, (.ref 90), (.ref 91), (.ref 92), (.int 316 0), (.int 82 0), (.str (.ofString "/claim/cut.py") 317)]) #[])
noncomputable def o94_6 (_ : Params) : Obj := (.mk (.type "function") none (.func (.mk (.ofString "_strip_quoted_realnames") (.ofString "_strip_quoted_realnames") (fArgs (stm 4)) (.stmts (fBody (stm 4))) (fScope (stm 4)) 3 [] .none .none .none (.str (.ofString "cpy313.email.utils") 295) none (.ref 93) .none 0)) #[])
noncomputable def o95_6 (_ : Params) : Obj := (.mk (.type "tuple") none (.seq #[] 0) #[])
noncomputable def o96_6 (_ : Params) : Obj := (.mk .none none (.fields #[]) #[])
noncomputable def o97_6 (_ : Params) : Obj := (.mk (.type "tuple") none (.seq #[(.str (.ofString "addr") 322), (.str (.ofString "opens") 323), (.str (.ofString "pos") 324), (.str (.ofString "ch") 325)] 0) #[])
noncomputable def o98_6 (_ : Params) : Obj := (.mk (.type "tuple") none (.seq #[] 0) #[])
noncomputable def o99_6 (_ : Params) : Obj := (.mk .none none (.func (.mk (.ofString "_check_parenthesis") (.ofString "_check_parenthesis") (fArgs (stm 5)) (.stmts (fBody (stm 5))) (fScope (stm 5)) 0 [] .none .none .none .none none .none .none 0)) #[])
noncomputable def o100_6 (_ : Params) : Obj := (.mk (.type "code") none (.fields #[(.str (.ofString "_check_parenthesis") 319), (.str (.ofString "_check_parenthesis") 320), (.str (.ofString "/claim/cut.py") 321), (.int 100 0), (.int 1 0), (.int 0 0), (.int 0 0), (.int 3 0), (.ref 95), (.bool true), (.int 181 0), (.ref 96), .none, (.ref 97), (.ref 98), (.ref 99), (.int 326 0), (.int 100 0), (.str (.ofString "/claim/cut.py") 327)]) #[])
noncomputable def o101_6 (_ : Params) : Obj := (.mk (.type "function") none (.func (.mk (.ofString "_check_parenthesis") (.ofString "_check_parenthesis") (fArgs (stm 5)) (.stmts (fBody (stm 5))) (fScope (stm 5)) 3 [] .none .none .none (.str (.ofString "cpy313.email.utils") 295) none (.ref 100) .none 0)) #[])
noncomputable def tree6 (P : Params) : BT := (.node (boot_o_0 P) (.node (boot_o_1 P) (.node (o3_6 P) (.node (boot_o_7 P) (.node (o15_6 P) (.node (o31_6 P) (.node (o63_6 P) .nil .nil) (.node (o95_6 P) .nil .nil)) (.node (o47_6 P) (.node (o79_6 P) .nil .nil) .nil)) (.node (o23_6 P) (.node (o39_6 P) (.node (o71_6 P) .nil .nil) .nil) (.node (o55_6 P) (.node (o87_6 P) .nil .nil) .nil))) (.node (o11_A P) (.node (o19_6 P) (.node (o35_6 P) (.node (o67_6 P) .nil .nil) (.node (o99_6 P) .nil .nil)) (.node (o51_6 P) (.node (o83_6 P) .nil .nil) .nil)) (.node (o27_6 P) (.node (o43_6 P) (.node (o75_6 P) .nil .nil) .nil) (.node (o59_6 P) (.node (o91_6 P) .nil .nil) .nil)))) (.node (boot_o_5 P) (.node (boot_o_9 P) (.node (o17_6 P) (.node (o33_6 P) (.node (o65_6 P) .nil .nil) (.node (o97_6 P) .nil .nil)) (.node (o49_6 P) (.node (o81_6 P) .nil .nil) .nil)) (.node (o25_6 P) (.node (o41_6 P) (.node (o73_6 P) .nil .nil) .nil) (.node (o57_6 P) (.node (o89_6 P) .nil .nil) .nil))) (.node (o13_A P) (.node (o21_6 P) (.node (o37_6 P) (.node (o69_6 P) .nil .nil) (.node (o101_6 P) .nil .nil)) (.node (o53_6 P) (.node (o85_6 P) .nil .nil) .nil)) (.node (o29_6 P) (.node (o45_6 P) (.node (o77_6 P) .nil .nil) .nil) (.node (o61_6 P) (.node (o93_6 P) .nil .nil) .nil))))) (.node (boot_o_2 P) (.node (boot_o_4 P) (.node (boot_o_8 P) (.node (o16_6 P) (.node (o32_6 P) (.node (o64_6 P) .nil .nil) (.node (o96_6 P) .nil .nil)) (.node (o48_6 P) (.node (o80_6 P) .nil .nil) .nil)) (.node (o24_6 P) (.node (o40_6 P) (.node (o72_6 P) .nil .nil) .nil) (.node (o56_6 P) (.node (o88_6 P) .nil .nil) .nil))) (.node (o12_6 P) (.node (o20_6 P) (.node (o36_6 P) (.node (o68_6 P) .nil .nil) (.node (o100_6 P) .nil .nil)) (.node (o52_6 P) (.node (o84_6 P) .nil .nil) .nil)) (.node (o28_6 P) (.node (o44_6 P) (.node (o76_6 P) .nil .nil) .nil) (.node (o60_6 P) (.node (o92_6 P) .nil .nil) .nil)))) (.node (boot_o_6 P) (.node (boot_o_10 P) (.node (o18_6 P) (.node (o34_6 P) (.node (o66_6 P) .nil .nil) (.node (o98_6 P) .nil .nil)) (.node (o50_6 P) (.node (o82_6 P) .nil .nil) .nil)) (.node (o26_6 P) (.node (o42_6 P) (.node (o74_6 P) .nil .nil) .nil) (.node (o58_6 P) (.node (o90_6 P) .nil .nil) .nil))) (.node (o14_A P) (.node (o22_6 P) (.node (o38_6 P) (.node (o70_6 P) .nil .nil) .nil) (.node (o54_6 P) (.node (o86_6 P) .nil .nil) .nil)) (.node (o30_6 P) (.node (o46_6 P) (.node (o78_6 P) .nil .nil) .nil) (.node (o62_6 P) (.node (o94_6 P) .nil .nil) .nil))))))
noncomputable def o3_7 (P : Params) : Obj := (.mk (.type "dict") none (.dict #[(en P "__name__" 165 (.str (.ofString "cpy313.stringprep") 329)), (en P "__doc__" 166 .none), (en P "__package__" 167 .none), (en P "__loader__" 168 (.builtin "__main__.__loader__#opaque")), (en P "__spec__" 169 .none), (en P "__annotations__" 170 (.ref 6)), (en P "__builtins__" 171 (.ref 4)), (en P "__file__" 173 (.str (.ofString "/claim/cut.py") 172)), (en P "__cached__" 174 .none), (en P "Whitespace" 294 (.ref 76)), (en P "_iter_escaped_chars" 306 (.ref 87)), (en P "_strip_quoted_realnames" 318 (.ref 94)), (en P "_check_parenthesis" 328 (.ref 101)), (en P "b1_set" 390 (.ref 109))] 14) #[])
noncomputable def o102_7 (_ : Params) : Obj := (.mk (.type "list") none (.seq #[(.int 173 331), (.int 847 332), (.int 6150 333), (.int 6155 334), (.int 6156 335), (.int 6157 336), (.int 8203 337), (.int 8204 338), (.int 8205 339), (.int 8288 340), (.int 65279 341)] 0) #[])
noncomputable def o103_7 (_ : Params) : Obj := (.mk (.type "range") none (.fields #[(.int 65024 342), (.int 65040 343), (.int 1 344)]) #[])
noncomputable def o104_7 (_ : Params) : Obj := (.mk (.type "list") none (.seq #[(.int 65024 347), (.int 65025 348), (.int 65026 349), (.int 65027 350), (.int 65028 351), (.int 65029 352), (.int 65030 353), (.int 65031 354), (.int 65032 355), (.int 65033 356), (.int 65034 357), (.int 65035 358), (.int 65036 359), (.int 65037 360), (.int 65038 361), (.int 65039 362)] 18) #[])
noncomputable def o105_7 (_ : Params) : Obj := (.mk (.type "range_iterator") none (.fields #[(.int 65040 0), (.int 0 0), (.int 1 0)]) #[])
noncomputable def o106_7 (_ : Params) : Obj := (.mk (.type "tuple") none (.seq #[] 0) #[])
noncomputable def o107_7 (_ : Params) : Obj := (.mk (.type "StopIteration") none (.fields #[(.ref 106), .none, .none, .none, (.bool false), .none]) #[])
noncomputable def o108_7 (_ : Params) : Obj := (.mk (.type "list") none (.seq #[(.int 173 331), (.int 847 332), (.int 6150 333), (.int 6155 334), (.int 6156 335), (.int 6157 336), (.int 8203 337), (.int 8204 338), (.int 8205 339), (.int 8288 340), (.int 65279 341), (.int 65024 347), (.int 65025 348), (.int 65026 349), (.int 65027 350), (.int 65028 351), (.int 65029 352), (.int 65030 353), (.int 65031 354), (.int 65032 355), (.int 65033 356), (.int 65034 357), (.int 65035 358), (.int 65036 359), (.int 65037 360), (.int 65038 361), (.int 65039 362)] 0) #[])
noncomputable def o109_7 (P : Params) : Obj := (.mk (.type "set") none (.set #[(65024, (.int 65024 347)), (65025, (.int 65025 348)), (65026, (.int 65026 349)), (65027, (.int 65027 350)), (65028, (.int 65028 351)), (65029, (.int 65029 352)), (6150, (.int 6150 333)), (65030, (.int 65030 353)), (65031, (.int 65031 354)), (65032, (.int 65032 355)), (65033, (.int 65033 356)), (6155, (.int 6155 334)), (6156, (.int 6156 335)), (6157, (.int 6157 336)), (8203, (.int 8203 337)), (8204, (.int 8204 338)), (8205, (.int 8205 339)), (65034, (.int 65034 357)), (65035, (.int 65035 358)), (65036, (.int 65036 359)), (65037, (.int 65037 360)), (65038, (.int 65038 361)), (65039, (.int 65039 362)), (173, (.int 173 331)), (847, (.int 847 332)), (8288, (.int 8288 340)), (65279, (.int 65279 341))] 29 (.mk 127 #[0, 1, 2, 3, 4, 5, 6, 7, 8, 9, 10, 11, 12, 13, 14, 15, 16, 17, 18, 19, 20, 21, 22, 45, 79, 96, 127] #[] 0 (!P.followText "set-order") 2 true)) #[])
noncomputable def o110_7 (_ : Params) : Obj := (.mk (.type "list_iterator") none (.fields #[.none, (.int 27 0)]) #[])
noncomputable def o111_7 (_ : Params) : Obj := (.mk (.type "tuple") none (.seq #[] 0) #[])
noncomputable def o112_7 (_ : Params) : Obj := (.mk (.type "StopIteration") none (.fields #[(.ref 111), .none, .none, .none, (.bool false), .none]) #[])
noncomputable def tree7 (P : Params) : BT := (.node (boot_o_0 P) (.node (boot_o_1 P) (.node (o3_7 P) (.node (boot_o_7 P) (.node (o15_6 P) (.node (o31_6 P) (.node (o63_6 P) .nil .nil) (.node (o95_6 P) .nil .nil)) (.node (o47_6 P) (.node (o79_6 P) .nil .nil) (.node (o111_7 P) .nil .nil))) (.node (o23_6 P) (.node (o39_6 P) (.node (o71_6 P) .nil .nil) (.node (o103_7 P) .nil .nil)) (.node (o55_6 P) (.node (o87_6 P) .nil .nil) .nil))) (.node (o11_A P) (.node (o19_6 P) (.node (o35_6 P) (.node (o67_6 P) .nil .nil) (.node (o99_6 P) .nil .nil)) (.node (o51_6 P) (.node (o83_6 P) .nil .nil) .nil)) (.node (o27_6 P) (.node (o43_6 P) (.node (o75_6 P) .nil .nil) (.node (o107_7 P) .nil .nil)) (.node (o59_6 P) (.node (o91_6 P) .nil .nil) .nil)))) (.node (boot_o_5 P) (.node (boot_o_9 P) (.node (o17_6 P) (.node (o33_6 P) (.node (o65_6 P) .nil .nil) (.node (o97_6 P) .nil .nil)) (.node (o49_6 P) (.node (o81_6 P) .nil .nil) .nil)) (.node (o25_6 P) (.node (o41_6 P) (.node (o73_6 P) .nil .nil) (.node (o105_7 P) .nil .nil)) (.node (o57_6 P) (.node (o89_6 P) .nil .nil) .nil))) (.node (o13_A P) (.node (o21_6 P) (.node (o37_6 P) (.node (o69_6 P) .nil .nil) (.node (o101_6 P) .nil .nil)) (.node (o53_6 P) (.node (o85_6 P) .nil .nil) .nil)) (.node (o29_6 P) (.node (o45_6 P) (.node (o77_6 P) .nil .nil) (.node (o109_7 P) .nil .nil)) (.node (o61_6 P) (.node (o93_6 P) .nil .nil) .nil))))) (.node (boot_o_2 P) (.node (boot_o_4 P) (.node (boot_o_8 P) (.node (o16_6 P) (.node (o32_6 P) (.node (o64_6 P) .nil .nil) (.node (o96_6 P) .nil .nil)) (.node (o48_6 P) (.node (o80_6 P) .nil .nil) (.node (o112_7 P) .nil .nil))) (.node (o24_6 P) (.node (o40_6 P) (.node (o72_6 P) .nil .nil) (.node (o104_7 P) .nil .nil)) (.node (o56_6 P) (.node (o88_6 P) .nil .nil) .nil))) (.node (o12_6 P) (.node (o20_6 P) (.node (o36_6 P) (.node (o68_6 P) .nil .nil) (.node (o100_6 P) .nil .nil)) (.node (o52_6 P) (.node (o84_6 P) .nil .nil) .nil)) (.node (o28_6 P) (.node (o44_6 P) (.node (o76_6 P) .nil .nil) (.node (o108_7 P) .nil .nil)) (.node (o60_6 P) (.node (o92_6 P) .nil .nil) .nil)))) (.node (boot_o_6 P) (.node (boot_o_10 P) (.node (o18_6 P) (.node (o34_6 P) (.node (o66_6 P) .nil .nil) (.node (o98_6 P) .nil .nil)) (.node (o50_6 P) (.node (o82_6 P) .nil .nil) .nil)) (.node (o26_6 P) (.node (o42_6 P) (.node (o74_6 P) .nil .nil) (.node (o106_7 P) .nil .nil)) (.node (o58_6 P) (.node (o90_6 P) .nil .nil) .nil))) (.node (o14_A P) (.node (o22_6 P) (.node (o38_6 P) (.node (o70_6 P) .nil .nil) (.node (o102_7 P) .nil .nil)) (.node (o54_6 P) (.node (o86_6 P) .nil .nil) .nil)) (.node (o30_6 P) (.node (o46_6 P) (.node (o78_6 P) .nil .nil) (.node (o110_7 P) .nil .nil)) (.node (o62_6 P) (.node (o94_6 P) .nil .nil) .nil))))))
noncomputable def o3_8 (P : Params) : Obj := (.mk (.type "dict") none (.dict #[(en P "__name__" 165 (.str (.ofString "cpy313.stringprep") 329)), (en P "__doc__" 166 .none), (en P "__package__" 167 .none), (en P "__loader__" 168 (.builtin "__main__.__loader__#opaque")), (en P "__spec__" 169 .none), (en P "__annotations__" 170 (.ref 6)), (en P "__builtins__" 171 (.ref 4)), (en P "__file__" 173 (.str (.ofString "/claim/cut.py") 172)), (en P "__cached__" 174 .none), (en P "Whitespace" 294 (.ref 76)), (en P "_iter_escaped_chars" 306 (.ref 87)), (en P "_strip_quoted_realnames" 318 (.ref 94)), (en P "_check_parenthesis" 328 (.ref 101)), (en P "b1_set" 390 (.ref 109)), (en P "in_table_b1" 397 (.ref 119))] 15) #[])
noncomputable def o12_8 (_ : Params) : Obj := (.mk .none none (.fields #[(.int 2 0), (.int 0 0), (.ref 20), (.int 69 0), (.int 0 0), (.ref 86), (.int 82 0), (.int 0 0), (.ref 93), (.int 100 0), (.int 0 0), (.ref 100), (.int 113 0), (.int 0 0), (.ref 118)]) #[])
noncomputable def o113_8 (_ : Params) : Obj := (.mk (.type "tuple") none (.seq #[] 0) #[])
noncomputable def o114_8 (_ : Params) : Obj := (.mk .none none (.fields #[]) #[])
noncomputable def o115_8 (_ : Params) : Obj := (.mk (.type "tuple") none (.seq #[(.str (.ofString "code") 394)] 0) #[])
noncomputable def o116_8 (_ : Params) : Obj := (.mk (.type "tuple") none (.seq #[] 0) #[])
noncomputable def o117_8 (_ : Params) : Obj := (.mk .none none (.func (.mk (.ofString "in_table_b1") (.ofString "in_table_b1") (fArgs (stm 8)) (.stmts (fBody (stm 8))) (fScope (stm 8)) 0 [] .none .none .none .none none .none .none 0)) #[])
noncomputable def o118_8 (_ : Params) : Obj := (.mk (.type "code") none (.fields #[(.str (.ofString "in_table_b1") 391), (.str (.ofString "in_table_b1") 392), (.str (.ofString "/claim/cut.py") 393), (.int 113 0), (.int 1 0), (.int 0 0), (.int 0 0), (.int 3 0), (.ref 113), (.bool true), (.int 181 0), (.ref 114), .none, (.ref 115), (.ref 116), (.ref 117), (.int 395 0), (.int 113 0), (.str (.ofString "/claim/cut.py") 396)]) #[])
noncomputable def o119_8 (_ : Params) : Obj := (.mk (.type "function") none (.func (.mk (.ofString "in_table_b1") (.ofString "in_table_b1") (fArgs (stm 8)) (.stmts (fBody (stm 8))) (fScope (stm 8)) 3 [] .none .none .none (.str (.ofString "cpy313.stringprep") 329) none (.ref 118) .none 0)) #[])
noncomputable def tree8 (P : Params) : BT := (.node (boot_o_0 P) (.node (boot_o_1 P) (.node (o3_8 P) (.node (boot_o_7 P) (.node (o15_6 P) (.node (o31_6 P) (.node (o63_6 P) .nil .nil) (.node (o95_6 P) .nil .nil)) (.node (o47_6 P) (.node (o79_6 P) .nil .nil) (.node (o111_7 P) .nil .nil))) (.node (o23_6 P) (.node (o39_6 P) (.node (o71_6 P) .nil .nil) (.node (o103_7 P) .nil .nil)) (.node (o55_6 P) (.node (o87_6 P) .nil .nil) (.node (o119_8 P) .nil .nil)))) (.node (o11_A P) (.node (o19_6 P) (.node (o35_6 P) (.node (o67_6 P) .nil .nil) (.node (o99_6 P) .nil .nil)) (.node (o51_6 P) (.node (o83_6 P) .nil .nil) (.node (o115_8 P) .nil .nil))) (.node (o27_6 P) (.node (o43_6 P) (.node (o75_6 P) .nil .nil) (.node (o107_7 P) .nil .nil)) (.node (o59_6 P) (.node (o91_6 P) .nil .nil) .nil)))) (.node (boot_o_5 P) (.node (boot_o_9 P) (.node (o17_6 P) (.node (o33_6 P) (.node (o65_6 P) .nil .nil) (.node (o97_6 P) .nil .nil)) (.node (o49_6 P) (.node (o81_6 P) .nil .nil) (.node (o113_8 P) .nil .nil))) (.node (o25_6 P) (.node (o41_6 P) (.node (o73_6 P) .nil .nil) (.node (o105_7 P) .nil .nil)) (.node (o57_6 P) (.node (o89_6 P) .nil .nil) .nil))) (.node (o13_A P) (.node (o21_6 P) (.node (o37_6 P) (.node (o69_6 P) .nil .nil) (.node (o101_6 P) .nil .nil)) (.node (o53_6 P) (.node (o85_6 P) .nil .nil) (.node (o117_8 P) .nil .nil))) (.node (o29_6 P) (.node (o45_6 P) (.node (o77_6 P) .nil .nil) (.node (o109_7 P) .nil .nil)) (.node (o61_6 P) (.node (o93_6 P) .nil .nil) .nil))))) (.node (boot_o_2 P) (.node (boot_o_4 P) (.node (boot_o_8 P) (.node (o16_6 P) (.node (o32_6 P) (.node (o64_6 P) .nil .nil) (.node (o96_6 P) .nil .nil)) (.node (o48_6 P) (.node (o80_6 P) .nil .nil) (.node (o112_7 P) .nil .nil))) (.node (o24_6 P) (.node (o40_6 P) (.node (o72_6 P) .nil .nil) (.node (o104_7 P) .nil .nil)) (.node (o56_6 P) (.node (o88_6 P) .nil .nil) .nil))) (.node (o12_8 P) (.node (o20_6 P) (.node (o36_6 P) (.node (o68_6 P) .nil .nil) (.node (o100_6 P) .nil .nil)) (.node (o52_6 P) (.node (o84_6 P) .nil .nil) (.node (o116_8 P) .nil .nil))) (.node (o28_6 P) (.node (o44_6 P) (.node (o76_6 P) .nil .nil) (.node (o108_7 P) .nil .nil)) (.node (o60_6 P) (.node (o92_6 P) .nil .nil) .nil)))) (.node (boot_o_6 P) (.node (boot_o_10 P) (.node (o18_6 P) (.node (o34_6 P) (.node (o66_6 P) .nil .nil) (.node (o98_6 P) .nil .nil)) (.node (o50_6 P) (.node (o82_6 P) .nil .nil) (.node (o114_8 P) .nil .nil))) (.node (o26_6 P) (.node (o42_6 P) (.node (o74_6 P) .nil .nil) (.node (o106_7 P) .nil .nil)) (.node (o58_6 P) (.node (o90_6 P) .nil .nil) .nil))) (.node (o14_A P) (.node (o22_6 P) (.node (o38_6 P) (.node (o70_6 P) .nil .nil) (.node (o102_7 P) .nil .nil)) (.node (o54_6 P) (.node (o86_6 P) .nil .nil) (.node (o118_8 P) .nil .nil))) (.node (o30_6 P) (.node (o46_6 P) (.node (o78_6 P) .nil .nil) (.node (o110_7 P) .nil .nil)) (.node (o62_6 P) (.node (o94_6 P) .nil .nil) .nil))))))
noncomputable def o3_9 (P : Params) : Obj := (.mk (.type "dict") none (.dict #[(en P "__name__" 165 (.str (.ofString "cpy313.stringprep") 329)), (en P "__doc__" 166 .none), (en P "__package__" 167 .none), (en P "__loader__" 168 (.builtin "__main__.__loader__#opaque")), (en P "__spec__" 169 .none), (en P "__annotations__" 170 (.ref 6)), (en P "__builtins__" 171 (.ref 4)), (en P "__file__" 173 (.str (.ofString "/claim/cut.py") 172)), (en P "__cached__" 174 .none), (en P "Whitespace" 294 (.ref 76)), (en P "_iter_escaped_chars" 306 (.ref 87)), (en P "_strip_quoted_realnames" 318 (.ref 94)), (en P "_check_parenthesis" 328 (.ref 101)), (en P "b1_set" 390 (.ref 109)), (en P "in_table_b1" 397 (.ref 119)), (en P "b3_exceptions" 2348 (.ref 120))] 16) #[])
noncomputable def tree9 (P : Params) : BT := (.node (boot_o_0 P) (.node (boot_o_1 P) (.node (o3_9 P) (.node (boot_o_7 P) (.node (o15_6 P) (.node (o31_6 P) (.node (o63_6 P) (.node ((subO 6) P) .nil .nil) .nil) (.node (o95_6 P) .nil .nil)) (.node (o47_6 P) (.node (o79_6 P) (.node ((subO 22) P) .nil .nil) .nil) (.node (o111_7 P) .nil .nil))) (.node (o23_6 P) (.node (o39_6 P) (.node (o71_6 P) (.node ((subO 14) P) .nil .nil) .nil) (.node (o103_7 P) .nil .nil)) (.node (o55_6 P) (.node (o87_6 P) (.node ((subO 30) P) .nil .nil) .nil) (.node (o119_8 P) .nil .nil)))) (.node (o11_A P) (.node (o19_6 P) (.node (o35_6 P) (.node (o67_6 P) (.node ((subO 10) P) .nil .nil) .nil) (.node (o99_6 P) .nil .nil)) (.node (o51_6 P) (.node (o83_6 P) (.node ((subO 26) P) .nil .nil) .nil) (.node (o115_8 P) .nil .nil))) (.node (o27_6 P) (.node (o43_6 P) (.node (o75_6 P) (.node ((subO 18) P) .nil .nil) .nil) (.node (o107_7 P) .nil .nil)) (.node (o59_6 P) (.node (o91_6 P) (.node ((subO 34) P) .nil .nil) .nil) (.node ((subO 2) P) .nil .nil))))) (.node (boot_o_5 P) (.node (boot_o_9 P) (.node (o17_6 P) (.node (o33_6 P) (.node (o65_6 P) (.node ((subO 8) P) .nil .nil) .nil) (.node (o97_6 P) .nil .nil)) (.node (o49_6 P) (.node (o81_6 P) (.node ((subO 24) P) .nil .nil) .nil) (.node (o113_8 P) .nil .nil))) (.node (o25_6 P) (.node (o41_6 P) (.node (o73_6 P) (.node ((subO 16) P) .nil .nil) .nil) (.node (o105_7 P) .nil .nil)) (.node (o57_6 P) (.node (o89_6 P) (.node ((subO 32) P) .nil .nil) .nil) (.node ((subO 0) P) .nil .nil)))) (.node (o13_A P) (.node (o21_6 P) (.node (o37_6 P) (.node (o69_6 P) (.node ((subO 12) P) .nil .nil) .nil) (.node (o101_6 P) .nil .nil)) (.node (o53_6 P) (.node (o85_6 P) (.node ((subO 28) P) .nil .nil) .nil) (.node (o117_8 P) .nil .nil))) (.node (o29_6 P) (.node (o45_6 P) (.node (o77_6 P) (.node ((subO 20) P) .nil .nil) .nil) (.node (o109_7 P) .nil .nil)) (.node (o61_6 P) (.node (o93_6 P) (.node ((subO 36) P) .nil .nil) .nil) (.node ((subO 4) P) .nil .nil)))))) (.node (boot_o_2 P) (.node (boot_o_4 P) (.node (boot_o_8 P) (.node (o16_6 P) (.node (o32_6 P) (.node (o64_6 P) (.node ((subO 7) P) .nil .nil) .nil) (.node (o96_6 P) .nil .nil)) (.node (o48_6 P) (.node (o80_6 P) (.node ((subO 23) P) .nil .nil) .nil) (.node (o112_7 P) .nil .nil))) (.node (o24_6 P) (.node (o40_6 P) (.node (o72_6 P) (.node ((subO 15) P) .nil .nil) .nil) (.node (o104_7 P) .nil .nil)) (.node (o56_6 P) (.node (o88_6 P) (.node ((subO 31) P) .nil .nil) .nil) (.node (o120 P) .nil .nil)))) (.node (o12_8 P) (.node (o20_6 P) (.node (o36_6 P) (.node (o68_6 P) (.node ((subO 11) P) .nil .nil) .nil) (.node (o100_6 P) .nil .nil)) (.node (o52_6 P) (.node (o84_6 P) (.node ((subO 27) P) .nil .nil) .nil) (.node (o116_8 P) .nil .nil))) (.node (o28_6 P) (.node (o44_6 P) (.node (o76_6 P) (.node ((subO 19) P) .nil .nil) .nil) (.node (o108_7 P) .nil .nil)) (.node (o60_6 P) (.node (o92_6 P) (.node ((subO 35) P) .nil .nil) .nil) (.node ((subO 3) P) .nil .nil))))) (.node (boot_o_6 P) (.node (boot_o_10 P) (.node (o18_6 P) (.node (o34_6 P) (.node (o66_6 P) (.node ((subO 9) P) .nil .nil) .nil) (.node (o98_6 P) .nil .nil)) (.node (o50_6 P) (.node (o82_6 P) (.node ((subO 25) P) .nil .nil) .nil) (.node (o114_8 P) .nil .nil))) (.node (o26_6 P) (.node (o42_6 P) (.node (o74_6 P) (.node ((subO 17) P) .nil .nil) .nil) (.node (o106_7 P) .nil .nil)) (.node (o58_6 P) (.node (o90_6 P) (.node ((subO 33) P) .nil .nil) .nil) (.node ((subO 1) P) .nil .nil)))) (.node (o14_A P) (.node (o22_6 P) (.node (o38_6 P) (.node (o70_6 P) (.node ((subO 13) P) .nil .nil) .nil) (.node (o102_7 P) .nil .nil)) (.node (o54_6 P) (.node (o86_6 P) (.node ((subO 29) P) .nil .nil) .nil) (.node (o118_8 P) .nil .nil))) (.node (o30_6 P) (.node (o46_6 P) (.node (o78_6 P) (.node ((subO 21) P) .nil .nil) .nil) (.node (o110_7 P) .nil .nil)) (.node (o62_6 P) (.node (o94_6 P) (.node ((subO 37) P) .nil .nil) .nil) (.node ((subO 5) P) .nil .nil)))))))
noncomputable def o3_13 (P : Params) : Obj := (.mk (.type "dict") none (.dict #[(en P "__name__" 165 (.str (.ofString "law_st0047_01") 2357)), (en P "__doc__" 166 .none), (en P "__package__" 167 .none), (en P "__loader__" 168 (.builtin "__main__.__loader__#opaque")), (en P "__spec__" 169 .none), (en P "__annotations__" 170 (.ref 6)), (en P "__builtins__" 171 (.ref 4)), (en P "__file__" 173 (.str (.ofString "/claim/cut.py") 172)), (en P "__cached__" 174 .none), (en P "Whitespace" 294 (.ref 76)), (en P "_iter_escaped_chars" 306 (.ref 87)), (en P "_strip_quoted_realnames" 318 (.ref 94)), (en P "_check_parenthesis" 328 (.ref 101)), (en P "b1_set" 390 (.ref 109)), (en P "in_table_b1" 397 (.ref 119)), (en P "b3_exceptions" 2348 (.ref 120)), (en P "map_table_b3" 2356 (.ref 165)), (en P "_law_sign" 2369 (.ref 172)), (en P "_law_piece" 2376 (.ref 179))] 19) #[])
noncomputable def o12_13 (_ : Params) : Obj := (.mk .none none (.fields #[(.int 2 0), (.int 0 0), (.ref 20), (.int 69 0), (.int 0 0), (.ref 86), (.int 82 0), (.int 0 0), (.ref 93), (.int 100 0), (.int 0 0), (.ref 100), (.int 113 0), (.int 0 0), (.ref 118), (.int 116 0), (.int 0 0), (.ref 164), (.int 122 0), (.int 0 0), (.ref 171), (.int 127 0), (.int 0 0), (.ref 178)]) #[])
noncomputable def o159_13 (_ : Params) : Obj := (.mk (.type "tuple") none (.seq #[] 0) #[])
noncomputable def o160_13 (_ : Params) : Obj := (.mk .none none (.fields #[]) #[])
noncomputable def o161_13 (_ : Params) : Obj := (.mk (.type "tuple") none (.seq #[(.str (.ofString "code") 2352), (.str (.ofString "r") 2353)] 0) #[])
noncomputable def o162_13 (_ : Params) : Obj := (.mk (.type "tuple") none (.seq #[] 0) #[])
noncomputable def o163_13 (_ : Params) : Obj := (.mk .none none (.func (.mk (.ofString "map_table_b3") (.ofString "map_table_b3") (fArgs (stm 10)) (.stmts (fBody (stm 10))) (fScope (stm 10)) 0 [] .none .none .none .none none .none .none 0)) #[])
noncomputable def o164_13 (_ : Params) : Obj := (.mk (.type "code") none (.fields #[(.str (.ofString "map_table_b3") 2349), (.str (.ofString "map_table_b3") 2350), (.str (.ofString "/claim/cut.py") 2351), (.int 116 0), (.int 1 0), (.int 0 0), (.int 0 0), (.int 3 0), (.ref 159), (.bool true), (.int 181 0), (.ref 160), .none, (.ref 161), (.ref 162), (.ref 163), (.int 2354 0), (.int 116 0), (.str (.ofString "/claim/cut.py") 2355)]) #[])
noncomputable def o165_13 (_ : Params) : Obj := (.mk (.type "function") none (.func (.mk (.ofString "map_table_b3") (.ofString "map_table_b3") (fArgs (stm 10)) (.stmts (fBody (stm 10))) (fScope (stm 10)) 3 [] .none .none .none (.str (.ofString "cpy313.stringprep") 329) none (.ref 164) .none 0)) #[])
noncomputable def o166_13 (_ : Params) : Obj := (.mk (.type "tuple") none (.seq #[] 0) #[])
noncomputable def o167_13 (_ : Params) : Obj := (.mk .none none (.fields #[]) #[])
noncomputable def o168_13 (_ : Params) : Obj := (.mk (.type "tuple") none (.seq #[(.str (.ofString "n") 2362), (.str (.ofString "alphabet") 2363), (.str (.ofString "code") 2364), (.str (.ofString "letters") 2365), (.str (.ofString "unseen") 2366)] 0) #[])
noncomputable def o169_13 (_ : Params) : Obj := (.mk (.type "tuple") none (.seq #[] 0) #[])
noncomputable def o170_13 (_ : Params) : Obj := (.mk .none none (.func (.mk (.ofString "_law_sign") (.ofString "_law_sign") (fArgs (stm 12)) (.stmts (fBody (stm 12))) (fScope (stm 12)) 0 [] .none .none .none .none none .none .none 0)) #[])
noncomputable def o171_13 (_ : Params) : Obj := (.mk (.type "code") none (.fields #[(.str (.ofString "_law_sign") 2359), (.str (.ofString "_law_sign") 2360), (.str (.ofString "/claim/cut.py") 2361), (.int 122 0), (.int 1 0), (.int 0 0), (.int 0 0), (.int 3 0), (.ref 166), (.bool true), (.int 181 0), (.ref 167), .none, (.ref 168), (.ref 169), (.ref 170), (.int 2367 0), (.int 122 0), (.str (.ofString "/claim/cut.py") 2368)]) #[])
noncomputable def o172_13 (_ : Params) : Obj := (.mk (.type "function") none (.func (.mk (.ofString "_law_sign") (.ofString "_law_sign") (fArgs (stm 12)) (.stmts (fBody (stm 12))) (fScope (stm 12)) 3 [] .none .none .none (.str (.ofString "law_st0047_01") 2357) none (.ref 171) .none 0)) #[])
noncomputable def o173_13 (_ : Params) : Obj := (.mk (.type "tuple") none (.seq #[] 0) #[])
noncomputable def o174_13 (_ : Params) : Obj := (.mk .none none (.fields #[]) #[])
noncomputable def o175_13 (_ : Params) : Obj := (.mk (.type "tuple") none (.seq #[(.str (.ofString "letter") 2373)] 0) #[])
noncomputable def o176_13 (_ : Params) : Obj := (.mk (.type "tuple") none (.seq #[] 0) #[])
noncomputable def o177_13 (_ : Params) : Obj := (.mk .none none (.func (.mk (.ofString "_law_piece") (.ofString "_law_piece") (fArgs (stm 13)) (.stmts (fBody (stm 13))) (fScope (stm 13)) 0 [] .none .none .none .none none .none .none 0)) #[])
noncomputable def o178_13 (_ : Params) : Obj := (.mk (.type "code") none (.fields #[(.str (.ofString "_law_piece") 2370), (.str (.ofString "_law_piece") 2371), (.str (.ofString "/claim/cut.py") 2372), (.int 127 0), (.int 1 0), (.int 0 0), (.int 0 0), (.int 3 0), (.ref 173), (.bool true), (.int 181 0), (.ref 174), .none, (.ref 175), (.ref 176), (.ref 177), (.int 2374 0), (.int 127 0), (.str (.ofString "/claim/cut.py") 2375)]) #[])
noncomputable def o179_13 (_ : Params) : Obj := (.mk (.type "function") none (.func (.mk (.ofString "_law_piece") (.ofString "_law_piece") (fArgs (stm 13)) (.stmts (fBody (stm 13))) (fScope (stm 13)) 3 [] .none .none .none (.str (.ofString "law_st0047_01") 2357) none (.ref 178) .none 0)) #[])
noncomputable def tree13 (P : Params) : BT := (.node (boot_o_0 P) (.node (boot_o_1 P) (.node (o3_13 P) (.node (boot_o_7 P) (.node (o15_6 P) (.node (o31_6 P) (.node (o63_6 P) (.node ((subO 6) P) .nil .nil) .nil) (.node (o95_6 P) (.node (o159_13 P) .nil .nil) .nil)) (.node (o47_6 P) (.node (o79_6 P) (.node ((subO 22) P) .nil .nil) .nil) (.node (o111_7 P) (.node (o175_13 P) .nil .nil) .nil))) (.node (o23_6 P) (.node (o39_6 P) (.node (o71_6 P) (.node ((subO 14) P) .nil .nil) .nil) (.node (o103_7 P) (.node (o167_13 P) .nil .nil) .nil)) (.node (o55_6 P) (.node (o87_6 P) (.node ((subO 30) P) .nil .nil) .nil) (.node (o119_8 P) .nil .nil)))) (.node (o11_A P) (.node (o19_6 P) (.node (o35_6 P) (.node (o67_6 P) (.node ((subO 10) P) .nil .nil) .nil) (.node (o99_6 P) (.node (o163_13 P) .nil .nil) .nil)) (.node (o51_6 P) (.node (o83_6 P) (.node ((subO 26) P) .nil .nil) .nil) (.node (o115_8 P) (.node (o179_13 P) .nil .nil) .nil))) (.node (o27_6 P) (.node (o43_6 P) (.node (o75_6 P) (.node ((subO 18) P) .nil .nil) .nil) (.node (o107_7 P) (.node (o171_13 P) .nil .nil) .nil)) (.node (o59_6 P) (.node (o91_6 P) (.node ((subO 34) P) .nil .nil) .nil) (.node ((subO 2) P) .nil .nil))))) (.node (boot_o_5 P) (.node (boot_o_9 P) (.node (o17_6 P) (.node (o33_6 P) (.node (o65_6 P) (.node ((subO 8) P) .nil .nil) .nil) (.node (o97_6 P) (.node (o161_13 P) .nil .nil) .nil)) (.node (o49_6 P) (.node (o81_6 P) (.node ((subO 24) P) .nil .nil) .nil) (.node (o113_8 P) (.node (o177_13 P) .nil .nil) .nil))) (.node (o25_6 P) (.node (o41_6 P) (.node (o73_6 P) (.node ((subO 16) P) .nil .nil) .nil) (.node (o105_7 P) (.node (o169_13 P) .nil .nil) .nil)) (.node (o57_6 P) (.node (o89_6 P) (.node ((subO 32) P) .nil .nil) .nil) (.node ((subO 0) P) .nil .nil)))) (.node (o13_A P) (.node (o21_6 P) (.node (o37_6 P) (.node (o69_6 P) (.node ((subO 12) P) .nil .nil) .nil) (.node (o101_6 P) (.node (o165_13 P) .nil .nil) .nil)) (.node (o53_6 P) (.node (o85_6 P) (.node ((subO 28) P) .nil .nil) .nil) (.node (o117_8 P) .nil .nil))) (.node (o29_6 P) (.node (o45_6 P) (.node (o77_6 P) (.node ((subO 20) P) .nil .nil) .nil) (.node (o109_7 P) (.node (o173_13 P) .nil .nil) .nil)) (.node (o61_6 P) (.node (o93_6 P) (.node ((subO 36) P) .nil .nil) .nil) (.node ((subO 4) P) .nil .nil)))))) (.node (boot_o_2 P) (.node (boot_o_4 P) (.node (boot_o_8 P) (.node (o16_6 P) (.node (o32_6 P) (.node (o64_6 P) (.node ((subO 7) P) .nil .nil) .nil) (.node (o96_6 P) (.node (o160_13 P) .nil .nil) .nil)) (.node (o48_6 P) (.node (o80_6 P) (.node ((subO 23) P) .nil .nil) .nil) (.node (o112_7 P) (.node (o176_13 P) .nil .nil) .nil))) (.node (o24_6 P) (.node (o40_6 P) (.node (o72_6 P) (.node ((subO 15) P) .nil .nil) .nil) (.node (o104_7 P) (.node (o168_13 P) .nil .nil) .nil)) (.node (o56_6 P) (.node (o88_6 P) (.node ((subO 31) P) .nil .nil) .nil) (.node (o120 P) .nil .nil)))) (.node (o12_13 P) (.node (o20_6 P) (.node (o36_6 P) (.node (o68_6 P) (.node ((subO 11) P) .nil .nil) .nil) (.node (o100_6 P) (.node (o164_13 P) .nil .nil) .nil)) (.node (o52_6 P) (.node (o84_6 P) (.node ((subO 27) P) .nil .nil) .nil) (.node (o116_8 P) .nil .nil))) (.node (o28_6 P) (.node (o44_6 P) (.node (o76_6 P) (.node ((subO 19) P) .nil .nil) .nil) (.node (o108_7 P) (.node (o172_13 P) .nil .nil) .nil)) (.node (o60_6 P) (.node (o92_6 P) (.node ((subO 35) P) .nil .nil) .nil) (.node ((subO 3) P) .nil .nil))))) (.node (boot_o_6 P) (.node (boot_o_10 P) (.node (o18_6 P) (.node (o34_6 P) (.node (o66_6 P) (.node ((subO 9) P) .nil .nil) .nil) (.node (o98_6 P) (.node (o162_13 P) .nil .nil) .nil)) (.node (o50_6 P) (.node (o82_6 P) (.node ((subO 25) P) .nil .nil) .nil) (.node (o114_8 P) (.node (o178_13 P) .nil .nil) .nil))) (.node (o26_6 P) (.node (o42_6 P) (.node (o74_6 P) (.node ((subO 17) P) .nil .nil) .nil) (.node (o106_7 P) (.node (o170_13 P) .nil .nil) .nil)) (.node (o58_6 P) (.node (o90_6 P) (.node ((subO 33) P) .nil .nil) .nil) (.node ((subO 1) P) .nil .nil)))) (.node (o14_A P) (.node (o22_6 P) (.node (o38_6 P) (.node (o70_6 P) (.node ((subO 13) P) .nil .nil) .nil) (.node (o102_7 P) (.node (o166_13 P) .nil .nil) .nil)) (.node (o54_6 P) (.node (o86_6 P) (.node ((subO 29) P) .nil .nil) .nil) (.node (o118_8 P) .nil .nil))) (.node (o30_6 P) (.node (o46_6 P) (.node (o78_6 P) (.node ((subO 21) P) .nil .nil) .nil) (.node (o110_7 P) (.node (o174_13 P) .nil .nil) .nil)) (.node (o62_6 P) (.node (o94_6 P) (.node ((subO 37) P) .nil .nil) .nil) (.node ((subO 5) P) .nil .nil)))))))
noncomputable def o3_17 (P : Params) : Obj := (.mk (.type "dict") none (.dict #[(en P "__name__" 165 (.str (.ofString "law_st0047_01") 2357)), (en P "__doc__" 166 .none), (en P "__package__" 167 .none), (en P "__loader__" 168 (.builtin "__main__.__loader__#opaque")), (en P "__spec__" 169 .none), (en P "__annotations__" 170 (.ref 6)), (en P "__builtins__" 171 (.ref 4)), (en P "__file__" 173 (.str (.ofString "/claim/cut.py") 172)), (en P "__cached__" 174 .none), (en P "Whitespace" 294 (.ref 76)), (en P "_iter_escaped_chars" 306 (.ref 87)), (en P "_strip_quoted_realnames" 318 (.ref 94)), (en P "_check_parenthesis" 328 (.ref 101)), (en P "b1_set" 390 (.ref 109)), (en P "in_table_b1" 397 (.ref 119)), (en P "b3_exceptions" 2348 (.ref 120)), (en P "map_table_b3" 2356 (.ref 165)), (en P "_law_sign" 2369 (.ref 172)), (en P "_law_piece" 2376 (.ref 179)), (en P "_law_ends" 2382 (.ref 184)), (en P "_law_factorial" 2391 (.ref 191)), (en P "_law_lead" 2397 (.ref 196)), (en P "law" 2403 (.ref 201))] 23) #[])
noncomputable def o12_17 (_ : Params) : Obj := (.mk .none none (.fields #[(.int 2 0), (.int 0 0), (.ref 20), (.int 69 0), (.int 0 0), (.ref 86), (.int 82 0), (.int 0 0), (.ref 93), (.int 100 0), (.int 0 0), (.ref 100), (.int 113 0), (.int 0 0), (.ref 118), (.int 116 0), (.int 0 0), (.ref 164), (.int 122 0), (.int 0 0), (.ref 171), (.int 127 0), (.int 0 0), (.ref 178), (.int 129 0), (.int 0 0), (.ref 183), (.int 142 0), (.int 0 0), (.ref 190), (.int 147 0), (.int 0 0), (.ref 195), (.int 149 0), (.int 0 0), (.ref 200)]) #[])
noncomputable def o180_17 (_ : Params) : Obj := (.mk (.type "tuple") none (.seq #[] 0) #[])
noncomputable def o181_17 (_ : Params) : Obj := (.mk .none none (.fields #[]) #[])
noncomputable def o182_17 (_ : Params) : Obj := (.mk .none none (.func (.mk (.ofString "_law_ends") (.ofString "_law_ends") (fArgs (stm 14)) (.stmts (fBody (stm 14))) (fScope (stm 14)) 0 [] .none .none .none .none none .none .none 0)) #[])
noncomputable def o183_17 (_ : Params) : Obj := (.mk (.type "code") none (.fields #[(.str (.ofString "_law_ends") 2377), (.str (.ofString "_law_ends") 2378), (.str (.ofString "/claim/cut.py") 2379), (.int 129 0), (.int 2 0), (.int 0 0), (.int 0 0), (.int 3 0), (.ref 180), (.bool true), (.int 181 0), (.ref 181), .none, .none, .none, (.ref 182), (.int 2380 0), (.int 129 0), (.str (.ofString "/claim/cut.py") 2381)]) #[])
noncomputable def o184_17 (_ : Params) : Obj := (.mk (.type "function") none (.func (.mk (.ofString "_law_ends") (.ofString "_law_ends") (fArgs (stm 14)) (.stmts (fBody (stm 14))) (fScope (stm 14)) 3 [] .none .none .none (.str (.ofString "law_st0047_01") 2357) none (.ref 183) .none 0)) #[])
noncomputable def o185_17 (_ : Params) : Obj := (.mk (.type "tuple") none (.seq #[] 0) #[])
noncomputable def o186_17 (_ : Params) : Obj := (.mk .none none (.fields #[]) #[])
noncomputable def o187_17 (_ : Params) : Obj := (.mk (.type "tuple") none (.seq #[(.str (.ofString "n") 2386), (.str (.ofString "whole") 2387), (.str (.ofString "k") 2388)] 0) #[])
noncomputable def o188_17 (_ : Params) : Obj := (.mk (.type "tuple") none (.seq #[] 0) #[])
noncomputable def o189_17 (_ : Params) : Obj := (.mk .none none (.func (.mk (.ofString "_law_factorial") (.ofString "_law_factorial") (fArgs (stm 15)) (.stmts (fBody (stm 15))) (fScope (stm 15)) 0 [] .none .none .none .none none .none .none 0)) #[])
noncomputable def o190_17 (_ : Params) : Obj := (.mk (.type "code") none (.fields #[(.str (.ofString "_law_factorial") 2383), (.str (.ofString "_law_factorial") 2384), (.str (.ofString "/claim/cut.py") 2385), (.int 142 0), (.int 1 0), (.int 0 0), (.int 0 0), (.int 3 0), (.ref 185), (.bool true), (.int 181 0), (.ref 186), .none, (.ref 187), (.ref 188), (.ref 189), (.int 2389 0), (.int 142 0), (.str (.ofString "/claim/cut.py") 2390)]) #[])
noncomputable def o191_17 (_ : Params) : Obj := (.mk (.type "function") none (.func (.mk (.ofString "_law_factorial") (.ofString "_law_factorial") (fArgs (stm 15)) (.stmts (fBody (stm 15))) (fScope (stm 15)) 3 [] .none .none .none (.str (.ofString "law_st0047_01") 2357) none (.ref 190) .none 0)) #[])
noncomputable def o192_17 (_ : Params) : Obj := (.mk (.type "tuple") none (.seq #[] 0) #[])
noncomputable def o193_17 (_ : Params) : Obj := (.mk .none none (.fields #[]) #[])
noncomputable def o194_17 (_ : Params) : Obj := (.mk .none none (.func (.mk (.ofString "_law_lead") (.ofString "_law_lead") (fArgs (stm 16)) (.stmts (fBody (stm 16))) (fScope (stm 16)) 0 [] .none .none .none .none none .none .none 0)) #[])
noncomputable def o195_17 (_ : Params) : Obj := (.mk (.type "code") none (.fields #[(.str (.ofString "_law_lead") 2392), (.str (.ofString "_law_lead") 2393), (.str (.ofString "/claim/cut.py") 2394), (.int 147 0), (.int 2 0), (.int 0 0), (.int 0 0), (.int 3 0), (.ref 192), (.bool true), (.int 181 0), (.ref 193), .none, .none, .none, (.ref 194), (.int 2395 0), (.int 147 0), (.str (.ofString "/claim/cut.py") 2396)]) #[])
noncomputable def o196_17 (_ : Params) : Obj := (.mk (.type "function") none (.func (.mk (.ofString "_law_lead") (.ofString "_law_lead") (fArgs (stm 16)) (.stmts (fBody (stm 16))) (fScope (stm 16)) 3 [] .none .none .none (.str (.ofString "law_st0047_01") 2357) none (.ref 195) .none 0)) #[])
noncomputable def o197_17 (_ : Params) : Obj := (.mk (.type "tuple") none (.seq #[] 0) #[])
noncomputable def o198_17 (_ : Params) : Obj := (.mk .none none (.fields #[]) #[])
noncomputable def o199_17 (_ : Params) : Obj := (.mk .none none (.func (.mk (.ofString "law") (.ofString "law") (fArgs (stm 17)) (.stmts (fBody (stm 17))) (fScope (stm 17)) 0 [] .none .none .none .none none .none .none 0)) #[])
noncomputable def o200_17 (_ : Params) : Obj := (.mk (.type "code") none (.fields #[(.str (.ofString "law") 2398), (.str (.ofString "law") 2399), (.str (.ofString "/claim/cut.py") 2400), (.int 149 0), (.int 1 0), (.int 0 0), (.int 0 0), (.int 3 0), (.ref 197), (.bool true), (.int 181 0), (.ref 198), .none, .none, .none, (.ref 199), (.int 2401 0), (.int 149 0), (.str (.ofString "/claim/cut.py") 2402)]) #[])
noncomputable def o201_17 (_ : Params) : Obj := (.mk (.type "function") none (.func (.mk (.ofString "law") (.ofString "law") (fArgs (stm 17)) (.stmts (fBody (stm 17))) (fScope (stm 17)) 3 [] .none .none .none (.str (.ofString "law_st0047_01") 2357) none (.ref 200) .none 0)) #[])
noncomputable def tree17 (P : Params) : BT := (.node (boot_o_0 P) (.node (boot_o_1 P) (.node (o3_17 P) (.node (boot_o_7 P) (.node (o15_6 P) (.node (o31_6 P) (.node (o63_6 P) (.node ((subO 6) P) .nil .nil) (.node (o191_17 P) .nil .nil)) (.node (o95_6 P) (.node (o159_13 P) .nil .nil) .nil)) (.node (o47_6 P) (.node (o79_6 P) (.node ((subO 22) P) .nil .nil) .nil) (.node (o111_7 P) (.node (o175_13 P) .nil .nil) .nil))) (.node (o23_6 P) (.node (o39_6 P) (.node (o71_6 P) (.node ((subO 14) P) .nil .nil) (.node (o199_17 P) .nil .nil)) (.node (o103_7 P) (.node (o167_13 P) .nil .nil) .nil)) (.node (o55_6 P) (.node (o87_6 P) (.node ((subO 30) P) .nil .nil) .nil) (.node (o119_8 P) (.node (o183_17 P) .nil .nil) .nil)))) (.node (o11_A P) (.node (o19_6 P) (.node (o35_6 P) (.node (o67_6 P) (.node ((subO 10) P) .nil .nil) (.node (o195_17 P) .nil .nil)) (.node (o99_6 P) (.node (o163_13 P) .nil .nil) .nil)) (.node (o51_6 P) (.node (o83_6 P) (.node ((subO 26) P) .nil .nil) .nil) (.node (o115_8 P) (.node (o179_13 P) .nil .nil) .nil))) (.node (o27_6 P) (.node (o43_6 P) (.node (o75_6 P) (.node ((subO 18) P) .nil .nil) .nil) (.node (o107_7 P) (.node (o171_13 P) .nil .nil) .nil)) (.node (o59_6 P) (.node (o91_6 P) (.node ((subO 34) P) .nil .nil) .nil) (.node ((subO 2) P) (.node (o187_17 P) .nil .nil) .nil))))) (.node (boot_o_5 P) (.node (boot_o_9 P) (.node (o17_6 P) (.node (o33_6 P) (.node (o65_6 P) (.node ((subO 8) P) .nil .nil) (.node (o193_17 P) .nil .nil)) (.node (o97_6 P) (.node (o161_13 P) .nil .nil) .nil)) (.node (o49_6 P) (.node (o81_6 P) (.node ((subO 24) P) .nil .nil) .nil) (.node (o113_8 P) (.node (o177_13 P) .nil .nil) .nil))) (.node (o25_6 P) (.node (o41_6 P) (.node (o73_6 P) (.node ((subO 16) P) .nil .nil) (.node (o201_17 P) .nil .nil)) (.node (o105_7 P) (.node (o169_13 P) .nil .nil) .nil)) (.node (o57_6 P) (.node (o89_6 P) (.node ((subO 32) P) .nil .nil) .nil) (.node ((subO 0) P) (.node (o185_17 P) .nil .nil) .nil)))) (.node (o13_A P) (.node (o21_6 P) (.node (o37_6 P) (.node (o69_6 P) (.node ((subO 12) P) .nil .nil) (.node (o197_17 P) .nil .nil)) (.node (o101_6 P) (.node (o165_13 P) .nil .nil) .nil)) (.node (o53_6 P) (.node (o85_6 P) (.node ((subO 28) P) .nil .nil) .nil) (.node (o117_8 P) (.node (o181_17 P) .nil .nil) .nil))) (.node (o29_6 P) (.node (o45_6 P) (.node (o77_6 P) (.node ((subO 20) P) .nil .nil) .nil) (.node (o109_7 P) (.node (o173_13 P) .nil .nil) .nil)) (.node (o61_6 P) (.node (o93_6 P) (.node ((subO 36) P) .nil .nil) .nil) (.node ((subO 4) P) (.node (o189_17 P) .nil .nil) .nil)))))) (.node (boot_o_2 P) (.node (boot_o_4 P) (.node (boot_o_8 P) (.node (o16_6 P) (.node (o32_6 P) (.node (o64_6 P) (.node ((subO 7) P) .nil .nil) (.node (o192_17 P) .nil .nil)) (.node (o96_6 P) (.node (o160_13 P) .nil .nil) .nil)) (.node (o48_6 P) (.node (o80_6 P) (.node ((subO 23) P) .nil .nil) .nil) (.node (o112_7 P) (.node (o176_13 P) .nil .nil) .nil))) (.node (o24_6 P) (.node (o40_6 P) (.node (o72_6 P) (.node ((subO 15) P) .nil .nil) (.node (o200_17 P) .nil .nil)) (.node (o104_7 P) (.node (o168_13 P) .nil .nil) .nil)) (.node (o56_6 P) (.node (o88_6 P) (.node ((subO 31) P) .nil .nil) .nil) (.node (o120 P) (.node (o184_17 P) .nil .nil) .nil)))) (.node (o12_17 P) (.node (o20_6 P) (.node (o36_6 P) (.node (o68_6 P) (.node ((subO 11) P) .nil .nil) (.node (o196_17 P) .nil .nil)) (.node (o100_6 P) (.node (o164_13 P) .nil .nil) .nil)) (.node (o52_6 P) (.node (o84_6 P) (.node ((subO 27) P) .nil .nil) .nil) (.node (o116_8 P) (.node (o180_17 P) .nil .nil) .nil))) (.node (o28_6 P) (.node (o44_6 P) (.node (o76_6 P) (.node ((subO 19) P) .nil .nil) .nil) (.node (o108_7 P) (.node (o172_13 P) .nil .nil) .nil)) (.node (o60_6 P) (.node (o92_6 P) (.node ((subO 35) P) .nil .nil) .nil) (.node ((subO 3) P) (.node (o188_17 P) .nil .nil) .nil))))) (.node (boot_o_6 P) (.node (boot_o_10 P) (.node (o18_6 P) (.node (o34_6 P) (.node (o66_6 P) (.node ((subO 9) P) .nil .nil) (.node (o194_17 P) .nil .nil)) (.node (o98_6 P) (.node (o162_13 P) .nil .nil) .nil)) (.node (o50_6 P) (.node (o82_6 P) (.node ((subO 25) P) .nil .nil) .nil) (.node (o114_8 P) (.node (o178_13 P) .nil .nil) .nil))) (.node (o26_6 P) (.node (o42_6 P) (.node (o74_6 P) (.node ((subO 17) P) .nil .nil) .nil) (.node (o106_7 P) (.node (o170_13 P) .nil .nil) .nil)) (.node (o58_6 P) (.node (o90_6 P) (.node ((subO 33) P) .nil .nil) .nil) (.node ((subO 1) P) (.node (o186_17 P) .nil .nil) .nil)))) (.node (o14_A P) (.node (o22_6 P) (.node (o38_6 P) (.node (o70_6 P) (.node ((subO 13) P) .nil .nil) (.node (o198_17 P) .nil .nil)) (.node (o102_7 P) (.node (o166_13 P) .nil .nil) .nil)) (.node (o54_6 P) (.node (o86_6 P) (.node ((subO 29) P) .nil .nil) .nil) (.node (o118_8 P) (.node (o182_17 P) .nil .nil) .nil))) (.node (o30_6 P) (.node (o46_6 P) (.node (o78_6 P) (.node ((subO 21) P) .nil .nil) .nil) (.node (o110_7 P) (.node (o174_13 P) .nil .nil) .nil)) (.node (o62_6 P) (.node (o94_6 P) (.node ((subO 37) P) .nil .nil) .nil) (.node ((subO 5) P) (.node (o190_17 P) .nil .nil) .nil)))))))
noncomputable def heap17 (P : Params) : Heap := ⟨#[boot_o_0 P, boot_o_1 P, boot_o_2 P, o3_17 P, boot_o_4 P, boot_o_5 P, boot_o_6 P, boot_o_7 P, boot_o_8 P, boot_o_9 P, boot_o_10 P, o11_A P, o12_17 P, o13_A P, o14_A P, o15_6 P, o16_6 P, o17_6 P, o18_6 P, o19_6 P, o20_6 P, o21_6 P, o22_6 P, o23_6 P, o24_6 P, o25_6 P, o26_6 P, o27_6 P, o28_6 P, o29_6 P, o30_6 P, o31_6 P, o32_6 P, o33_6 P, o34_6 P, o35_6 P, o36_6 P, o37_6 P, o38_6 P, o39_6 P, o40_6 P, o41_6 P, o42_6 P, o43_6 P, o44_6 P, o45_6 P, o46_6 P, o47_6 P, o48_6 P, o49_6 P, o50_6 P, o51_6 P, o52_6 P, o53_6 P, o54_6 P, o55_6 P, o56_6 P, o57_6 P, o58_6 P, o59_6 P, o60_6 P, o61_6 P, o62_6 P, o63_6 P, o64_6 P, o65_6 P, o66_6 P, o67_6 P, o68_6 P, o69_6 P, o70_6 P, o71_6 P, o72_6 P, o73_6 P, o74_6 P, o75_6 P, o76_6 P, o77_6 P, o78_6 P, o79_6 P, o80_6 P, o81_6 P, o82_6 P, o83_6 P, o84_6 P, o85_6 P, o86_6 P, o87_6 P, o88_6 P, o89_6 P, o90_6 P, o91_6 P, o92_6 P, o93_6 P, o94_6 P, o95_6 P, o96_6 P, o97_6 P, o98_6 P, o99_6 P, o100_6 P, o101_6 P, o102_7 P, o103_7 P, o104_7 P, o105_7 P, o106_7 P, o107_7 P, o108_7 P, o109_7 P, o110_7 P, o111_7 P, o112_7 P, o113_8 P, o114_8 P, o115_8 P, o116_8 P, o117_8 P, o118_8 P, o119_8 P, o120 P, (subO 0) P, (subO 1) P, (subO 2) P, (subO 3) P, (subO 4) P, (subO 5) P, (subO 6) P, (subO 7) P, (subO 8) P, (subO 9) P, (subO 10) P, (subO 11) P, (subO 12) P, (subO 13) P, (subO 14) P, (subO 15) P, (subO 16) P, (subO 17) P, (subO 18) P, (subO 19) P, (subO 20) P, (subO 21) P, (subO 22) P, (subO 23) P, (subO 24) P, (subO 25) P, (subO 26) P, (subO 27) P, (subO 28) P, (subO 29) P, (subO 30) P, (subO 31) P, (subO 32) P, (subO 33) P, (subO 34) P, (subO 35) P, (subO 36) P, (subO 37) P, o159_13 P, o160_13 P, o161_13 P, o162_13 P, o163_13 P, o164_13 P, o165_13 P, o166_13 P, o167_13 P, o168_13 P, o169_13 P, o170_13 P, o171_13 P, o172_13 P, o173_13 P, o174_13 P, o175_13 P, o176_13 P, o177_13 P, o178_13 P, o179_13 P, o180_17 P, o181_17 P, o182_17 P, o183_17 P, o184_17 P, o185_17 P, o186_17 P, o187_17 P, o188_17 P, o189_17 P, o190_17 P, o191_17 P, o192_17 P, o193_17 P, o194_17 P, o195_17 P, o196_17 P, o197_17 P, o198_17 P, o199_17 P, o200_17 P, o201_17 P], (@PySem.Life.mk [] [] [] 0 [] [] false #[] [] 0 false false false 0 [2000, 10, 10] false 0 true [] [] 0 false)⟩
noncomputable def K (P : Params) : Frag := [(nat_lit 2, boot_o_2 P), (nat_lit 3, o3_17 P), (nat_lit 25, o25_6 P), (nat_lit 27, o27_6 P), (nat_lit 28, o28_6 P), (nat_lit 30, o30_6 P), (nat_lit 31, o31_6 P), (nat_lit 32, o32_6 P), (nat_lit 34, o34_6 P), (nat_lit 35, o35_6 P), (nat_lit 37, o37_6 P), (nat_lit 38, o38_6 P), (nat_lit 39, o39_6 P), (nat_lit 41, o41_6 P), (nat_lit 42, o42_6 P), (nat_lit 44, o44_6 P), (nat_lit 45, o45_6 P), (nat_lit 46, o46_6 P), (nat_lit 48, o48_6 P), (nat_lit 49, o49_6 P), (nat_lit 51, o51_6 P), (nat_lit 52, o52_6 P), (nat_lit 53, o53_6 P), (nat_lit 55, o55_6 P), (nat_lit 56, o56_6 P), (nat_lit 58, o58_6 P), (nat_lit 59, o59_6 P), (nat_lit 60, o60_6 P), (nat_lit 62, o62_6 P), (nat_lit 63, o63_6 P), (nat_lit 65, o65_6 P), (nat_lit 66, o66_6 P), (nat_lit 67, o67_6 P), (nat_lit 69, o69_6 P), (nat_lit 70, o70_6 P), (nat_lit 72, o72_6 P), (nat_lit 73, o73_6 P), (nat_lit 74, o74_6 P), (nat_lit 75, o75_6 P), (nat_lit 76, o76_6 P), (nat_lit 77, o77_6 P), (nat_lit 78, o78_6 P), (nat_lit 81, o81_6 P), (nat_lit 83, o83_6 P), (nat_lit 84, o84_6 P), (nat_lit 86, o86_6 P), (nat_lit 87, o87_6 P), (nat_lit 88, o88_6 P), (nat_lit 90, o90_6 P), (nat_lit 91, o91_6 P), (nat_lit 93, o93_6 P), (nat_lit 94, o94_6 P), (nat_lit 95, o95_6 P), (nat_lit 97, o97_6 P), (nat_lit 98, o98_6 P), (nat_lit 100, o100_6 P), (nat_lit 101, o101_6 P), (nat_lit 109, o109_7 P), (nat_lit 113, o113_8 P), (nat_lit 115, o115_8 P), (nat_lit 116, o116_8 P), (nat_lit 118, o118_8 P), (nat_lit 119, o119_8 P), (nat_lit 120, o120 P), (nat_lit 159, o159_13 P), (nat_lit 161, o161_13 P), (nat_lit 162, o162_13 P), (nat_lit 164, o164_13 P), (nat_lit 165, o165_13 P), (nat_lit 166, o166_13 P), (nat_lit 168, o168_13 P), (nat_lit 169, o169_13 P), (nat_lit 171, o171_13 P), (nat_lit 172, o172_13 P), (nat_lit 173, o173_13 P), (nat_lit 175, o175_13 P), (nat_lit 176, o176_13 P), (nat_lit 178, o178_13 P), (nat_lit 179, o179_13 P), (nat_lit 180, o180_17 P), (nat_lit 183, o183_17 P), (nat_lit 184, o184_17 P), (nat_lit 185, o185_17 P), (nat_lit 187, o187_17 P), (nat_lit 188, o188_17 P), (nat_lit 190, o190_17 P), (nat_lit 191, o191_17 P), (nat_lit 192, o192_17 P), (nat_lit 195, o195_17 P), (nat_lit 196, o196_17 P), (nat_lit 197, o197_17 P), (nat_lit 200, o200_17 P), (nat_lit 201, o201_17 P)]
noncomputable def Kas : List Nat := [2, 3, 25, 27, 28, 30, 31, 32, 34, 35, 37, 38, 39, 41, 42, 44, 45, 46, 48, 49, 51, 52, 53, 55, 56, 58, 59, 60, 62, 63, 65, 66, 67, 69, 70, 72, 73, 74, 75, 76, 77, 78, 81, 83, 84, 86, 87, 88, 90, 91, 93, 94, 95, 97, 98, 100, 101, 109, 113, 115, 116, 118, 119, 120, 159, 161, 162, 164, 165, 166, 168, 169, 171, 172, 173, 175, 176, 178, 179, 180, 183, 184, 185, 187, 188, 190, 191, 192, 195, 196, 197, 200, 201]
noncomputable abbrev pD : Pos := ⟨115, 16, 115, 8704⟩
noncomputable def tailV (v : Value) : Sem Flow := do
  standAt ⟨115, 0, 115, 13⟩
  bindName env0 (.ofString "b3_exceptions") v
  pure .next
theorem b3_stm : stm 9 = .Assign [.Name (.ofString "b3_exceptions") ⟨115, 0, 115, 13⟩] (.Dict (dictOfStm (stm 9)).1 (dictOfStm (stm 9)).2.1 pD) ⟨115, 0, 115, 8704⟩ := by kernel_rfl
theorem b3_items : ((evalEachOpt (dictOfStm (stm 9)).1 env0).zip ((evalEach (dictOfStm (stm 9)).2.1 env0).map fun v => do let x ← v; standAt pD; pure x)) = lift pairs := by kernel_rfl
theorem b3_len : pairs.length = 650 := by kernel_rfl
theorem b3_exec : exec (stm 9) env0 = (standAt ⟨115, 0, 115, 8704⟩ >>= fun _ => standAt pD >>= fun _ => forIn (lift pairs) ((none : Option Addr), ([] : List PV)) BB >>= fun s => ddX.1.2 s >>= tailV) := by
  rw [b3_stm, exec_Assign_Name env0 _ _ _ _ (by rfl)]
  refine congrArg _ (funext fun _ => ?_)
  show (standAt pD >>= fun _ => dictDisplay _) >>= _ = _
  rw [b3_items, ddX.2]
  simp only [bind_assoc]
  rfl
theorem ck_eq (j : Nat) (h : 17 * j + 16 < 650) (main : Option Addr) : forIn (lift (pairs.drop (17 * j))) (main, ([] : List PV)) BB =
    (ckT j main >>= fun r => match r with | .done b => pure b | .yield b => forIn (lift (pairs.drop (17 * (j + 1)))) b BB) := by
  have hl : 17 * j + 16 < pairs.length := by rw [b3_len]; exact h
  have e1 : pairs.drop (17 * j + 16) = pairs[17 * j + 16] :: pairs.drop (17 * j + 16 + 1) := List.drop_eq_getElem_cons hl
  have e2 : pairs.drop (17 * j) = (pairs.drop (17 * j)).take 16 ++ pairs[17 * j + 16] :: pairs.drop (17 * (j + 1)) := by
    have := List.take_append_drop 16 (pairs.drop (17 * j))
    rw [List.drop_drop, show 17 * j + 16 = 17 * j + 16 from rfl, e1] at this
    rw [show 17 * (j + 1) = 17 * j + 16 + 1 by omega]
    exact this.symm
  have e3 : ckT j main = BB (some (pairs[17 * j + 16]).1, (pairs[17 * j + 16]).2) (main, (pairs.drop (17 * j)).take 16) := by
    unfold ckT; rw [← pairsN.2, e1]
  rw [e3]
  conv => lhs; rw [e2]
  rw [chunk main _ _ _ [] (by rw [List.length_nil, List.length_take, List.length_drop, b3_len]; omega), List.nil_append]
  refine congrArg _ (funext fun r => ?_)
  cases r <;> rfl
noncomputable abbrev TR (w : World) (N : Nat) (s : Shared) (t : Thread) : Option Shared := topRun treeTable pg w 11 (some (.ref 6)) N s t
theorem run_tree {α : Type} {w : World} (x : Sem α) (res : α → Flow) (K' : α → Sem PySem.Fin) (H' : Value → Sem PySem.Fin) {n : Nat} {s s' : SharedT} {p p' : Pos} {f : Flow}
    (h : SR w n s (thS x res p) = some (f, s', cd0, p')) :
    ∃ a, res a = f ∧ ∀ N r, TR w N s'.abs ⟨K' a, cd0, p', [topFrame q0]⟩ = some r → TR w (n + N) s.abs ⟨x.wrap K' H' id id, cd0, p, [topFrame q0]⟩ = some r :=
  seg_top (res := res) (K' := K') (H' := H') (B := [topFrame q0]) rfl n s.abs (thS x res p) ⟨x.wrap K' H' id id, cd0, p, [topFrame q0]⟩ _ _ _ _ ⟨rfl, rfl, .inl ⟨rfl, rfl, x, rfl, rfl⟩⟩ (segRun_of h)

theorem resY_inv {a : ForInStep (Option Addr × List PV)} {d : Addr} (h : resY a = .ret (.ref d)) : a = .yield (some d, []) := by
  cases a with
  | done b => cases h
  | yield b =>
    obtain ⟨m, l⟩ := b
    cases m <;> cases l <;> first | (cases h; rfl) | cases h
noncomputable def trX (m j : Nat) (P : Params) : BT := (List.range j).foldl (fun b i => b.ins (121 + i) (subO i P)) ((tree8 P).ins 120 (bigO m P))
noncomputable def stC (j : Nat) (w : World) (os : OsState) : SharedT := match j with
  | 0 => stT tree8 120 398 w os
  | j + 1 => stT (trX (j + 1) j) (121 + j) (449 + 51 * j) w os
noncomputable def stM (j : Nat) (w : World) (os : OsState) : SharedT := stT (trX j j) (121 + j) (449 + 51 * j) w os
noncomputable def mainC : Nat → Option Addr
  | 0 => none
  | _ + 1 => some 120
noncomputable def spX : { g : Addr → Addr → Sem (ForInStep (Option Addr × List PV)) // ∀ (k v : Sem Value) (d : Addr) (run : List PV), run.length + 1 = 17 →
    BB (some k, v) (some d, run) = (holding [.ref d] (PySem.W.Fast.tw11913375310210876947 (run ++ [(k, v)])) >>= fun sub => g d sub) } := ⟨fun d sub => _, by
  intro k v d run h
  show (if ((run ++ [(k, v)]).length == 17) = true then _ else _) = _
  rw [if_pos (by simp; omega)]
  show (if (run ++ [(k, v)]).isEmpty = true then _ else _) >>= _ = _
  rw [if_neg (by simp)]
  simp only [bind_assoc]
  rfl⟩
noncomputable def subT (j : Nat) : Sem Addr := holding [.ref 120] (PySem.W.Fast.tw11913375310210876947 ((pairsN.1.drop (17 * j)).take 17))
theorem ck_split (j : Nat) (h : 17 * j + 16 < 650) : ckT j (some 120) = (subT j >>= fun sub => spX.1 120 sub) := by
  have hl : 17 * j + 16 < pairsN.1.length := by rw [← pairsN.2, b3_len]; exact h
  have e1 : pairsN.1.drop (17 * j + 16) = pairsN.1[17 * j + 16] :: pairsN.1.drop (17 * j + 16 + 1) := List.drop_eq_getElem_cons hl
  have e2 : (pairsN.1.drop (17 * j)).take 17 = (pairsN.1.drop (17 * j)).take 16 ++ [pairsN.1[17 * j + 16]] := by
    rw [List.take_succ, List.getElem?_drop, List.getElem?_eq_getElem hl]; rfl
  unfold ckT subT
  rw [e1, e2]
  show BB (some _, _) (some 120, _) = _
  rw [spX.2 _ _ _ _ (by rw [List.length_take, List.length_drop]; omega)]
noncomputable def resA : Addr → Flow := fun a => .ret (.ref a)
theorem resA_inv {a d : Addr} (h : resA a = .ret (.ref d)) : a = d := by cases h; rfl
noncomputable abbrev SubR (w : World) (j : Nat) : Prop := (fun os => SR w 600 (stC j w os) (thS (subT j) resA pD)) = fun os => some (.ret (.ref (120 + j)), stM j w os, cd0, pD)
noncomputable abbrev MerR (w : World) (j : Nat) : Prop := (fun os => SR w 600 (stM j w os) (thS (spX.1 120 (120 + j)) resY pD)) = fun os => some (.ret (.ref 120), stC (j + 1) w os, cd0, pD)
noncomputable abbrev Chunk0 (w : World) : Prop := (fun os => SR w 600 (stC 0 w os) (thS (ckT 0 none) resY pD)) = fun os => some (.ret (.ref 120), stC 1 w os, cd0, pD)
structure Chunk (w : World) (j : Nat) : Prop where
  run : ∀ (os : OsState) (K' : ForInStep (Option Addr × List PV) → Sem PySem.Fin) (H' : Value → Sem PySem.Fin), ∃ n ≤ 1200, ∀ N r, TR w N (stC (j + 1) w os).abs ⟨K' (.yield (some 120, [])), cd0, pD, [topFrame q0]⟩ = some r →
    TR w (n + N) (stC j w os).abs ⟨(ckT j (mainC j)).wrap K' H' id id, cd0, pD, [topFrame q0]⟩ = some r
theorem chunk_zero {w : World} (c : Chunk0 w) : Chunk w 0 := ⟨fun os K' H' => by
  obtain ⟨a, ha, hN⟩ := run_tree (w := w) (ckT 0 none) resY K' H' (congrFun c os)
  obtain rfl := resY_inv ha
  exact ⟨600, by omega, hN⟩⟩
theorem chunk_succ {w : World} {j : Nat} (hj : 17 * (j + 1) + 16 < 650) (c : SubR w (j + 1)) (m : MerR w (j + 1)) : Chunk w (j + 1) := ⟨fun os K' H' => by
  refine ⟨1200, Nat.le_refl _, fun N r h => ?_⟩
  show TR w (1200 + N) _ ⟨(ckT (j + 1) (some 120)).wrap K' H' id id, cd0, pD, [topFrame q0]⟩ = some r
  rw [ck_split _ hj, Sem.bind_eq_wrap', Sem.wrap_wrap]
  obtain ⟨a, ha, hN⟩ := run_tree (w := w) (subT (j + 1)) resA (fun sub => (spX.1 120 sub).wrap K' H' id id) H' (congrFun c os)
  obtain rfl := resA_inv ha
  obtain ⟨b, hb, hM⟩ := run_tree (w := w) (spX.1 120 (120 + (j + 1))) resY K' H' (congrFun m os)
  obtain rfl := resY_inv hb
  rw [show 1200 + N = 600 + (600 + N) by omega]
  exact hN _ r (hM N r h)⟩
noncomputable abbrev afterC (j : Nat) : Sem Flow := forIn (lift (pairs.drop (17 * j))) (mainC j, ([] : List PV)) BB >>= fun s => ddX.1.2 s >>= tailV
theorem chunk_run (w : World) (os : OsState) (K : Flow → Sem PySem.Fin) (H : Value → Sem PySem.Fin) (j : Nat) (hj : 17 * j + 16 < 650) (c : Chunk w j) {N : Nat} {r : Shared}
    (h : TR w N (stC (j + 1) w os).abs ⟨(afterC (j + 1)).wrap K H id id, cd0, pD, [topFrame q0]⟩ = some r) : TR w (1200 + N) (stC j w os).abs ⟨(afterC j).wrap K H id id, cd0, pD, [topFrame q0]⟩ = some r := by
  have e : afterC j = (ckT j (mainC j) >>= fun r => match r with | .done b => (ddX.1.2 b >>= tailV) | .yield b => forIn (lift (pairs.drop (17 * (j + 1)))) b BB >>= fun s => ddX.1.2 s >>= tailV) := by
    show (forIn (lift (pairs.drop (17 * j))) (mainC j, ([] : List PV)) BB >>= fun s => ddX.1.2 s >>= tailV) = _
    rw [ck_eq j hj, bind_assoc]
    refine congrArg _ (funext fun r => ?_)
    cases r <;> first | rfl | simp
  rw [e, Sem.bind_eq_wrap', Sem.wrap_wrap]
  obtain ⟨n, hn, hN⟩ := c.run os (fun r => (match r with | .done b => (ddX.1.2 b >>= tailV) | .yield b => forIn (lift (pairs.drop (17 * (j + 1)))) b BB >>= fun s => ddX.1.2 s >>= tailV : Sem Flow).wrap K H id id) H
  have := hN N r h
  rw [show 1200 + N = (n + N) + (1200 - n) by omega]
  exact topRun_mono _ _ _ _ _ this
theorem chunks_run (w : World) (os : OsState) (K : Flow → Sem PySem.Fin) (H : Value → Sem PySem.Fin) (c : ∀ j, j < 38 → Chunk w j) {N : Nat} {r : Shared}
    (h : TR w N (stC 38 w os).abs ⟨(afterC 38).wrap K H id id, cd0, pD, [topFrame q0]⟩ = some r) : ∀ k, k ≤ 38 → TR w (1200 * k + N) (stC (38 - k) w os).abs ⟨(afterC (38 - k)).wrap K H id id, cd0, pD, [topFrame q0]⟩ = some r
  | 0, _ => by rw [Nat.mul_zero, Nat.zero_add]; exact h
  | k + 1, hk => by
    have ih := chunks_run w os K H c h k (by omega)
    have e : 38 - k = (38 - (k + 1)) + 1 := by omega
    rw [e] at ih
    have := chunk_run w os K H (38 - (k + 1)) (by omega) (c _ (by omega)) ih
    rw [show 1200 * (k + 1) + N = 1200 + (1200 * k + N) by omega]
    exact this
theorem after38 : afterC 38 = (ddX.1.2 (some 120, pairs.drop 646) >>= tailV) := by
  show (forIn (lift (pairs.drop (17 * 38))) (some 120, ([] : List PV)) BB >>= fun s => ddX.1.2 s >>= tailV) = _
  rw [tailB (some 120) _ [] (by rw [List.length_nil, List.length_drop, b3_len]; omega), pure_bind, List.nil_append]
noncomputable abbrev Tail (w : World) : Prop := (fun os => SR w 600 (stC 38 w os) (thS (ddX.1.2 (some 120, pairs.drop 646) >>= tailV) id pD)) = fun os => some (.next, stT tree9 159 2349 w os, cd0, ⟨115, 0, 115, 13⟩)
theorem b3_run (w : World) (os : OsState) (c : ∀ j, j < 38 → Chunk w j) (t : Tail w) {rest : List Stmt} {N : Nat} {r : Shared} {pos : Pos}
    (h : TR w N (stT tree9 159 2349 w os).abs (restOf rest env0 cd0 ⟨115, 0, 115, 13⟩ [topFrame q0]) = some r) :
    TR w (2 + (1200 * 38 + (600 + N))) (stT tree8 120 398 w os).abs (restOf (stm 9 :: rest) env0 cd0 pos [topFrame q0]) = some r := by
  unfold restOf
  rw [execs_cons_wrap, b3_exec]
  let K : Flow → Sem PySem.Fin := fun f => match f with | .next => (execs rest env0).wrap doneF (leaveH env0) id id | f => doneF f
  have k1 : TR w (600 + N) (stC 38 w os).abs ⟨(afterC 38).wrap K (leaveH env0) id id, cd0, pD, [topFrame q0]⟩ = some r := by
    rw [after38]
    obtain ⟨a, ha, hN⟩ := run_tree (w := w) (ddX.1.2 (some 120, pairs.drop 646) >>= tailV) id K (leaveH env0) (congrFun t os)
    obtain rfl : a = .next := ha
    exact hN N r h
  have k2 := chunks_run w os K (leaveH env0) c k1 38 (Nat.le_refl _)
  rw [show 2 + (1200 * 38 + (600 + N)) = (1200 * 38 + (600 + N)) + 1 + 1 by omega]
  exact k2

end Mine
end
-- HeadC
section
set_option maxHeartbeats 0
namespace Mine
theorem tw_SR (w : World) (n : Nat) (s : SharedT) (t : Thread) : SR w n s t = PySem.W.Fast.tw10110043849684766642 PySem.W.Fast.tw14364793385576792824 pg w 11 (some (.ref 6)) 1 n s t := by
  unfold SR
  rw [PySem.W.Fast.te10110043849684766642, PySem.W.Fast.te14364793385576792824]
theorem ch0f (w : World) : Chunk0 (yes false w) := by
  show (fun os => SR _ _ _ _) = _
  simp only [tw_SR]
  kernel_rfl
theorem su1f (w : World) : SubR (yes false w) 1 := by
  show (fun os => SR _ _ _ _) = _
  simp only [tw_SR]
  kernel_rfl
theorem su2f (w : World) : SubR (yes false w) 2 := by
  show (fun os => SR _ _ _ _) = _
  simp only [tw_SR]
  kernel_rfl
theorem su3f (w : World) : SubR (yes false w) 3 := by
  show (fun os => SR _ _ _ _) = _
  simp only [tw_SR]
  kernel_rfl
theorem su4f (w : World) : SubR (yes false w) 4 := by
  show (fun os => SR _ _ _ _) = _
  simp only [tw_SR]
  kernel_rfl
theorem su5f (w : World) : SubR (yes false w) 5 := by
  show (fun os => SR _ _ _ _) = _
  simp only [tw_SR]
  kernel_rfl
theorem su6f (w : World) : SubR (yes false w) 6 := by
  show (fun os => SR _ _ _ _) = _
  simp only [tw_SR]
  kernel_rfl
theorem su7f (w : World) : SubR (yes false w) 7 := by
  show (fun os => SR _ _ _ _) = _
  simp only [tw_SR]
  kernel_rfl
theorem su8f (w : World) : SubR (yes false w) 8 := by
  show (fun os => SR _ _ _ _) = _
  simp only [tw_SR]
  kernel_rfl
theorem su9f (w : World) : SubR (yes false w) 9 := by
  show (fun os => SR _ _ _ _) = _
  simp only [tw_SR]
  kernel_rfl
theorem su10f (w : World) : SubR (yes false w) 10 := by
  show (fun os => SR _ _ _ _) = _
  simp only [tw_SR]
  kernel_rfl
theorem su11f (w : World) : SubR (yes false w) 11 := by
  show (fun os => SR _ _ _ _) = _
  simp only [tw_SR]
  kernel_rfl
theorem su12f (w : World) : SubR (yes false w) 12 := by
  show (fun os => SR _ _ _ _) = _
  simp only [tw_SR]
  kernel_rfl
theorem su13f (w : World) : SubR (yes false w) 13 := by
  show (fun os => SR _ _ _ _) = _
  simp only [tw_SR]
  kernel_rfl
theorem su14f (w : World) : SubR (yes false w) 14 := by
  show (fun os => SR _ _ _ _) = _
  simp only [tw_SR]
  kernel_rfl
theorem su15f (w : World) : SubR (yes false w) 15 := by
  show (fun os => SR _ _ _ _) = _
  simp only [tw_SR]
  kernel_rfl
theorem su16f (w : World) : SubR (yes false w) 16 := by
  show (fun os => SR _ _ _ _) = _
  simp only [tw_SR]
  kernel_rfl
theorem su17f (w : World) : SubR (yes false w) 17 := by
  show (fun os => SR _ _ _ _) = _
  simp only [tw_SR]
  kernel_rfl
theorem su18f (w : World) : SubR (yes false w) 18 := by
  show (fun os => SR _ _ _ _) = _
  simp only [tw_SR]
  kernel_rfl
theorem su19f (w : World) : SubR (yes false w) 19 := by
  show (fun os => SR _ _ _ _) = _
  simp only [tw_SR]
  kernel_rfl
theorem su20f (w : World) : SubR (yes false w) 20 := by
  show (fun os => SR _ _ _ _) = _
  simp only [tw_SR]
  kernel_rfl
theorem su21f (w : World) : SubR (yes false w) 21 := by
  show (fun os => SR _ _ _ _) = _
  simp only [tw_SR]
  kernel_rfl
theorem su22f (w : World) : SubR (yes false w) 22 := by
  show (fun os => SR _ _ _ _) = _
  simp only [tw_SR]
  kernel_rfl
theorem su23f (w : World) : SubR (yes false w) 23 := by
  show (fun os => SR _ _ _ _) = _
  simp only [tw_SR]
  kernel_rfl
theorem su24f (w : World) : SubR (yes false w) 24 := by
  show (fun os => SR _ _ _ _) = _
  simp only [tw_SR]
  kernel_rfl
theorem su25f (w : World) : SubR (yes false w) 25 := by
  show (fun os => SR _ _ _ _) = _
  simp only [tw_SR]
  kernel_rfl
theorem su26f (w : World) : SubR (yes false w) 26 := by
  show (fun os => SR _ _ _ _) = _
  simp only [tw_SR]
  kernel_rfl
theorem su27f (w : World) : SubR (yes false w) 27 := by
  show (fun os => SR _ _ _ _) = _
  simp only [tw_SR]
  kernel_rfl
theorem su28f (w : World) : SubR (yes false w) 28 := by
  show (fun os => SR _ _ _ _) = _
  simp only [tw_SR]
  kernel_rfl
theorem su29f (w : World) : SubR (yes false w) 29 := by
  show (fun os => SR _ _ _ _) = _
  simp only [tw_SR]
  kernel_rfl
theorem su30f (w : World) : SubR (yes false w) 30 := by
  show (fun os => SR _ _ _ _) = _
  simp only [tw_SR]
  kernel_rfl
theorem su31f (w : World) : SubR (yes false w) 31 := by
  show (fun os => SR _ _ _ _) = _
  simp only [tw_SR]
  kernel_rfl
theorem su32f (w : World) : SubR (yes false w) 32 := by
  show (fun os => SR _ _ _ _) = _
  simp only [tw_SR]
  kernel_rfl
theorem su33f (w : World) : SubR (yes false w) 33 := by
  show (fun os => SR _ _ _ _) = _
  simp only [tw_SR]
  kernel_rfl
theorem su34f (w : World) : SubR (yes false w) 34 := by
  show (fun os => SR _ _ _ _) = _
  simp only [tw_SR]
  kernel_rfl
theorem su35f (w : World) : SubR (yes false w) 35 := by
  show (fun os => SR _ _ _ _) = _
  simp only [tw_SR]
  kernel_rfl
theorem su36f (w : World) : SubR (yes false w) 36 := by
  show (fun os => SR _ _ _ _) = _
  simp only [tw_SR]
  kernel_rfl
theorem su37f (w : World) : SubR (yes false w) 37 := by
  show (fun os => SR _ _ _ _) = _
  simp only [tw_SR]
  kernel_rfl
theorem taf (w : World) : Tail (yes false w) := by
  show (fun os => SR _ _ _ _) = _
  simp only [tw_SR]
  kernel_rfl
theorem ch0t (w : World) : Chunk0 (yes true w) := by
  show (fun os => SR _ _ _ _) = _
  simp only [tw_SR]
  kernel_rfl
theorem su1t (w : World) : SubR (yes true w) 1 := by
  show (fun os => SR _ _ _ _) = _
  simp only [tw_SR]
  kernel_rfl
theorem su2t (w : World) : SubR (yes true w) 2 := by
  show (fun os => SR _ _ _ _) = _
  simp only [tw_SR]
  kernel_rfl
theorem su3t (w : World) : SubR (yes true w) 3 := by
  show (fun os => SR _ _ _ _) = _
  simp only [tw_SR]
  kernel_rfl
theorem su4t (w : World) : SubR (yes true w) 4 := by
  show (fun os => SR _ _ _ _) = _
  simp only [tw_SR]
  kernel_rfl
theorem su5t (w : World) : SubR (yes true w) 5 := by
  show (fun os => SR _ _ _ _) = _
  simp only [tw_SR]
  kernel_rfl
theorem su6t (w : World) : SubR (yes true w) 6 := by
  show (fun os => SR _ _ _ _) = _
  simp only [tw_SR]
  kernel_rfl
theorem su7t (w : World) : SubR (yes true w) 7 := by
  show (fun os => SR _ _ _ _) = _
  simp only [tw_SR]
  kernel_rfl
theorem su8t (w : World) : SubR (yes true w) 8 := by
  show (fun os => SR _ _ _ _) = _
  simp only [tw_SR]
  kernel_rfl
theorem su9t (w : World) : SubR (yes true w) 9 := by
  show (fun os => SR _ _ _ _) = _
  simp only [tw_SR]
  kernel_rfl
theorem su10t (w : World) : SubR (yes true w) 10 := by
  show (fun os => SR _ _ _ _) = _
  simp only [tw_SR]
  kernel_rfl
theorem su11t (w : World) : SubR (yes true w) 11 := by
  show (fun os => SR _ _ _ _) = _
  simp only [tw_SR]
  kernel_rfl
theorem su12t (w : World) : SubR (yes true w) 12 := by
  show (fun os => SR _ _ _ _) = _
  simp only [tw_SR]
  kernel_rfl
theorem su13t (w : World) : SubR (yes true w) 13 := by
  show (fun os => SR _ _ _ _) = _
  simp only [tw_SR]
  kernel_rfl
theorem su14t (w : World) : SubR (yes true w) 14 := by
  show (fun os => SR _ _ _ _) = _
  simp only [tw_SR]
  kernel_rfl
theorem su15t (w : World) : SubR (yes true w) 15 := by
  show (fun os => SR _ _ _ _) = _
  simp only [tw_SR]
  kernel_rfl
theorem su16t (w : World) : SubR (yes true w) 16 := by
  show (fun os => SR _ _ _ _) = _
  simp only [tw_SR]
  kernel_rfl
theorem su17t (w : World) : SubR (yes true w) 17 := by
  show (fun os => SR _ _ _ _) = _
  simp only [tw_SR]
  kernel_rfl
theorem su18t (w : World) : SubR (yes true w) 18 := by
  show (fun os => SR _ _ _ _) = _
  simp only [tw_SR]
  kernel_rfl
theorem su19t (w : World) : SubR (yes true w) 19 := by
  show (fun os => SR _ _ _ _) = _
  simp only [tw_SR]
  kernel_rfl
theorem su20t (w : World) : SubR (yes true w) 20 := by
  show (fun os => SR _ _ _ _) = _
  simp only [tw_SR]
  kernel_rfl
theorem su21t (w : World) : SubR (yes true w) 21 := by
  show (fun os => SR _ _ _ _) = _
  simp only [tw_SR]
  kernel_rfl
theorem su22t (w : World) : SubR (yes true w) 22 := by
  show (fun os => SR _ _ _ _) = _
  simp only [tw_SR]
  kernel_rfl
theorem su23t (w : World) : SubR (yes true w) 23 := by
  show (fun os => SR _ _ _ _) = _
  simp only [tw_SR]
  kernel_rfl
theorem su24t (w : World) : SubR (yes true w) 24 := by
  show (fun os => SR _ _ _ _) = _
  simp only [tw_SR]
  kernel_rfl
theorem su25t (w : World) : SubR (yes true w) 25 := by
  show (fun os => SR _ _ _ _) = _
  simp only [tw_SR]
  kernel_rfl
theorem su26t (w : World) : SubR (yes true w) 26 := by
  show (fun os => SR _ _ _ _) = _
  simp only [tw_SR]
  kernel_rfl
theorem su27t (w : World) : SubR (yes true w) 27 := by
  show (fun os => SR _ _ _ _) = _
  simp only [tw_SR]
  kernel_rfl
theorem su28t (w : World) : SubR (yes true w) 28 := by
  show (fun os => SR _ _ _ _) = _
  simp only [tw_SR]
  kernel_rfl
theorem su29t (w : World) : SubR (yes true w) 29 := by
  show (fun os => SR _ _ _ _) = _
  simp only [tw_SR]
  kernel_rfl
theorem su30t (w : World) : SubR (yes true w) 30 := by
  show (fun os => SR _ _ _ _) = _
  simp only [tw_SR]
  kernel_rfl
theorem su31t (w : World) : SubR (yes true w) 31 := by
  show (fun os => SR _ _ _ _) = _
  simp only [tw_SR]
  kernel_rfl
theorem su32t (w : World) : SubR (yes true w) 32 := by
  show (fun os => SR _ _ _ _) = _
  simp only [tw_SR]
  kernel_rfl
theorem su33t (w : World) : SubR (yes true w) 33 := by
  show (fun os => SR _ _ _ _) = _
  simp only [tw_SR]
  kernel_rfl
theorem su34t (w : World) : SubR (yes true w) 34 := by
  show (fun os => SR _ _ _ _) = _
  simp only [tw_SR]
  kernel_rfl
theorem su35t (w : World) : SubR (yes true w) 35 := by
  show (fun os => SR _ _ _ _) = _
  simp only [tw_SR]
  kernel_rfl
theorem su36t (w : World) : SubR (yes true w) 36 := by
  show (fun os => SR _ _ _ _) = _
  simp only [tw_SR]
  kernel_rfl
theorem su37t (w : World) : SubR (yes true w) 37 := by
  show (fun os => SR _ _ _ _) = _
  simp only [tw_SR]
  kernel_rfl
theorem tat (w : World) : Tail (yes true w) := by
  show (fun os => SR _ _ _ _) = _
  simp only [tw_SR]
  kernel_rfl
theorem me1 (w : World) : MerR w 1 := by
  show (fun os => SR _ _ _ _) = _
  simp only [tw_SR]
  kernel_rfl
theorem me2 (w : World) : MerR w 2 := by
  show (fun os => SR _ _ _ _) = _
  simp only [tw_SR]
  kernel_rfl
theorem me3 (w : World) : MerR w 3 := by
  show (fun os => SR _ _ _ _) = _
  simp only [tw_SR]
  kernel_rfl
theorem me4 (w : World) : MerR w 4 := by
  show (fun os => SR _ _ _ _) = _
  simp only [tw_SR]
  kernel_rfl
theorem me5 (w : World) : MerR w 5 := by
  show (fun os => SR _ _ _ _) = _
  simp only [tw_SR]
  kernel_rfl
theorem me6 (w : World) : MerR w 6 := by
  show (fun os => SR _ _ _ _) = _
  simp only [tw_SR]
  kernel_rfl
theorem me7 (w : World) : MerR w 7 := by
  show (fun os => SR _ _ _ _) = _
  simp only [tw_SR]
  kernel_rfl
theorem me8 (w : World) : MerR w 8 := by
  show (fun os => SR _ _ _ _) = _
  simp only [tw_SR]
  kernel_rfl
theorem me9 (w : World) : MerR w 9 := by
  show (fun os => SR _ _ _ _) = _
  simp only [tw_SR]
  kernel_rfl
theorem me10 (w : World) : MerR w 10 := by
  show (fun os => SR _ _ _ _) = _
  simp only [tw_SR]
  kernel_rfl
theorem me11 (w : World) : MerR w 11 := by
  show (fun os => SR _ _ _ _) = _
  simp only [tw_SR]
  kernel_rfl
theorem me12 (w : World) : MerR w 12 := by
  show (fun os => SR _ _ _ _) = _
  simp only [tw_SR]
  kernel_rfl
theorem me13 (w : World) : MerR w 13 := by
  show (fun os => SR _ _ _ _) = _
  simp only [tw_SR]
  kernel_rfl
theorem me14 (w : World) : MerR w 14 := by
  show (fun os => SR _ _ _ _) = _
  simp only [tw_SR]
  kernel_rfl
theorem me15 (w : World) : MerR w 15 := by
  show (fun os => SR _ _ _ _) = _
  simp only [tw_SR]
  kernel_rfl
theorem me16 (w : World) : MerR w 16 := by
  show (fun os => SR _ _ _ _) = _
  simp only [tw_SR]
  kernel_rfl
theorem me17 (w : World) : MerR w 17 := by
  show (fun os => SR _ _ _ _) = _
  simp only [tw_SR]
  kernel_rfl
theorem me18 (w : World) : MerR w 18 := by
  show (fun os => SR _ _ _ _) = _
  simp only [tw_SR]
  kernel_rfl
theorem me19 (w : World) : MerR w 19 := by
  show (fun os => SR _ _ _ _) = _
  simp only [tw_SR]
  kernel_rfl
theorem me20 (w : World) : MerR w 20 := by
  show (fun os => SR _ _ _ _) = _
  simp only [tw_SR]
  kernel_rfl
theorem me21 (w : World) : MerR w 21 := by
  show (fun os => SR _ _ _ _) = _
  simp only [tw_SR]
  kernel_rfl
theorem me22 (w : World) : MerR w 22 := by
  show (fun os => SR _ _ _ _) = _
  simp only [tw_SR]
  kernel_rfl
theorem me23 (w : World) : MerR w 23 := by
  show (fun os => SR _ _ _ _) = _
  simp only [tw_SR]
  kernel_rfl
theorem me24 (w : World) : MerR w 24 := by
  show (fun os => SR _ _ _ _) = _
  simp only [tw_SR]
  kernel_rfl
theorem me25 (w : World) : MerR w 25 := by
  show (fun os => SR _ _ _ _) = _
  simp only [tw_SR]
  kernel_rfl
theorem me26 (w : World) : MerR w 26 := by
  show (fun os => SR _ _ _ _) = _
  simp only [tw_SR]
  kernel_rfl
theorem me27 (w : World) : MerR w 27 := by
  show (fun os => SR _ _ _ _) = _
  simp only [tw_SR]
  kernel_rfl
theorem me28 (w : World) : MerR w 28 := by
  show (fun os => SR _ _ _ _) = _
  simp only [tw_SR]
  kernel_rfl
theorem me29 (w : World) : MerR w 29 := by
  show (fun os => SR _ _ _ _) = _
  simp only [tw_SR]
  kernel_rfl
theorem me30 (w : World) : MerR w 30 := by
  show (fun os => SR _ _ _ _) = _
  simp only [tw_SR]
  kernel_rfl
theorem me31 (w : World) : MerR w 31 := by
  show (fun os => SR _ _ _ _) = _
  simp only [tw_SR]
  kernel_rfl
theorem me32 (w : World) : MerR w 32 := by
  show (fun os => SR _ _ _ _) = _
  simp only [tw_SR]
  kernel_rfl
theorem me33 (w : World) : MerR w 33 := by
  show (fun os => SR _ _ _ _) = _
  simp only [tw_SR]
  kernel_rfl
theorem me34 (w : World) : MerR w 34 := by
  show (fun os => SR _ _ _ _) = _
  simp only [tw_SR]
  kernel_rfl
theorem me35 (w : World) : MerR w 35 := by
  show (fun os => SR _ _ _ _) = _
  simp only [tw_SR]
  kernel_rfl
theorem me36 (w : World) : MerR w 36 := by
  show (fun os => SR _ _ _ _) = _
  simp only [tw_SR]
  kernel_rfl
theorem me37 (w : World) : MerR w 37 := by
  show (fun os => SR _ _ _ _) = _
  simp only [tw_SR]
  kernel_rfl

end Mine
end
-- HeadD
section
set_option maxHeartbeats 0
namespace Mine
noncomputable def T7 : List Stmt := [stm 0, stm 1, stm 2, stm 3, stm 4, stm 5, stm 6]
theorem p1k (b : Bool) (hb : b = false ∨ b = true) (w : World) : (fun os => SR (yes b w) 624 (stT treeB 15 187 w os) (th T7 q0)) = fun os => some (.next, stT tree6 102 331 w os, cd0, ⟨111, 0, 111, 8⟩) := by
  simp only [tw_SR]
  rcases hb with rfl | rfl
  · kernel_rfl
  · kernel_rfl
theorem p7k (b : Bool) (hb : b = false ∨ b = true) (w : World) : (fun os => SR (yes b w) 999 (stT tree6 102 331 w os) (th [stm 7] ⟨111, 0, 111, 8⟩)) = fun os => some (.next, stT tree7 113 391 w os, cd0, ⟨112, 0, 112, 6⟩) := by
  simp only [tw_SR]
  rcases hb with rfl | rfl
  · kernel_rfl
  · kernel_rfl
theorem p8k (w : World) : (fun os => SR w 30 (stT tree7 113 391 w os) (th [stm 8] ⟨112, 0, 112, 6⟩)) = fun os => some (.next, stT tree8 120 398 w os, cd0, ⟨113, 0, 114, 30⟩) := by
  simp only [tw_SR]
  kernel_rfl
theorem p13k (w : World) : (fun os => SR w 102 (stT tree9 159 2349 w os) (th [stm 10, stm 11, stm 12, stm 13] ⟨115, 0, 115, 13⟩)) = fun os => some (.next, stT tree13 180 2377 w os, cd0, ⟨127, 0, 128, 96⟩) := by
  simp only [tw_SR]
  kernel_rfl
theorem p17k (w : World) : (fun os => SR w 110 (stT tree13 180 2377 w os) (th [stm 14, stm 15, stm 16, stm 17] ⟨127, 0, 128, 96⟩)) = fun os => some (.next, stT tree17 202 2404 w os, cd0, ⟨149, 0, 188, 73⟩) := by
  simp only [tw_SR]
  kernel_rfl
noncomputable abbrev ann0 : Option Value := some (.ref 6)
noncomputable abbrev SA (w : World) (os : OsState) : Shared := ⟨heapA w.params, g0, dr, 187, os⟩
theorem prek (w : World) : (fun os => topGo treeTable pg w 11 ann0 12 ⟨boot_heap w.params, Array.mk [], boot_drawn, boot_toks, os⟩ (topStub pg)) = fun os => some (SA w os, ⟨denote treeTable cd0, cd0, q0, [topFrame q0]⟩) := by
  rw [PySem.W.Fast.te15667345088766844465, PySem.W.Fast.te11892475500146522536]
  kernel_rfl
theorem blockk (w : World) : (fun os => segRun treeTable pg w 11 ann0 1 1 (SA w os) (blockOf (behindTheImports pg) env0 cd0 q0 [topFrame q0])) = fun os => some (.next, (stT treeB 15 187 w os).abs, cd0, q0) := by
  kernel_rfl
noncomputable abbrev SF (w : World) (os : OsState) : Shared := ⟨heap17 w.params, g0, dr, 2404, os⟩
theorem fink (w : World) : (fun os => topRun treeTable pg w 11 ann0 20 (stT tree17 202 2404 w os).abs ⟨doneF .next, cd0, ⟨149, 0, 188, 73⟩, [topFrame q0]⟩) = fun os => some (SF w os) := by
  kernel_rfl
theorem body_is : behindTheImports pg = T7 ++ ([stm 7] ++ ([stm 8] ++ (stm 9 :: ([stm 10, stm 11, stm 12, stm 13] ++ ([stm 14, stm 15, stm 16, stm 17] ++ []))))) := by kernel_rfl
theorem run_yes (b : Bool) (hb : b = false ∨ b = true) (c : ∀ w j, j < 38 → Chunk (yes b w) j) (t : ∀ w, Tail (yes b w)) (w : World) (os : OsState) :
    topRun treeTable pg (yes b w) 11 ann0 60000 ⟨boot_heap w.params, Array.mk [], boot_drawn, boot_toks, os⟩ (topStub pg) = some (SF w os) := by
  have k1 : topRun treeTable pg (yes b w) 11 ann0 20 (stT tree17 202 2404 w os).abs (restOf [] env0 cd0 ⟨149, 0, 188, 73⟩ [topFrame q0]) = some (SF w os) := piece_nil (congrFun (fink (yes b w)) os)
  have k2 := piece_app (segRun_of (congrFun (p17k (yes b w)) os)) k1
  have k3 := piece_app (segRun_of (congrFun (p13k (yes b w)) os)) k2
  have k4 := b3_run (yes b w) os (c w) (t w) (pos := ⟨113, 0, 114, 30⟩) k3
  have k5 := piece_app (segRun_of (congrFun (p8k (yes b w)) os)) k4
  have k6 := piece_app (segRun_of (congrFun (p7k b hb w) os)) k5
  have k7 := piece_app (segRun_of (congrFun (p1k b hb w) os)) k6
  rw [← body_is] at k7
  have k8 := piece_block (c := cd0) (q := q0) (congrFun (blockk (yes b w)) os) k7
  have k9 := go_top (congrFun (prek (yes b w)) os) k8
  have := topRun_mono (60000 - (12 + (1 + (624 + (999 + (30 + (2 + (1200 * 38 + (600 + (102 + (110 + 20))))))))))) _ _ _ _ k9
  exact this
theorem run_all (c : ∀ b, b = false ∨ b = true → ∀ w j, j < 38 → Chunk (yes b w) j) (t : ∀ b, b = false ∨ b = true → ∀ w, Tail (yes b w)) (w : World) (os : OsState) :
    topRun treeTable pg w 11 ann0 60000 ⟨boot_heap w.params, Array.mk [], boot_drawn, boot_toks, os⟩ (topStub pg) = some (SF w os) := by
  refine byRow2 "special-get-raises" (P := fun w => topRun treeTable pg w 11 ann0 60000 ⟨boot_heap w.params, Array.mk [], boot_drawn, boot_toks, os⟩ (topStub pg) = some (SF w os)) (fun w => ?_) (fun w => ?_) w
  · exact run_yes false (.inl rfl) (c false (.inl rfl)) (t false (.inl rfl)) w os
  · exact run_yes true (.inr rfl) (c true (.inr rfl)) (t true (.inr rfl)) w os

end Mine
end
-- HeadE
section
set_option maxHeartbeats 0
namespace Mine
noncomputable def qv : Program := view pg [17]
noncomputable def lsn : List Str := ["Whitespace", "_iter_escaped_chars", "_strip_quoted_realnames", "_check_parenthesis", "b1_set", "in_table_b1", "b3_exceptions", "map_table_b3", "_law_sign", "_law_piece", "_law_ends", "_law_factorial", "_law_lead"]
theorem hk (P : Params) : Kas = (K P).map (·.1) := by kernel_rfl
noncomputable abbrev hook : Hook := kHook K Kas hk
noncomputable abbrev Xt0 (s : Shared) : Bool := xlAt qv [] s && recOk [] s
theorem size_k (w : World) : ((boot_heap w.params).isNs mainGlobals && (Array.mk [] : Array GenState).size == 0, (boot_heap w.params).objs.size, (boot_heap w.params).nsMap mainGlobals "__annotations__") = (true, 11, ann0) := by kernel_rfl
theorem look1 (w : World) : (fun os => (staticsOk (importedModules pg.main.body) (boot_heap w.params) (heap17 w.params) && namesBound pg (heap17 w.params) && gensDone (SF w os) && laidKept (boot_heap w.params) (heap17 w.params))) = fun _ => true := by kernel_rfl
theorem look3 (w : World) : (fun os => hook.obs (SF w os)) = fun _ => hook.val w := by kernel_rfl
theorem look2 (w : World) : (fun os => openSeen qv lsn (importedModules pg.main.body) Xt0 true (SF w os)) = fun _ => openGood qv lsn := by
  rw [PySem.W.Fast.te4187177175401517315]
  kernel_rfl
theorem my_left (c : ∀ b, b = false ∨ b = true → ∀ w j, j < 38 → Chunk (yes b w) j) (t : ∀ b, b = false ∨ b = true → ∀ w, Tail (yes b w)) : LeftO pg qv lsn Xt0 hook.obs hook.val 60000 := by
  refine LeftO.of_pieces (H₀ := boot_heap) (H₁ := heap17) (gs₀ := Array.mk []) (gs₁ := g0) (d₀ := boot_drawn) (d₁ := dr) (k₀ := boot_toks) (k₁ := 2404) (m₀ := 11) (ann := ann0) (M := 60000)
    (boot_open (by kernel_rfl) (by decide) (fun s => by kernel_rfl)) size_k (run_all c t) (by decide) (fun w => ?_)
  funext os
  have h1 := congrFun (look1 w) os
  have h2 := congrFun (look2 w) os
  have h3 := congrFun (look3 w) os
  exact Prod.ext h1 (Prod.ext h2 h3)
noncomputable def dLaw : DefRec := ((defOf qv ("law" : Str)).getD (⟨"", ⟨[], [], none, [], [], none, []⟩, [], { kind := .function, names := [], isGenerator := false, isCoroutine := false, more := [] }, ⟨0, 0, 0, 0⟩⟩, [])).1
abbrev rr : OpenRow := PySem.Challenge.rw_st0047_01.row
noncomputable abbrev rl : OpenLaw := PySem.Challenge.rw_st0047_01
theorem ws_1 : sreFenced rr.prog.main = true := by kernel_rfl
theorem ws_2 : ((moduleNames rr.prog.main.body).isEmpty || lookedIntoSs (moduleNames rr.prog.main.body) rr.prog.main.body) = true := by kernel_rfl
theorem ws_3 : namesResolve rr.prog = true := by kernel_rfl
theorem ws_4 : (rr.prog.boundNames.all (fun n => !worldNames.contains n)) = true := by kernel_rfl
theorem ws_5 : noRoadLSs { strict := !(importedModules rr.prog.main.body).all cThrough.contains, foot := none, bare := (["vars", "dir", "locals"] : List Str).filter (readsOut rr.prog rr.prog.main.body) } rr.prog.main.body = true := by kernel_rfl
theorem ws_6 : (namesMeet rr.prog rr.prog.main.body fun _ n => attrL n) = true := by kernel_rfl
theorem ws_l : looksOpen rr.prog = true := look_both (look_both (look_both (look_both (look_both ws_1 ws_2) ws_3) ws_4) ws_5) ws_6
theorem ws_p : rr.partSaid = true := by
  unfold OpenRow.partSaid
  rw [ws_l]
  kernel_rfl
theorem ws_r : rr.wellSaid = true := by
  unfold OpenRow.wellSaid
  rw [ws_p]
  kernel_rfl
theorem ws : rl.wellSaid = true := by
  unfold OpenLaw.wellSaid
  rw [show rl.row.wellSaid = true from ws_r]
  kernel_rfl
theorem head (c : ∀ b, b = false ∨ b = true → ∀ w j, j < 38 → Chunk (yes b w) j) (t : ∀ b, b = false ∨ b = true → ∀ w, Tail (yes b w))
    (walk : WalkO qv lsn (XL qv []) hook.says rr.toRowW dLaw [] fun f vs => PySem.call f vs) : PySem.Challenge.rw_st0047_01.Holds := by
  w_on
  refine holds_law ws fun said => ?_
  refine PySem.W.holds_open (r := rr) (q := qv) (loose := lsn) (Xt := Xt0) (XP := XL qv []) (Yf := hook.obs) (Ya := hook.val) (YP := hook.says) (d := dLaw) (kwd := []) (N := 60000) (my_left c t) hook.of hook.keeps
    (fun s e => xl_of s (Bool.and_eq_true_iff.mp e).1) XL.keeps (by kernel_rfl) (by kernel_rfl) (by kernel_rfl) (fun s e => recFacts_of (Bool.and_eq_true_iff.mp e).2) (by rfl) (by assumption) (by decide +kernel) ⟨rfl, rfl, rfl, rfl, rfl, by decide +kernel⟩ ?_ walk
  w_witness2

end Mine
end
-- MiB
section
namespace Mine.MI
inductive V where
  | none
  | bool (b : Bool)
  | int (i : Int)
  | lin (a b : Int)
  | si (k : Nat)
  | str (s : List Nat)
  | ss (l : List Nat)
  | scr
  | tup (xs : List V)
  | lst (xs : List V)
  | dct (ks : List (List Nat)) (xs : List V)
  | obj (xs : List V)
inductive Slot where
  | val (d : V)
  | own (d : V)
noncomputable abbrev Rho := List (Nat × Slot)
noncomputable abbrev D := Rho → Option V
inductive Fl where | next | brk | ret (d : V)
noncomputable abbrev DS := Rho → Option (Rho × Fl)
noncomputable abbrev DB := Rho → Option Bool
noncomputable abbrev DI := Rho → Option (List V)
noncomputable def fieldNm : Nat → Str
  | 0 => "raw" | 1 => "n" | 2 => "nt" | 3 => "norm" | _ => "is_simple"

noncomputable def get (x : Nat) : Rho → Option Slot
  | [] => none
  | (y, s) :: r => match Nat.beq x y with
    | true => some s
    | false => get x r
noncomputable def put (x : Nat) (s : Slot) : Rho → Rho
  | [] => [(x, s)]
  | (y, t) :: r => match Nat.beq x y with
    | true => (x, s) :: r
    | false => (y, t) :: put x s r

noncomputable def ob {α β : Type} (o : Option α) (f : α → Option β) : Option β := match o with | some a => f a | none => none
noncomputable def chk {α : Type} (b : Bool) (a : Option α) : Option α := match b with | true => a | false => none

noncomputable def cInt (i : Int) : D := fun _ => some (.int i)
noncomputable def cStr (s : List Nat) : D := fun _ => some (.str s)
noncomputable def cBool (b : Bool) : D := fun _ => some (.bool b)
noncomputable def cNone : D := fun _ => some .none
noncomputable def var (x : Nat) : D := fun ρ => match get x ρ with
  | some (.val d) => some d
  | _ => none
noncomputable def bop (f : V → V → Option V) (a b : D) : D := fun ρ => ob (a ρ) fun x => ob (b ρ) fun y => f x y
noncomputable def un (f : V → Option V) (a : D) : D := fun ρ => ob (a ρ) f

noncomputable def lim : Nat := 1048576
noncomputable def smallI : Int → Bool
  | .ofNat a => Nat.ble a lim
  | .negSucc a => Nat.ble a lim
noncomputable def leI : Int → Int → Bool
  | .ofNat a, .ofNat b => Nat.ble a b
  | .negSucc a, .negSucc b => Nat.ble b a
  | .negSucc _, .ofNat _ => true
  | .ofNat _, .negSucc _ => false
noncomputable def eqI : Int → Int → Bool
  | .ofNat a, .ofNat b => Nat.beq a b
  | .negSucc a, .negSucc b => Nat.beq a b
  | _, _ => false
noncomputable def eqL : List Nat → List Nat → Bool
  | [], [] => true
  | a :: r, b :: t => match Nat.beq a b with
    | true => eqL r t
    | false => false
  | _, _ => false
noncomputable def okLen {α β : Type} (a : List α) (b : List β) : Bool := Nat.ble (a.length + b.length) 10000

noncomputable def add : V → V → Option V
  | .int a, .int b => some (.int (a + b))
  | .int a, .lin c d => some (.lin (a + c) d)
  | .lin c d, .int a => some (.lin (c + a) d)
  | .str a, .str b => chk (okLen a b) (some (.str (a ++ b)))
  | .lst a, .lst b => chk (okLen a b) (some (.lst (a ++ b)))
  | _, _ => none
noncomputable def addL : V → V → Option V
  | .lst a, .lst b => chk (okLen a b) (some (.lst (a ++ b)))
  | _, _ => none
noncomputable def sub : V → V → Option V
  | .int a, .int b => some (.int (a - b))
  | _, _ => none
noncomputable def rep {α : Type} (l : List α) : Nat → List α
  | 0 => []
  | n + 1 => l ++ rep l n
noncomputable def mul : V → V → Option V
  | .int a, .int b => chk (smallI b) (some (.int (a * b)))
  | .int a, .lin c d => chk (smallI a) (some (.lin (a * c) (a * d)))
  | .lin c d, .int a => chk (smallI a) (some (.lin (c * a) (d * a)))
  | .lst a, .int (.ofNat n) => chk (Nat.ble n 256 && Nat.ble (a.length * n) 256) (some (.lst (rep a n)))
  | .str a, .int (.ofNat n) => chk (Nat.ble n 1000 && Nat.ble a.length 1000) (some (.str (rep a n)))
  | _, _ => none
noncomputable def fdiv : V → V → Option V
  | .int (.ofNat a), .lin (.ofNat 0) (.ofNat 1) => chk (Nat.blt a 10) (some (.int (.ofNat 0)))
  | .int (.ofNat a), .int (.ofNat b) => chk (Nat.blt 0 b && Nat.ble b lim) (some (.int (.ofNat (a / b))))
  | .int (.negSucc a), .int (.ofNat b) => chk (Nat.blt 0 b && Nat.ble b lim) (some (.int (.negSucc (a / b))))
  | _, _ => none
noncomputable def pow : V → V → Option V
  | .int (.ofNat a), .int (.ofNat n) => chk (Nat.ble 2 a && (Nat.ble a 1000 && Nat.ble n 1000)) (some (.int (.ofNat (a ^ n))))
  | _, _ => none
noncomputable def max2 (a b : V) : Option V := match a, b with
  | .int a, .int b => some (.int (match leI b a with | true => a | false => b))
  | _, _ => none

noncomputable def toB (f : V → V → Option Bool) (a b : D) : DB := fun ρ => ob (a ρ) fun x => ob (b ρ) fun y => f x y
noncomputable def nt (f : V → V → Option Bool) (a b : V) : Option Bool := ob (f a b) fun b => some (!b)
noncomputable def ofB (b : DB) : D := fun ρ => ob (b ρ) fun b => some (.bool b)

mutual
noncomputable def okV : Nat → V → Bool
  | _, .dct _ _ => false
  | _, .obj _ => false
  | _, .scr => false
  | n, .tup xs => match n with | 0 => false | m + 1 => okVs m xs
  | n, .lst xs => match n with | 0 => false | m + 1 => okVs m xs
  | _, _ => true
noncomputable def okVs : Nat → List V → Bool
  | _, [] => true
  | n, x :: xs => match okV n x with | true => okVs n xs | false => false
end
mutual
noncomputable def eqV : V → V → Option Bool
  | .none, .none => some true
  | .bool a, .bool b => some (a == b)
  | .int a, .int b => some (eqI a b)
  | .lin a b, .lin c d => match eqI a c, eqI b d with | true, true => some true | _, _ => none
  | .str a, .str b => some (eqL a b)
  | .ss a, .ss b => match eqL a b with | true => some true | false => none
  | .tup a, .tup b => eqVs a b
  | .lst a, .lst b => eqVs a b
  | _, _ => none
noncomputable def eqVs : List V → List V → Option Bool
  | [], [] => some true
  | a :: r, b :: t => match eqV a b with
    | some true => eqVs r t
    | some false => some false
    | none => none
  | _, _ => some false
end
noncomputable def eqT (a b : V) : Option Bool := chk (okV 4 a && okV 4 b) (eqV a b)
noncomputable def neT (a b : V) : Option Bool := nt eqT a b
noncomputable def neD : V → V → Option Bool
  | .dct [] _, .dct [] _ => some false
  | .dct (_ :: _) _, .dct [] _ => some true
  | _, _ => none
noncomputable def isV : V → V → Option Bool
  | .bool a, .bool b => some (a == b)
  | _, _ => none
noncomputable def isntV (a b : V) : Option Bool := nt isV a b
noncomputable def leV : V → V → Option Bool
  | .int a, .int b => some (leI a b)
  | _, _ => none
noncomputable def geV (a b : V) : Option Bool := leV b a
noncomputable def inV : V → V → Option Bool
  | .str [a], .str l => some (l.any (Nat.beq a))
  | _, _ => none
noncomputable def tru (e : D) : DB := fun ρ => match e ρ with
  | some (.bool b) => some b
  | _ => none
noncomputable def andB (a b : DB) : DB := fun ρ => match a ρ with | some true => b ρ | r => r
noncomputable def orB (a b : DB) : DB := fun ρ => match a ρ with | some false => b ρ | r => r
noncomputable def ite (t : DB) (a b : D) : D := fun ρ => match t ρ with | some true => a ρ | some false => b ρ | none => none

noncomputable def nth {α : Type} : List α → Nat → Option α
  | [], _ => none
  | a :: r, n => match n with | 0 => some a | m + 1 => nth r m
noncomputable def dget (k : List Nat) : List (List Nat) → List V → Option V
  | j :: ks, x :: xs => match eqL j k with | true => some x | false => dget k ks xs
  | _, _ => none
noncomputable def item : V → V → Option V
  | .lst l, .int (.ofNat n) => chk (Nat.ble n 10000) (nth l n)
  | .tup l, .int (.ofNat n) => chk (Nat.ble n 10000) (nth l n)
  | .str l, .int (.ofNat n) => chk (Nat.ble n 10000) (ob (nth l n) fun c => some (.str [c]))
  | .dct ks xs, .str k => dget k ks xs
  | _, _ => none
noncomputable def cutL {α : Type} (l : List α) (a b : Nat) : List α := (l.drop a).take (b - a)
noncomputable def slc (x : V) (a : Option V) (b : Option V) : Option V := match x, a, b with
  | .str l, none, some (.int (.ofNat j)) => chk (Nat.ble j l.length && Nat.ble l.length 10000) (some (.str (l.take j)))
  | .str l, some (.int (.ofNat i)), none => chk (Nat.ble i l.length && Nat.ble l.length 10000) (some (.str (l.drop i)))
  | .str l, some (.int (.ofNat i)), some (.int (.ofNat j)) => chk (Nat.ble i j && (Nat.ble j l.length && Nat.ble l.length 10000)) (some (.str (cutL l i j)))
  | .lst l, some (.int (.ofNat i)), none => chk (Nat.ble l.length 10000) (some (.lst (l.drop i)))
  | _, _, _ => none
noncomputable def sliceH (v h : D) : D := fun ρ => ob (v ρ) fun x => ob (h ρ) fun b => slc x none (some b)
noncomputable def sliceL (v l : D) : D := fun ρ => ob (v ρ) fun x => ob (l ρ) fun a => slc x (some a) none
noncomputable def slice (v l h : D) : D := fun ρ => ob (v ρ) fun x => ob (l ρ) fun a => ob (h ρ) fun b => slc x (some a) (some b)
noncomputable def attr (x : D) (f : Nat) : D := fun ρ => match x ρ with
  | some (.obj xs) => nth xs f
  | _ => none
noncomputable def lenV : V → Option V
  | .tup l => chk (Nat.ble l.length 10000) (some (.int (.ofNat l.length)))
  | .lst l => chk (Nat.ble l.length 10000) (some (.int (.ofNat l.length)))
  | .str l => chk (Nat.ble l.length 10000) (some (.int (.ofNat l.length)))
  | _ => none
noncomputable def sumL : List V → Int → Option Int
  | [], a => some a
  | .int i :: r, a => sumL r (a + i)
  | _, _ => none
noncomputable def sumV : V → Option V
  | .lst l => chk (Nat.ble l.length 10000) (ob (sumL l 0) fun i => some (.int i))
  | _ => none
noncomputable def tupV : V → Option V
  | .lst l => chk (Nat.ble l.length 10000) (some (.tup l))
  | _ => none
noncomputable def maxL : List V → Int → Option Int
  | [], a => some a
  | .int i :: r, a => maxL r (match leI i a with | true => a | false => i)
  | _, _ => none
noncomputable def max1 : V → Option V
  | .lst (.int a :: r) => chk (Nat.ble r.length 10000) (ob (maxL r a) fun i => some (.int i))
  | _ => none
noncomputable def joinL : List V → Option (List Nat)
  | [] => some []
  | .str s :: r => ob (joinL r) fun t => some (s ++ t)
  | _ => none
noncomputable def joinS : List V → Option (List Nat)
  | [] => some []
  | .ss s :: r => ob (joinS r) fun t => some (s ++ t)
  | _ => none
noncomputable def joinV : V → Option V
  | .lst [] => some (.str [])
  | .lst (.ss s :: r) => chk (Nat.ble r.length 10) (ob (joinS (.ss s :: r)) fun s => chk (Nat.ble s.length 100) (some (.ss s)))
  | .lst l => chk (Nat.ble l.length 10000) (ob (joinL l) fun s => chk (Nat.ble s.length 10000) (some (.str s)))
  | _ => none
noncomputable def splitL (c : Nat) : List Nat → List Nat → List V
  | [], acc => [.str acc.reverse]
  | a :: r, acc => match Nat.beq a c with | true => .str acc.reverse :: splitL c r [] | false => splitL c r (a :: acc)
noncomputable def splitV (c : Nat) : V → Option V
  | .str l => chk (Nat.ble l.length 10000) (some (.lst (splitL c l [])))
  | _ => none
noncomputable def evs : List D → Rho → Option (List V)
  | [], _ => some []
  | e :: r, ρ => ob (e ρ) fun v => ob (evs r ρ) fun vs => some (v :: vs)
noncomputable def tupE (es : List D) : D := fun ρ => ob (evs es ρ) fun vs => some (.tup vs)
noncomputable def lstE (es : List D) : D := fun ρ => ob (evs es ρ) fun vs => some (.lst vs)
noncomputable def strKeys : List V → Option (List (List Nat))
  | [] => some []
  | .str k :: r => ob (strKeys r) fun t => some (k :: t)
  | _ => none
noncomputable def memK (k : List Nat) : List (List Nat) → Bool
  | [] => false
  | j :: r => match eqL j k with | true => true | false => memK k r
noncomputable def nodupK : List (List Nat) → Bool
  | [] => true
  | k :: r => match memK k r with | true => false | false => nodupK r
/-- a dict display of different string keys; `es` is key, value, key, value .. -/
noncomputable def kvE : List (D × D) → Rho → Option (List V × List V)
  | [], _ => some ([], [])
  | (k, v) :: r, ρ => ob (k ρ) fun k => ob (v ρ) fun v => ob (kvE r ρ) fun t => some (k :: t.1, v :: t.2)
noncomputable def dctE (kvs : List (D × D)) : D := fun ρ => ob (kvE kvs ρ) fun t => ob (strKeys t.1) fun ks => chk (nodupK ks) (some (.dct ks t.2))
noncomputable def getV : V → V → V → Option V
  | .dct ks xs, .str k, d => some (match dget k ks xs with | some v => v | none => d)
  | _, _, _ => none
noncomputable def getD (x k d : D) : D := fun ρ => ob (x ρ) fun a => ob (k ρ) fun b => ob (d ρ) fun c => getV a b c
noncomputable def flat : V → Bool
  | .none | .bool _ | .int _ | .lin _ _ | .str _ => true
  | _ => false
noncomputable def peek (x : Nat) (e : D) : D := fun ρ => match get x ρ with
  | some (.own d) => match e (put x (.val d) ρ) with
    | some v => chk (flat v) (some v)
    | none => none
  | _ => none
noncomputable def rangeL (a : Nat) : Nat → List V
  | 0 => []
  | n + 1 => .int (.ofNat a) :: rangeL (a + 1) n
noncomputable def range1 (e : D) : DI := fun ρ => match e ρ with
  | some (.int (.ofNat n)) => chk (Nat.ble n 10000) (some (rangeL 0 n))
  | some (.int (.negSucc n)) => chk (Nat.ble n 10000) (some [])
  | _ => none
noncomputable def range2 (a b : D) : DI := fun ρ => ob (a ρ) fun x => ob (b ρ) fun y => match x, y with
  | .int (.ofNat a), .int (.ofNat b) => chk (Nat.ble a lim && Nat.ble b 10000) (some (rangeL a (b - a)))
  | .lin (.ofNat 0) (.ofNat 1), .int (.ofNat b) => chk (Nat.ble b 10) (some [])
  | _, _ => none
noncomputable def enumL (i : Nat) : List V → List V
  | [] => []
  | x :: r => .tup [.int (.ofNat i), x] :: enumL (i + 1) r
noncomputable def enumI (e : D) : DI := fun ρ => match e ρ with
  | some (.lst l) => chk (Nat.ble l.length 10000) (some (enumL 0 l))
  | _ => none
noncomputable def strL : List Nat → List V
  | [] => []
  | c :: r => .str [c] :: strL r
noncomputable def ssL : List Nat → Option (List V)
  | [] => some []
  | c :: r => chk (Nat.blt c 10) (ob (ssL r) fun t => some (.ss [c] :: t))
noncomputable def keysL : List (List Nat) → List V
  | [] => []
  | k :: r => .str k :: keysL r
noncomputable def items : V → Option (List V)
  | .lst l => chk (Nat.ble l.length 10000) (some l)
  | .str l => chk (Nat.ble l.length 10000) (some (strL l))
  | .ss l => chk (Nat.ble l.length 10000) (ssL l)
  | .dct ks _ => chk (Nat.ble ks.length 10000) (some (keysL ks))
  | _ => none
noncomputable def ofI (e : D) : DI := fun ρ => ob (e ρ) items
noncomputable def puts : List Nat → List V → Rho → Option Rho
  | [], [], ρ => some ρ
  | x :: xs, v :: vs, ρ => puts xs vs (put x (.val v) ρ)
  | _, _, _ => none
noncomputable def putT (t : List Nat) (v : V) (ρ : Rho) : Option Rho := match t with
  | [x] => some (put x (.val v) ρ)
  | xs => match v with
    | .tup vs => puts xs vs ρ
    | _ => none
noncomputable def allB : List DB → DB
  | [], _ => some true
  | b :: r, ρ => match b ρ with | some true => allB r ρ | some false => some false | none => none
noncomputable def pick : List Nat → Rho → Option Rho
  | [], _ => some []
  | x :: r, ρ => match get x ρ with
    | some (.val d) => ob (pick r ρ) fun t => some ((x, .val d) :: t)
    | _ => none
noncomputable def compL (t : List Nat) (ifs : List DB) (k : Rho → Option (List V)) (ρ : Rho) : List V → Option (List V)
  | [] => some []
  | v :: r => ob (putT t v ρ) fun ρ' => match allB ifs ρ' with
    | some true => ob (k ρ') fun a => ob (compL t ifs k ρ r) fun b => some (a ++ b)
    | some false => compL t ifs k ρ r
    | none => none
noncomputable def one (elt : D) (ρ : Rho) : Option (List V) := ob (elt ρ) fun v => some [v]
noncomputable def comp1 (cap : List Nat) (t : List Nat) (it : DI) (ifs : List DB) (elt : D) : D := fun ρ => ob (it ρ) fun xs => ob (pick cap ρ) fun ρ =>
  ob (compL t ifs (one elt) ρ xs) fun l => chk (Nat.ble l.length 10000) (some (.lst l))
noncomputable def comp2 (cap : List Nat) (t : List Nat) (it : DI) (ifs : List DB) (t2 : List Nat) (it2 : DI) (ifs2 : List DB) (elt : D) : D := fun ρ => ob (it ρ) fun xs => ob (pick cap ρ) fun ρ =>
  ob (compL t ifs (fun ρ => ob (it2 ρ) fun ys => compL t2 ifs2 (one elt) ρ ys) ρ xs) fun l => chk (Nat.ble l.length 10000) (some (.lst l))
noncomputable def call (f : List V → Option V) (es : List D) : D := fun ρ => ob (evs es ρ) f
noncomputable def callM (f : List V → Option V) (o : D) (es : List D) : D := fun ρ => match o ρ with
  | some (.obj xs) => ob (evs es ρ) fun ds => f (.obj xs :: ds)
  | _ => none

noncomputable def skip : DS := fun ρ => some (ρ, .next)
noncomputable def seq (a b : DS) : DS := fun ρ => match a ρ with | some (ρ', .next) => b ρ' | r => r
noncomputable def asg (x : Nat) (e : D) : DS := fun ρ => ob (e ρ) fun v => some (put x (.val v) ρ, .next)
noncomputable def asgo (x : Nat) (e : D) : DS := fun ρ => ob (e ρ) fun v => some (put x (.own v) ρ, .next)
noncomputable def putAll : List Nat → V → Rho → Rho
  | [], _, ρ => ρ
  | x :: r, v, ρ => putAll r v (put x (.val v) ρ)
noncomputable def chain (xs : List Nat) (e : D) : DS := fun ρ => ob (e ρ) fun v => some (putAll xs v ρ, .next)
noncomputable def putsS : List (Nat × Bool) → List V → Rho → Option Rho
  | [], [], ρ => some ρ
  | (x, true) :: xs, v :: vs, ρ => putsS xs vs (put x (.own v) ρ)
  | (x, false) :: xs, v :: vs, ρ => putsS xs vs (put x (.val v) ρ)
  | _, _, _ => none
noncomputable def multi (xs : List (Nat × Bool)) (es : List D) : DS := fun ρ => ob (evs es ρ) fun vs => ob (putsS xs vs ρ) fun ρ => some (ρ, .next)
noncomputable def unpack (xs : List Nat) (e : D) : DS := fun ρ => ob (e ρ) fun v => match v with
  | .tup vs => ob (puts xs vs ρ) fun ρ => some (ρ, .next)
  | _ => none
noncomputable def setattr (x f : Nat) (e : D) : DS := fun ρ => ob (e ρ) fun v => match get x ρ with
  | some (.own (.obj xs)) => chk (Nat.beq xs.length f) (some (put x (.own (.obj (xs ++ [v]))) ρ, .next))
  | _ => none
noncomputable def setN {α : Type} : List α → Nat → α → Option (List α)
  | [], _, _ => none
  | a :: r, n, v => match n with | 0 => some (v :: r) | m + 1 => ob (setN r m v) fun t => some (a :: t)
noncomputable def dset (k : List Nat) (v : V) : List (List Nat) → List V → List V
  | j :: ks, w :: r => match eqL j k with | true => v :: r | false => w :: dset k v ks r
  | _, r => r
noncomputable def setidx (x : Nat) (i e : D) : DS := fun ρ => ob (e ρ) fun v => ob (i ρ) fun j => match get x ρ, j with
  | some (.own (.lst l)), .int (.ofNat n) => chk (Nat.ble n 10000) (ob (setN l n v) fun l => some (put x (.own (.lst l)) ρ, .next))
  | some (.own (.dct ks xs)), .str k => chk (Nat.ble ks.length 10000) (match memK k ks with
    | true => some (put x (.own (.dct ks (dset k v ks xs))) ρ, .next)
    | false => some (put x (.own (.dct (ks ++ [k]) (xs ++ [v]))) ρ, .next))
  | _, _ => none
noncomputable def append (x : Nat) (e : D) : DS := fun ρ => ob (e ρ) fun v => match get x ρ with
  | some (.own (.lst l)) => chk (Nat.ble l.length 10000) (some (put x (.own (.lst (l ++ [v]))) ρ, .next))
  | _ => none
noncomputable def freeze (x : Nat) (k : DS) : DS := fun ρ => match get x ρ with
  | some (.own d) => k (put x (.val d) ρ)
  | _ => none
noncomputable def ifS (t : DB) (a b : DS) : DS := fun ρ => match t ρ with | some true => a ρ | some false => b ρ | none => none
noncomputable def forL (t : List Nat) (body : DS) : List V → DS
  | [], ρ => some (ρ, .next)
  | v :: r, ρ => ob (putT t v ρ) fun ρ => match body ρ with
    | some (ρ, .next) => forL t body r ρ
    | some (ρ, .brk) => some (ρ, .next)
    | some (ρ, .ret d) => some (ρ, .ret d)
    | none => none
noncomputable def forS (t : List Nat) (it : DI) (body : DS) : DS := fun ρ => ob (it ρ) fun xs => forL t body xs ρ
noncomputable def whileN (t : DB) (body : DS) : Nat → DS
  | 0, _ => none
  | n + 1, ρ => match t ρ with
    | some true => match body ρ with
      | some (ρ, .next) => whileN t body n ρ
      | some (ρ, .brk) => some (ρ, .next)
      | some (ρ, .ret d) => some (ρ, .ret d)
      | none => none
    | some false => some (ρ, .next)
    | none => none
noncomputable def brk : DS := fun ρ => some (ρ, .brk)
noncomputable def ret (e : D) : DS := fun ρ => ob (e ρ) fun v => some (ρ, .ret v)
noncomputable def block : List DS → DS
  | [] => skip
  | a :: r => seq a (block r)
noncomputable def fn (ps : List Nat) (b : DS) : List V → Option V := fun vs => ob (puts ps vs []) fun ρ => match b ρ with
  | some (_, .ret d) => some d
  | _ => none
noncomputable def newObj (b : DS) (ps : List Nat) (self : Nat) : List V → Option V := fun vs => ob (puts ps vs [(self, .own (.obj []))]) fun ρ => match b ρ with
  | some (ρ, .next) => match get self ρ with
    | some (.own d) => some d
    | _ => none
  | _ => none
end Mine.MI
end
-- MiD
section
namespace Mine.MI
noncomputable def oIn : List V → Option V
  | [.ss [a]] => chk (Nat.blt a 10) (some (.bool (Nat.beq (a % 2) 0)))
  | _ => none
noncomputable def oMap : List V → Option V
  | [.ss [a]] => match Nat.blt a 10, Nat.beq (a % 2) 1 with
    | true, true => some (.ss [10 + a / 2])
    | _, _ => none
  | _ => none
noncomputable def oSign (b : Nat → Bool) : List V → Option V
  | [.si k] => chk (Nat.blt k 3) (some (.tup [.ss (match b k with | true => [2 * k, 2 * k + 1] | false => [2 * k + 1]), .ss [10 + k]]))
  | _ => none
end Mine.MI
end
-- MiR
section
namespace Mine.MI

noncomputable abbrev Fn := Addr → Option Obj

/-- what the symbols stand for -/
structure Par where
  script : List Int
  W : Int
  N : Nat → Int
  at' : Nat → List Nat

structure Cx where
  w : World
  P : Par
  h₁ : Heap
  os : OsState
  mg : Str → Option Value
  mb : Str → Option Value
  qv : Program
  lsn : List Str
  X : (K w.params).In h₁
  T : TopRead qv lsn mg mb h₁
  low : sysModules < h₁.objs.size
  atOk : ∀ j, ∀ c ∈ P.at' j, c < 0x110000
  atLen : ∀ j, (P.at' j).length ≤ 10
  gp : Nat → Option GenState

noncomputable abbrev Cx.M (C : Cx) : Model := model pg C.w
noncomputable abbrev Cx.knd (C : Cx) : KeyKind pg C.w Str := strKind pg C.w
noncomputable def toS (s : List Nat) : Str := ⟨s.toArray⟩
noncomputable def strV (s : List Nat) : Prop := ∀ c ∈ s, c < 0x110000

noncomputable def FieldKeys : Nat → List DictEntry → Prop
  | _, [] => True
  | i, e :: r => (∃ t, e.key = .str (fieldNm i) t) ∧ FieldKeys (i + 1) r

mutual
noncomputable def Rd (C : Cx) (F : Fn) : V → Value → Prop
  | .none, v => v = .none
  | .bool b, v => v = .bool b
  | .int i, v => ∃ t, v = .int i t
  | .lin a b, v => 10 ≤ C.P.W ∧ ∃ t, v = .int (a + b * C.P.W) t
  | .si k, v => ∃ t, v = .int (C.P.N k) t
  | .str s, v => strV s ∧ ∃ t, v = .str (toS s) t
  | .ss l, v => ∃ t, v = .str (toS (l.flatMap C.P.at')) t
  | .scr, v => ∃ a o vs n, v = .ref a ∧ F a = some o ∧ o.cls = .type "list" ∧ o.data = .seq vs n ∧ IntsAre vs.toList C.P.script
  | .tup xs, v => ∃ a o vs n, v = .ref a ∧ F a = some o ∧ o.cls = .type "tuple" ∧ o.data = .seq vs n ∧ RdL C F xs vs.toList
  | .lst xs, v => ∃ a o vs n, v = .ref a ∧ F a = some o ∧ o.cls = .type "list" ∧ o.data = .seq vs n ∧ RdL C F xs vs.toList
  | .dct ks xs, v => ∃ a o kvs, v = .ref a ∧ F a = some o ∧ (a == sysModules) = false ∧ o.IsDictOf C.knd kvs ∧ kvs.map (·.1) = ks.map toS ∧ (∀ k ∈ ks, strV k) ∧ RdL C F xs (kvs.map (·.2))
  | .obj xs, v => ∃ a ox dx es n, v = .ref a ∧ F a = some ox ∧ ox.cls = .ref 76 ∧ notCls ox = true ∧ ox.dict = some dx ∧ F dx = some (dictOf es n) ∧ FieldKeys 0 es ∧ RdL C F xs (es.map (·.val))
noncomputable def RdL (C : Cx) (F : Fn) : List V → List Value → Prop
  | [], vs => vs = []
  | x :: xs, vs => ∃ v r, vs = v :: r ∧ Rd C F x v ∧ RdL C F xs r
end

noncomputable def Sub (F F' : Fn) : Prop := ∀ a o, F a = some o → F' a = some o
theorem Sub.refl {F : Fn} : Sub F F := fun _ _ e => e
theorem Sub.trans {F F' F'' : Fn} (x : Sub F F') (y : Sub F' F'') : Sub F F'' := fun a o e => y a o (x a o e)

mutual
theorem Rd.mono {C : Cx} {F F' : Fn} (hs : Sub F F') : ∀ {d : V} {v : Value}, Rd C F d v → Rd C F' d v
  | .none, _, h => by simpa only [Rd] using h
  | .bool _, _, h => by simpa only [Rd] using h
  | .int _, _, h => by simpa only [Rd] using h
  | .lin _ _, _, h => by simpa only [Rd] using h
  | .si _, _, h => by simpa only [Rd] using h
  | .str _, _, h => by simpa only [Rd] using h
  | .ss _, _, h => by simpa only [Rd] using h
  | .scr, _, h => by
    simp only [Rd] at h ⊢
    obtain ⟨a, o, vs, n, h1, h2, h3⟩ := h
    exact ⟨a, o, vs, n, h1, hs _ _ h2, h3⟩
  | .tup xs, _, h => by
    simp only [Rd] at h ⊢
    obtain ⟨a, o, vs, n, h1, h2, h3, h4, h5⟩ := h
    exact ⟨a, o, vs, n, h1, hs _ _ h2, h3, h4, RdL.mono hs h5⟩
  | .lst xs, _, h => by
    simp only [Rd] at h ⊢
    obtain ⟨a, o, vs, n, h1, h2, h3, h4, h5⟩ := h
    exact ⟨a, o, vs, n, h1, hs _ _ h2, h3, h4, RdL.mono hs h5⟩
  | .dct ks xs, _, h => by
    simp only [Rd] at h ⊢
    obtain ⟨a, o, kvs, h1, h2, h3, h4, h5, h6, h7⟩ := h
    exact ⟨a, o, kvs, h1, hs _ _ h2, h3, h4, h5, h6, RdL.mono hs h7⟩
  | .obj xs, _, h => by
    simp only [Rd] at h ⊢
    obtain ⟨a, ox, dx, es, n, h1, h2, h3, h4, h5, h6, h7, h8⟩ := h
    exact ⟨a, ox, dx, es, n, h1, hs _ _ h2, h3, h4, h5, hs _ _ h6, h7, RdL.mono hs h8⟩
theorem RdL.mono {C : Cx} {F F' : Fn} (hs : Sub F F') : ∀ {xs : List V} {vs : List Value}, RdL C F xs vs → RdL C F' xs vs
  | [], _, h => by simpa only [RdL] using h
  | x :: xs, _, h => by
    simp only [RdL] at h ⊢
    obtain ⟨v, r, h1, h2, h3⟩ := h
    exact ⟨v, r, h1, Rd.mono hs h2, RdL.mono hs h3⟩
end

/-- no generator with something to clean up; some are known -/
noncomputable def GOk (C : Cx) (gens : Array GenState) : Prop := AllBare gens ∧ ∀ g st, C.gp g = some st → gens[g]? = some st
structure Hp (C : Cx) (F : Fn) (s : Shared) : Prop where
  inn : ∀ a o, F a = some o → s.heap.get? a = some o
  base : ∀ a o, C.h₁.get? a = some o → F a = some o
  os : s.os = C.os
  gens : GOk C s.gens

structure Sp (F : Fn) (W : Addr → Prop) (s : Shared) (F' : Fn) (W' : Addr → Prop) (s' : Shared) : Prop where
  sub : Sub F F'
  wok : ∀ a, W' a → W a ∨ s.heap.get? a = none
  fok : ∀ a o, F' a = some o → F a = some o ∨ W a ∨ s.heap.get? a = none
  keep : ∀ b o, s.heap.get? b = some o → ¬ W b → s'.heap.get? b = some o

noncomputable abbrev no : Addr → Prop := fun _ => False
noncomputable abbrev Ev (F : Fn) (s : Shared) (F' : Fn) (s' : Shared) : Prop := Sp F no s F' no s'

theorem Sp.refl {F : Fn} {W : Addr → Prop} {s : Shared} : Sp F W s F W s := ⟨Sub.refl, fun _ h => .inl h, fun _ _ e => .inl e, fun _ _ e _ => e⟩
theorem Sp.gone {F F' : Fn} {W W' : Addr → Prop} {s s' : Shared} (x : Sp F W s F' W' s') {a : Addr} (h : s'.heap.get? a = none) : W a ∨ s.heap.get? a = none := by
  by_cases hw : W a
  · exact .inl hw
  · cases e : s.heap.get? a with
    | none => exact .inr rfl
    | some o => rw [x.keep a o e hw] at h; cases h
theorem Sp.trans {F F' F'' : Fn} {W W' W'' : Addr → Prop} {s s' s'' : Shared} (x : Sp F W s F' W' s') (y : Sp F' W' s' F'' W'' s'') : Sp F W s F'' W'' s'' where
  sub := x.sub.trans y.sub
  wok := fun a h => by
    rcases y.wok a h with h | h
    · exact x.wok a h
    · exact x.gone h
  fok := fun a o h => by
    rcases y.fok a o h with h | h | h
    · exact x.fok a o h
    · exact .inr (x.wok a h)
    · exact .inr (x.gone h)
  keep := fun b o e hb => y.keep b o (x.keep b o e hb) fun hw => by
    rcases x.wok b hw with h | h
    · exact hb h
    · rw [e] at h; cases h
theorem Sp.of_ev {F F' : Fn} {W : Addr → Prop} {s s' : Shared} (x : Ev F s F' s') : Sp F W s F' W s' where
  sub := x.sub
  wok := fun _ h => .inl h
  fok := fun a o e => by
    rcases x.fok a o e with h | h | h
    · exact .inl h
    · exact h.elim
    · exact .inr (.inr h)
  keep := fun b o e _ => x.keep b o e id
theorem Sp.keep' {F F' : Fn} {s s' : Shared} (x : Ev F s F' s') (b : Addr) (o : Obj) (e : s.heap.get? b = some o) : s'.heap.get? b = some o := x.keep b o e id

noncomputable def Ret (C : Cx) (F : Fn) (s : Shared) (d : V) (v : Value) (s' : Shared) : Prop := ∃ F', Ev F s F' s' ∧ Hp C F' s' ∧ Rd C F' d v

theorem Hp.toks {C : Cx} {F : Fn} {s : Shared} (h : Hp C F s) (k : Nat) : Hp C F { s with toks := k } := ⟨h.inn, h.base, h.os, h.gens⟩
theorem Ev.toks {F : Fn} {s : Shared} (k : Nat) : Ev F s F { s with toks := k } := ⟨Sub.refl, fun _ h => h.elim, fun _ _ e => .inl e, fun _ _ e _ => e⟩
theorem Ret.now {C : Cx} {F : Fn} {s : Shared} {d : V} {v : Value} (h : Hp C F s) (r : Rd C F d v) : Ret C F s d v s := ⟨F, Sp.refl, h, r⟩
theorem Ret.tok {C : Cx} {F : Fn} {s : Shared} {d : V} {v : Value} (h : Hp C F s) (r : Rd C F d v) (k : Nat) : Ret C F s d v { s with toks := k } := ⟨F, Ev.toks k, h.toks k, r⟩
theorem Ret.trans {C : Cx} {F F' : Fn} {s s' s'' : Shared} {d : V} {v : Value} (e : Ev F s F' s') (r : Ret C F' s' d v s'') : Ret C F s d v s'' :=
  let ⟨F'', e', h, x⟩ := r; ⟨F'', Sp.trans e e', h, x⟩

/-- the function F with one more object -/
noncomputable def Fn.put (F : Fn) (a : Addr) (o : Obj) : Fn := fun b => if b = a then some o else F b
theorem Fn.put_self {F : Fn} {a : Addr} {o : Obj} : F.put a o a = some o := if_pos rfl
theorem Fn.put_ne {F : Fn} {a b : Addr} {o : Obj} (h : b ≠ a) : F.put a o b = F b := if_neg h
theorem Sub.put {F : Fn} {a : Addr} {o : Obj} (h : F a = none) : Sub F (F.put a o) := fun b p e => by
  by_cases hb : b = a
  · subst hb; rw [h] at e; cases e
  · rw [Fn.put_ne hb]; exact e
theorem get?_size (h : Heap) : h.get? h.objs.size = none := by
  cases e : h.get? h.objs.size with
  | none => rfl
  | some o => exact absurd (Heap.lt_size e) (Nat.lt_irrefl _)
theorem Hp.none_of {C : Cx} {F : Fn} {s : Shared} (h : Hp C F s) {a : Addr} (ha : s.heap.get? a = none) : F a = none := by
  cases e : F a with
  | none => rfl
  | some o => rw [h.inn _ _ e] at ha; cases ha

/-- a step that only makes objects, one of them being taken up -/
theorem take_up {C : Cx} {F : Fn} {s s' : Shared} (h : Hp C F s) {a : Addr} {o : Obj} (ha : s.heap.get? a = none) (ho : s'.heap.get? a = some o) (hk : ∀ b p, s.heap.get? b = some p → s'.heap.get? b = some p)
    (hos : s'.os = s.os) (hg : GOk C s'.gens) : Ev F s (F.put a o) s' ∧ Hp C (F.put a o) s' := by
  have n := h.none_of ha
  refine ⟨⟨Sub.put n, fun _ h => h.elim, fun b p e => ?_, fun b p e _ => hk b p e⟩, fun b p e => ?_, fun b p e => Sub.put n _ _ (h.base b p e), hos.trans h.os, hg⟩
  · by_cases hb : b = a
    · subst hb; exact .inr (.inr ha)
    · rw [Fn.put_ne hb] at e; exact .inl e
  · by_cases hb : b = a
    · subst hb; rw [Fn.put_self] at e; cases e; exact ho
    · rw [Fn.put_ne hb] at e; exact hk _ _ (h.inn _ _ e)
theorem pushed {C : Cx} {F : Fn} {s : Shared} (h : Hp C F s) (o : Obj) (hf : o.isFreed = false) (k : Nat) :
    Ev F s (F.put s.heap.objs.size o) { s with heap := s.heap.push o, toks := k } ∧ Hp C (F.put s.heap.objs.size o) { s with heap := s.heap.push o, toks := k } :=
  take_up h (get?_size _) (Heap.get?_push_size _ hf) (fun _ _ e => Heap.get?_push_of_some _ e) rfl h.gens
/-- a step that only makes objects, none taken up -/
theorem grown {C : Cx} {F : Fn} {s s' : Shared} (h : Hp C F s) (hk : ∀ b p, s.heap.get? b = some p → s'.heap.get? b = some p)
    (hos : s'.os = s.os) (hg : GOk C s'.gens) : Ev F s F s' ∧ Hp C F s' :=
  ⟨⟨Sub.refl, fun _ h => h.elim, fun _ _ e => .inl e, fun b p e _ => hk b p e⟩, fun b p e => hk _ _ (h.inn _ _ e), h.base, hos.trans h.os, hg⟩

/-- room around -/
structure Room (n : Nat) (A : Around) : Prop where
  handled : A.handled = none
  depth : A.depth + 20 * n ≤ 600
  units : A.units + 100 * n ≤ 2000
theorem Room.mono {n m : Nat} {A : Around} (h : Room n A) (hm : m ≤ n) : Room m A := ⟨h.handled, by have := h.depth; omega, by have := h.units; omega⟩
theorem Room.deeper {n : Nat} {A : Around} (h : Room (n + 1) A) (env : Env) : Room n (A.deeper env) := ⟨h.handled, by have := h.depth; show A.depth + 1 + 20 * n ≤ 600; omega, by have := h.units; show A.units + 3 + 100 * n ≤ 2000; omega⟩
theorem Room.in1 {n : Nat} {A : Around} (h : Room (n + 1) A) : Room n A.in1 := ⟨h.handled, by have := h.depth; show A.depth + 20 * n ≤ 600; omega, by have := h.units; show A.units + 1 + 100 * n ≤ 2000; omega⟩
theorem Room.line {n : Nat} {A : Around} (h : Room n A) : A.units + 200 < cLine := by have := h.units; show A.units + 200 < 9900; omega
theorem Room.limit {n : Nat} {A : Around} (h : Room n A) : A.depth < recursionLimit := by have := h.depth; show A.depth < 1000; omega

/-- where a name's value lies -/
inductive VarAt (env : Env) (h : Heap) (x : Str) (v : Value) : Prop
  | loc (m : Str → Option Value) (hk : env.kindOf x = some .local) (hn : h.Ns env.locals m) (hv : m x = some v) : VarAt env h x v
  | cell (c : Addr) (hk : env.kindOf x = some .cell ∨ env.kindOf x = some .free) (hc : env.cells.lookup x = some c) (hv : h.IsCell c (some v)) : VarAt env h x v

noncomputable def foot (h : Heap) (a : Addr) : List Addr := a :: (match h.get? a with | some o => o.dict.toList | none => [])

/-- a container that may still change -/
noncomputable def Own (C : Cx) (F : Fn) (h : Heap) (a : Addr) : V → Prop
  | .lst xs => ∃ vs n, h.get? a = some { cls := .type "list", data := .seq vs n } ∧ RdL C F xs vs.toList
  | .dct ks xs => ∃ o kvs, h.get? a = some o ∧ o.dict = none ∧ (a == sysModules) = false ∧ o.IsDictOf C.knd kvs ∧ kvs.map (·.1) = ks.map toS ∧ (∀ k ∈ ks, strV k) ∧ RdL C F xs (kvs.map (·.2))
  | .obj xs => ∃ ox dx es n, h.get? a = some ox ∧ ox.cls = .ref 76 ∧ notCls ox = true ∧ ox.dict = some dx ∧ dx ≠ a ∧ h.get? dx = some (dictOf es n) ∧ FieldKeys 0 es ∧ RdL C F xs (es.map (·.val))
  | _ => False

structure St where
  nms : List Str
  globs : List Str
  locs : List Nat
  cells : List Nat
  pin : Option (Nat × Addr)
noncomputable def St.nm (T : St) (x : Nat) : Str := T.nms.getD x ("" : Str)

noncomputable def SlotOk (C : Cx) (F : Fn) (W : Addr → Prop) (h : Heap) (env : Env) (x : Str) : Slot → Prop
  | .val d => ∃ v, VarAt env h x v ∧ Rd C F d v
  | .own d => ∃ a, VarAt env h x (.ref a) ∧ Own C F h a d ∧ ∀ b ∈ foot h a, W b ∧ b ≠ env.locals ∧ ∀ y c, env.cells.lookup y = some c → c ≠ b

structure Inv (C : Cx) (T : St) (env : Env) (F : Fn) (W : Addr → Prop) (ρ : Rho) (s : Shared) : Prop where
  hp : Hp C F s
  nodup : T.nms.Nodup
  kind : env.scope.kind = .function
  gl : env.globals = mainGlobals
  bi : env.builtins = builtinsNs
  globs : (∀ g ∈ T.globs, env.kindOf g = some .globalImplicit) ∧ ∀ x ∈ T.cells, env.kindOf (T.nm x) = some .cell
  off : ∀ a, W a → F a = none ∧ ∃ o, s.heap.get? a = some o
  wl : W env.locals
  cal : ∀ y c, env.cells.lookup y = some c → ∃ o, s.heap.get? c = some o
  ns : ∃ m, s.heap.Ns env.locals m
  locs : ∀ x ∈ T.locs, x < T.nms.length ∧ (env.kindOf (T.nm x) = some .local ∨ (env.kindOf (T.nm x) = some .cell ∧ ∃ c, env.cells.lookup (T.nm x) = some c ∧ W c ∧ c ≠ env.locals ∧ (∃ ov, s.heap.IsCell c ov) ∧
    ∀ y, y ≠ T.nm x → env.cells.lookup y ≠ some c))
  vars : ∀ x sl, get x ρ = some sl → x < T.nms.length ∧ SlotOk C F W s.heap env (T.nm x) sl
  dist : ∀ x y dx dy a b, x ≠ y → get x ρ = some (.own dx) → get y ρ = some (.own dy) → VarAt env s.heap (T.nm x) (.ref a) → VarAt env s.heap (T.nm y) (.ref b) → ∀ c ∈ foot s.heap a, c ∉ foot s.heap b
  pin : ∀ x a, T.pin = some (x, a) → x ∉ T.locs ∧ x < T.nms.length ∧ VarAt env s.heap (T.nm x) (.ref a)

noncomputable def SemE (C : Cx) (n : Nat) (T : St) (e : Expr) (f : D) : Prop := ∀ (A : Around) (env : Env) (F : Fn) (W : Addr → Prop) (ρ : Rho) (s : Shared) (d : V),
  Room n A → Inv C T env F W ρ s → f ρ = some d → wpAny C.M A (eval e env) (Ret C F s d) (fun _ _ => False) s

theorem ob_some {α β : Type} {o : Option α} {f : α → Option β} {b : β} (h : ob o f = some b) : ∃ a, o = some a ∧ f a = some b := by
  cases o with
  | none => cases h
  | some a => exact ⟨a, rfl, h⟩
theorem chk_some {α : Type} {b : Bool} {o : Option α} {a : α} (h : chk b o = some a) : b = true ∧ o = some a := by
  cases b with
  | true => exact ⟨rfl, h⟩
  | false => cases h
end Mine.MI
end
-- MiI
section
namespace Mine.MI

theorem ns_unique {h : Heap} {a : Addr} {m m' : Str → Option Value} (x : h.Ns a m) (y : h.Ns a m') : m = m' := by
  obtain ⟨o, es, ep, h1, h2, h3, h4⟩ := x
  obtain ⟨o', es', ep', g1, g2, g3, g4⟩ := y
  rw [h1] at g1; cases g1
  rw [h2] at g2; cases g2
  funext n
  rw [← h4, ← g4]
theorem cell_not_ns {h : Heap} {a : Addr} {m : Str → Option Value} {ov : Option Value} (x : h.Ns a m) (y : h.IsCell a ov) : False := by
  obtain ⟨o, es, ep, h1, h2, _⟩ := x
  obtain ⟨o', g1, g2⟩ := y
  rw [h1] at g1; cases g1
  rw [h2] at g2; cases g2
theorem VarAt.unique {env : Env} {h : Heap} {x : Str} {v v' : Value} (a : VarAt env h x v) (b : VarAt env h x v') : v = v' := by
  cases a with
  | loc m hk hn hv =>
    cases b with
    | loc m' hk' hn' hv' => rw [ns_unique hn hn', hv'] at hv; cases hv; rfl
    | cell c hk' hc' hv' => rw [hk] at hk'; rcases hk' with e | e <;> cases e
  | cell c hk hc hv =>
    cases b with
    | loc m' hk' hn' hv' => rw [hk'] at hk; rcases hk with e | e <;> cases e
    | cell c' hk' hc' hv' =>
      rw [hc] at hc'; cases hc'
      obtain ⟨o, h1, h2⟩ := hv
      obtain ⟨o', g1, g2⟩ := hv'
      rw [h1] at g1; cases g1
      rw [h2] at g2; cases g2; rfl
theorem VarAt.keeps {env : Env} {h h' : Heap} {x : Str} {v : Value} (a : VarAt env h x v) (hk : ∀ b o, h.get? b = some o → h'.get? b = some o) : VarAt env h' x v := by
  cases a with
  | loc m h1 h2 h3 => exact .loc m h1 (h2.keeps hk) h3
  | cell c h1 h2 h3 => exact .cell c h1 h2 (h3.keeps hk)
theorem VarAt.addr {env : Env} {h : Heap} {x : Str} {a : Addr} {o : Obj} (hx : h.get? a = some o) : foot h a = a :: o.dict.toList := by unfold foot; rw [hx]
theorem Own.ex {C : Cx} {F : Fn} {h : Heap} {a : Addr} {d : V} (x : Own C F h a d) : ∃ o, h.get? a = some o := by
  cases d <;> first | exact x.elim | skip
  · obtain ⟨vs, n, e, _⟩ := x; exact ⟨_, e⟩
  · obtain ⟨o, kvs, e, _⟩ := x; exact ⟨_, e⟩
  · obtain ⟨ox, dx, es, n, e, _⟩ := x; exact ⟨_, e⟩
theorem foot_keeps {h h' : Heap} {a : Addr} {o : Obj} (e : h.get? a = some o) (e' : h'.get? a = some o) : foot h' a = foot h a := by unfold foot; rw [e, e']
theorem Own.keeps {C : Cx} {F F' : Fn} {h h' : Heap} {a : Addr} {d : V} (x : Own C F h a d) (hs : Sub F F') (hk : ∀ b ∈ foot h a, ∀ o, h.get? b = some o → h'.get? b = some o) : Own C F' h' a d := by
  have ka : ∀ o, h.get? a = some o → h'.get? a = some o := hk a (by unfold foot; exact List.mem_cons_self)
  cases d <;> first | exact x.elim | skip
  · obtain ⟨vs, n, e, r⟩ := x; exact ⟨vs, n, ka _ e, RdL.mono hs r⟩
  · obtain ⟨o, kvs, e, r0, r1, r2, r3, r4, r5⟩ := x; exact ⟨o, kvs, ka _ e, r0, r1, r2, r3, r4, RdL.mono hs r5⟩
  · obtain ⟨ox, dx, es, n, e, r1, r2, r3, r4, r5, r6, r7⟩ := x
    exact ⟨ox, dx, es, n, ka _ e, r1, r2, r3, r4, hk dx (by unfold foot; rw [e]; simp [r3]) _ r5, r6, RdL.mono hs r7⟩
theorem SlotOk.keeps {C : Cx} {F F' : Fn} {W : Addr → Prop} {h h' : Heap} {env : Env} {x : Str} {sl : Slot} (a : SlotOk C F W h env x sl) (hs : Sub F F') (hk : ∀ b o, h.get? b = some o → h'.get? b = some o) : SlotOk C F' W h' env x sl := by
  cases sl with
  | val d => obtain ⟨v, h1, h2⟩ := a; exact ⟨v, h1.keeps hk, h2.mono hs⟩
  | own d =>
    obtain ⟨b, h1, h2, h3⟩ := a
    obtain ⟨o, e⟩ := Own.ex h2
    exact ⟨b, h1.keeps hk, Own.keeps h2 hs (fun c _ o e => hk c o e), by rw [foot_keeps e (hk _ _ e)]; exact h3⟩

/-- the dist clause, by the addresses -/
theorem Inv.dist' {C : Cx} {T : St} {env : Env} {F : Fn} {W : Addr → Prop} {ρ : Rho} {s : Shared} (I : Inv C T env F W ρ s) {h' : Heap} (hv : ∀ x a, (∃ d, get x ρ = some (.own d)) → VarAt env s.heap (T.nm x) (.ref a) → VarAt env h' (T.nm x) (.ref a) ∧ foot h' a = foot s.heap a) :
    ∀ x y dx dy a b, x ≠ y → get x ρ = some (.own dx) → get y ρ = some (.own dy) → VarAt env h' (T.nm x) (.ref a) → VarAt env h' (T.nm y) (.ref b) → ∀ c ∈ foot h' a, c ∉ foot h' b := by
  intro x y dx dy a b hxy ex ey va vb
  obtain ⟨_, a0, va0, _⟩ := I.vars x _ ex
  obtain ⟨_, b0, vb0, _⟩ := I.vars y _ ey
  obtain ⟨va1, fa⟩ := hv x a0 ⟨_, ex⟩ va0
  obtain ⟨vb1, fb⟩ := hv y b0 ⟨_, ey⟩ vb0
  cases va.unique va1
  cases vb.unique vb1
  rw [fa, fb]
  exact I.dist x y dx dy a b hxy ex ey va0 vb0

theorem Inv.ev {C : Cx} {T : St} {env : Env} {F F' : Fn} {W : Addr → Prop} {ρ : Rho} {s s' : Shared} (I : Inv C T env F W ρ s) (e : Ev F s F' s') (h : Hp C F' s') : Inv C T env F' W ρ s' := by
  have hk := e.keep'
  refine ⟨h, I.nodup, I.kind, I.gl, I.bi, I.globs, fun a w => ?_, I.wl, fun y c hc => let ⟨o, ho⟩ := I.cal y c hc; ⟨o, hk _ _ ho⟩, ?_, fun x hx => ?_, fun x sl g => ?_, ?_, fun x a q => let ⟨p1, p2, p3⟩ := I.pin x a q; ⟨p1, p2, p3.keeps hk⟩⟩
  · obtain ⟨h1, h2⟩ := I.off a w
    obtain ⟨o₁, h2⟩ := h2
    refine ⟨?_, o₁, hk _ _ h2⟩
    cases q : F' a with
    | none => rfl
    | some o =>
      rcases e.fok a o q with z | z | z
      · rw [h1] at z; cases z
      · exact z.elim
      · rw [h2] at z; cases z
  · obtain ⟨m, hm⟩ := I.ns; exact ⟨m, hm.keeps hk⟩
  · obtain ⟨h1, h2⟩ := I.locs x hx
    refine ⟨h1, h2.imp id ?_⟩
    rintro ⟨k, c, c1, c2, c3, ⟨ov, c4⟩, c5⟩
    exact ⟨k, c, c1, c2, c3, ⟨ov, c4.keeps hk⟩, c5⟩
  · obtain ⟨h1, h2⟩ := I.vars x sl g
    exact ⟨h1, h2.keeps e.sub hk⟩
  · refine I.dist' fun x a ⟨d, g⟩ va => ?_
    obtain ⟨_, a0, va0, ow, _⟩ := I.vars x _ g
    cases va.unique va0
    obtain ⟨o, eo⟩ := Own.ex ow
    exact ⟨va.keeps hk, foot_keeps eo (hk _ _ eo)⟩

theorem get_put {x y : Nat} {sl : Slot} : ∀ ρ : Rho, get y (put x sl ρ) = if y = x then some sl else get y ρ
  | [] => by
    unfold put get
    by_cases h : y = x
    · subst h; simp [get]
    · have : Nat.beq y x = false := by rw [← Bool.not_eq_true]; exact fun e => h (Nat.eq_of_beq_eq_true e)
      simp [this, h, get]
  | (z, t) :: r => by
    have ih := get_put (x := x) (y := y) (sl := sl) r
    unfold put
    by_cases hz : x = z
    · subst hz
      rw [Nat.beq_refl x]
      unfold get
      by_cases h : y = x
      · subst h; simp
      · have : Nat.beq y x = false := by rw [← Bool.not_eq_true]; exact fun e => h (Nat.eq_of_beq_eq_true e)
        simp [this, h]
    · have e1 : Nat.beq x z = false := by rw [← Bool.not_eq_true]; exact fun e => hz (Nat.eq_of_beq_eq_true e)
      simp only [e1]
      unfold get
      by_cases h : y = z
      · subst h
        simp only [Nat.beq_refl]
        rw [if_neg (fun q => hz q.symm)]
      · have : Nat.beq y z = false := by rw [← Bool.not_eq_true]; exact fun e => h (Nat.eq_of_beq_eq_true e)
        simp only [this]; exact ih

theorem nm_inj {T : St} (hn : T.nms.Nodup) {x y : Nat} (hx : x < T.nms.length) (hy : y < T.nms.length) (h : x ≠ y) : T.nm x ≠ T.nm y := by
  unfold St.nm
  rw [List.getD_eq_getElem?_getD, List.getD_eq_getElem?_getD, List.getElem?_eq_getElem hx, List.getElem?_eq_getElem hy]
  have key := List.pairwise_iff_getElem.mp hn
  intro e
  have e : T.nms[x] = T.nms[y] := e
  rcases Nat.lt_or_gt_of_ne h with l | l
  · exact key x y hx hy l e
  · exact key y x hy hx l e.symm
structure Stored (W : Addr → Prop) (env : Env) (n : Str) (v : Value) (s s' : Shared) : Prop where
  here : VarAt env s'.heap n v
  other : ∀ y u, y ≠ n → VarAt env s.heap y u → VarAt env s'.heap y u
  ns : ∃ m, s'.heap.Ns env.locals m
  cells : ∀ c, (∃ ov, s.heap.IsCell c ov) → ∃ ov, s'.heap.IsCell c ov
  alive : ∀ a, (∃ o, s.heap.get? a = some o) → ∃ o, s'.heap.get? a = some o
  place : ∃ p, W p ∧ (p = env.locals ∨ ∃ y, env.cells.lookup y = some p) ∧ Heap.SameBut p s.heap s'.heap
  os : s'.os = s.os
  gens : s'.gens = s.gens

theorem wp_store {C : Cx} {T : St} {env : Env} {F : Fn} {W : Addr → Prop} {ρ : Rho} {s : Shared} {A : Around} {E : Value → Shared → Prop} {Q : Unit → Shared → Prop} {x : Nat} {v : Value}
    (I : Inv C T env F W ρ s) (hx : x ∈ T.locs) (h : ∀ s', Stored W env (T.nm x) v s s' → Q () s') : wpAny C.M A (storeName env (T.nm x) v) Q E s := by
  obtain ⟨hlt, hk⟩ := I.locs x hx
  rcases hk with hk | ⟨hk, c, hc, hw, hne, ⟨ov, hcell⟩, hother⟩
  · obtain ⟨m, hm⟩ := I.ns
    refine wpAny_storeName_local hk hm (fun h' hn hs => h _ ?_) (by rw [I.kind]; rfl)
    refine ⟨.loc _ hk hn (by simp), fun y u hy va => ?_, ⟨_, hn⟩, fun c hc => ?_, fun a ha => ?_, ⟨_, I.wl, .inl rfl, hs⟩, rfl, rfl⟩
    · cases va with
      | loc m' k1 k2 k3 => cases ns_unique k2 hm; exact .loc _ k1 hn (by simp [hy, k3])
      | cell c k1 k2 k3 => exact .cell c k1 k2 (k3.sameBut hs fun e => cell_not_ns (e ▸ hm) k3)
    · obtain ⟨ov, k⟩ := hc
      exact ⟨ov, k.sameBut hs fun e => cell_not_ns (e ▸ hm) k⟩
    · obtain ⟨o, ha⟩ := ha
      by_cases q : a = env.locals
      · subst q; obtain ⟨o', _, _, e, _⟩ := hn; exact ⟨o', e⟩
      · exact ⟨o, hs.extBut a o q ha⟩
  · refine wpAny_storeName_cell I.kind hk hc hcell fun h' hc' hs => h _ ?_
    obtain ⟨m, hm⟩ := I.ns
    have hm' : h'.Ns env.locals m := hm.sameBut hs (Ne.symm hne)
    refine ⟨.cell c (.inl hk) hc hc', fun y u hy va => ?_, ⟨m, hm'⟩, fun c' hc2 => ?_, fun a ha => ?_, ⟨c, hw, .inr ⟨_, hc⟩, hs⟩, rfl, rfl⟩
    · cases va with
      | loc m' k1 k2 k3 => cases ns_unique k2 hm; exact .loc _ k1 hm' k3
      | cell c2 k1 k2 k3 => exact .cell c2 k1 k2 (k3.sameBut hs fun e => hother y hy (e ▸ k2))
    · obtain ⟨ov2, k⟩ := hc2
      by_cases e : c' = c
      · subst e; exact ⟨_, hc'⟩
      · exact ⟨ov2, k.sameBut hs e⟩
    · obtain ⟨o, ha⟩ := ha
      by_cases q : a = c
      · subst q; obtain ⟨o', e, _⟩ := hc'; exact ⟨o', e⟩
      · exact ⟨o, hs.extBut a o q ha⟩

theorem foot_same {h h' : Heap} {a p : Addr} (hs : Heap.SameBut p h h') (hp : p ∉ foot h a) : foot h' a = foot h a := by
  have : p ≠ a := fun e => hp (by unfold foot; rw [e]; exact List.mem_cons_self)
  unfold foot; rw [hs.2 a (Ne.symm this)]

theorem Inv.stored {C : Cx} {T : St} {env : Env} {F : Fn} {W : Addr → Prop} {ρ : Rho} {s s' : Shared} {x : Nat} {v : Value} {sl : Slot} (I : Inv C T env F W ρ s) (hxl : x ∈ T.locs) (hx : x < T.nms.length)
    (S : Stored W env (T.nm x) v s s') (hsl : SlotOk C F W s'.heap env (T.nm x) sl)
    (hd : ∀ d a, sl = .own d → VarAt env s'.heap (T.nm x) (.ref a) → ∀ y dy b, y ≠ x → get y ρ = some (.own dy) → VarAt env s'.heap (T.nm y) (.ref b) → ∀ c ∈ foot s'.heap a, c ∉ foot s'.heap b) :
    Inv C T env F W (put x sl ρ) s' ∧ Sp F W s F W s' := by
  obtain ⟨p, wp, hpl, hs⟩ := S.place
  have hp : F p = none := (I.off p wp).1
  have keep : ∀ b o, s.heap.get? b = some o → ¬ W b → s'.heap.get? b = some o := fun b o e hb => hs.extBut b o (fun q => hb (q ▸ wp)) e
  have nofoot : ∀ y dy a, get y ρ = some (.own dy) → VarAt env s.heap (T.nm y) (.ref a) → p ∉ foot s.heap a := fun y dy a g va hm => by
    obtain ⟨_, a0, va0, ow, k⟩ := I.vars y _ g
    cases va.unique va0
    obtain ⟨_, k2, k3⟩ := k p hm
    rcases hpl with e | ⟨z, e⟩
    · exact k2 e
    · exact k3 z p e rfl
  have up : ∀ y a, y ≠ x → (∃ d, get y ρ = some (.own d)) → VarAt env s.heap (T.nm y) (.ref a) → VarAt env s'.heap (T.nm y) (.ref a) ∧ foot s'.heap a = foot s.heap a := fun y a hy ⟨d, g⟩ va =>
    ⟨S.other _ _ (nm_inj I.nodup (I.vars y _ g).1 hx hy) va, foot_same hs (nofoot y d a g va)⟩
  refine ⟨⟨⟨fun a o e => hs.extBut a o (fun q => by rw [← q, e] at hp; cases hp) (I.hp.inn a o e), I.hp.base, S.os.trans I.hp.os, by rw [S.gens]; exact I.hp.gens⟩, I.nodup, I.kind, I.gl, I.bi, I.globs, fun a w => ?_, I.wl, fun y c hc => S.alive c (I.cal y c hc), S.ns, fun y hy => ?_,
    fun y sl' g => ?_, fun y z dy dz a b hyz gy gz va vb => ?_, fun y a q => let ⟨p1, p2, p3⟩ := I.pin y a q; ⟨p1, p2, S.other _ _ (nm_inj I.nodup p2 hx fun e => p1 (e ▸ hxl)) p3⟩⟩, ⟨Sub.refl, fun _ h => .inl h, fun _ _ e => .inl e, keep⟩⟩
  · exact ⟨(I.off a w).1, S.alive a (I.off a w).2⟩
  · obtain ⟨h1, h2⟩ := I.locs y hy
    refine ⟨h1, h2.imp id ?_⟩
    rintro ⟨k, c, c1, c2, c3, c4, c5⟩
    exact ⟨k, c, c1, c2, c3, S.cells c c4, c5⟩
  · rw [get_put] at g
    by_cases hyx : y = x
    · subst hyx; rw [if_pos rfl] at g; cases g; exact ⟨hx, hsl⟩
    · rw [if_neg hyx] at g
      obtain ⟨h1, h2⟩ := I.vars y _ g
      refine ⟨h1, ?_⟩
      have hne := nm_inj I.nodup h1 hx hyx
      cases sl' with
      | val d => obtain ⟨u, k1, k2⟩ := h2; exact ⟨u, S.other _ _ hne k1, k2⟩
      | own d =>
        obtain ⟨a, k1, k2, k3⟩ := h2
        have nf := nofoot y d a g k1
        exact ⟨a, S.other _ _ hne k1, Own.keeps k2 Sub.refl (fun b hb o e => hs.extBut b o (fun q => nf (q ▸ hb)) e), by rw [foot_same hs nf]; exact k3⟩
  · rw [get_put] at gy gz
    by_cases hyx : y = x
    · subst hyx
      rw [if_pos rfl] at gy; cases gy
      rw [if_neg (Ne.symm hyz)] at gz
      exact hd _ a rfl va z dz b (Ne.symm hyz) gz vb
    · rw [if_neg hyx] at gy
      by_cases hzx : z = x
      · subst hzx
        rw [if_pos rfl] at gz; cases gz
        intro c hc hc'
        exact hd _ b rfl vb y dy a hyx gy va c hc' hc
      · rw [if_neg hzx] at gz
        obtain ⟨_, a0, va0, _⟩ := I.vars y _ gy
        obtain ⟨_, b0, vb0, _⟩ := I.vars z _ gz
        obtain ⟨va1, fa⟩ := up y a0 hyx ⟨_, gy⟩ va0
        obtain ⟨vb1, fb⟩ := up z b0 hzx ⟨_, gz⟩ vb0
        cases va.unique va1
        cases vb.unique vb1
        rw [fa, fb]
        exact I.dist y z dy dz a b hyz gy gz va0 vb0

theorem Inv.store_val {C : Cx} {T : St} {env : Env} {F : Fn} {W : Addr → Prop} {ρ : Rho} {s : Shared} {A : Around} {E : Value → Shared → Prop} {x : Nat} {v : Value} {d : V} {Q : Unit → Shared → Prop}
    (I : Inv C T env F W ρ s) (hx : x ∈ T.locs) (r : Rd C F d v) (h : ∀ s', Inv C T env F W (put x (.val d) ρ) s' → Sp F W s F W s' → Q () s') : wpAny C.M A (storeName env (T.nm x) v) Q E s :=
  wp_store I hx fun s' S => by
    obtain ⟨I', e⟩ := I.stored (sl := .val d) hx (I.locs x hx).1 S ⟨v, S.here, r⟩ (fun _ _ q => nomatch q)
    exact h s' I' e

theorem Inv.congr {C : Cx} {T : St} {env : Env} {F : Fn} {W : Addr → Prop} {ρ ρ' : Rho} {s : Shared} (I : Inv C T env F W ρ s) (h : ∀ x sl, get x ρ' = some sl → get x ρ = some sl) : Inv C T env F W ρ' s :=
  ⟨I.hp, I.nodup, I.kind, I.gl, I.bi, I.globs, I.off, I.wl, I.cal, I.ns, I.locs, fun x sl g => I.vars x sl (h _ _ g), fun x y dx dy a b hxy gx gy => I.dist x y dx dy a b hxy (h _ _ gx) (h _ _ gy), I.pin⟩

theorem Inv.widen {C : Cx} {T : St} {env : Env} {F : Fn} {W : Addr → Prop} {ρ : Rho} {s : Shared} (I : Inv C T env F W ρ s) (l : List Addr) (hl : ∀ b ∈ l, F b = none ∧ ∃ o, s.heap.get? b = some o) :
    Inv C T env F (fun a => W a ∨ a ∈ l) ρ s := by
  refine ⟨I.hp, I.nodup, I.kind, I.gl, I.bi, I.globs, fun a w => ?_, .inl I.wl, I.cal, I.ns, fun x hx => ?_, fun x sl g => ?_, I.dist, I.pin⟩
  · rcases w with w | w
    · exact I.off a w
    · exact hl a w
  · obtain ⟨h1, h2⟩ := I.locs x hx
    refine ⟨h1, h2.imp id ?_⟩
    rintro ⟨k, c, c1, c2, c3⟩
    exact ⟨k, c, c1, .inl c2, c3⟩
  · obtain ⟨h1, h2⟩ := I.vars x sl g
    refine ⟨h1, ?_⟩
    cases sl with
    | val d => exact h2
    | own d => obtain ⟨a, k1, k2, k3⟩ := h2; exact ⟨a, k1, k2, fun b hb => ⟨.inl (k3 b hb).1, (k3 b hb).2⟩⟩

/-- an own container is taken up: it will not change any more -/
theorem Inv.freeze {C : Cx} {T : St} {env : Env} {F : Fn} {W : Addr → Prop} {ρ : Rho} {s : Shared} {x : Nat} {d : V} (I : Inv C T env F W ρ s) (g : get x ρ = some (.own d)) :
    ∃ F' W', Inv C T env F' W' (put x (.val d) ρ) s ∧ Sp F W s F' W' s := by
  obtain ⟨hx, a, va, ow, fo⟩ := I.vars x _ g
  let F' : Fn := fun b => if b ∈ foot s.heap a then s.heap.get? b else F b
  let W' : Addr → Prop := fun b => W b ∧ b ∉ foot s.heap a
  have hn : ∀ b ∈ foot s.heap a, F b = none := fun b hb => (I.off b (fo b hb).1).1
  have hs : Sub F F' := fun b o e => by
    by_cases hb : b ∈ foot s.heap a
    · rw [hn b hb] at e; cases e
    · show (if _ then _ else _) = _; rw [if_neg hb]; exact e
  have h2 : ∀ b ∈ foot s.heap a, ∀ o, s.heap.get? b = some o → F' b = some o := fun b hb o e => by show (if _ then _ else _) = _; rw [if_pos hb]; exact e
  have ha : a ∈ foot s.heap a := by unfold foot; exact List.mem_cons_self
  have rd : Rd C F' d (.ref a) := by
    cases d <;> first | exact ow.elim | skip
    · obtain ⟨vs, n, e, r⟩ := ow; exact ⟨a, _, vs, n, rfl, h2 a ha _ e, rfl, rfl, RdL.mono hs r⟩
    · obtain ⟨o, kvs, e, r0, r1, r2, r3, r4, r5⟩ := ow; exact ⟨a, o, kvs, rfl, h2 a ha _ e, r1, r2, r3, r4, RdL.mono hs r5⟩
    · obtain ⟨ox, dx, es, n, e, r1, r2, r3, r4, r5, r6, r7⟩ := ow
      exact ⟨a, ox, dx, es, n, rfl, h2 a ha _ e, r1, r2, r3, h2 dx (by unfold foot; rw [e]; simp [r3]) _ r5, r6, RdL.mono hs r7⟩
  refine ⟨F', W', ⟨⟨fun b o e => ?_, fun b o e => hs _ _ (I.hp.base b o e), I.hp.os, I.hp.gens⟩, I.nodup, I.kind, I.gl, I.bi, I.globs, fun b w => ?_, ⟨I.wl, fun hb => (fo _ hb).2.1 rfl⟩, I.cal, I.ns, fun y hy => ?_,
    fun y sl gy => ?_, fun y z dy dz p q hyz gy gz => ?_, I.pin⟩, ⟨hs, fun b w => .inl w.1, fun b o e => ?_, fun b o e _ => e⟩⟩
  · by_cases hb : b ∈ foot s.heap a
    · have e : (if _ then _ else _) = _ := e; rw [if_pos hb] at e; exact e
    · have e : (if _ then _ else _) = _ := e; rw [if_neg hb] at e; exact I.hp.inn _ _ e
  · refine ⟨?_, (I.off b w.1).2⟩
    show (if _ then _ else _) = _; rw [if_neg w.2]; exact (I.off b w.1).1
  · obtain ⟨h1, h3⟩ := I.locs y hy
    refine ⟨h1, h3.imp id ?_⟩
    rintro ⟨k, c, c1, c2, c3⟩
    exact ⟨k, c, c1, ⟨c2, fun hb => (fo c hb).2.2 _ c c1 rfl⟩, c3⟩
  · rw [get_put] at gy
    by_cases hyx : y = x
    · subst hyx; rw [if_pos rfl] at gy; cases gy; exact ⟨hx, _, va, rd⟩
    · rw [if_neg hyx] at gy
      obtain ⟨h1, h3⟩ := I.vars y _ gy
      refine ⟨h1, ?_⟩
      cases sl with
      | val e => obtain ⟨v, k1, k2⟩ := h3; exact ⟨v, k1, k2.mono hs⟩
      | own e =>
        obtain ⟨b, k1, k2, k3⟩ := h3
        exact ⟨b, k1, Own.keeps k2 hs (fun c _ o e => e), fun c hc => ⟨⟨(k3 c hc).1, I.dist y x e d b a hyx gy g k1 va c hc⟩, (k3 c hc).2⟩⟩
  · rw [get_put] at gy gz
    by_cases hyx : y = x
    · rw [if_pos hyx] at gy; cases gy
    · by_cases hzx : z = x
      · rw [if_pos hzx] at gz; cases gz
      · rw [if_neg hyx] at gy; rw [if_neg hzx] at gz
        exact I.dist y z dy dz p q hyz gy gz
  · by_cases hb : b ∈ foot s.heap a
    · exact .inr (.inl (fo b hb).1)
    · have e : (if _ then _ else _) = _ := e; rw [if_neg hb] at e; exact .inl e
end Mine.MI
end
-- MiE
section
namespace Mine.MI

variable {C : Cx} {n : Nat} {T : St}
theorem rd_int {F : Fn} (i : Int) (t : Tok) : Rd C F (.int i) (.int i t) := by simp [Rd]
theorem rd_bool {F : Fn} (b : Bool) : Rd C F (.bool b) (.bool b) := by simp [Rd]
theorem rd_none {F : Fn} : Rd C F .none .none := by simp [Rd]
theorem rd_str {F : Fn} {l : List Nat} (h : strV l) (t : Tok) : Rd C F (.str l) (.str (toS l) t) := by simp [Rd, h]
theorem rd_lin {F : Fn} {a b : Int} (h : 10 ≤ C.P.W) (t : Tok) : Rd C F (.lin a b) (.int (a + b * C.P.W) t) := by simp [Rd, h]
theorem rd_ss {F : Fn} (l : List Nat) (t : Tok) : Rd C F (.ss l) (.str (toS (l.flatMap C.P.at')) t) := by simp [Rd]

theorem sem_int {i : Int} {k : Nat} {p : Pos} : SemE C n T (.Constant (.int i) k p) (cInt i) := fun A env F W ρ s d R I e => by
  cases e
  exact wpAny_Constant_int (Ret.tok I.hp (rd_int _ _) _)
theorem sem_bool {b : Bool} {k : Nat} {p : Pos} : SemE C n T (.Constant (.bool b) k p) (cBool b) := fun A env F W ρ s d R I e => by
  cases e
  exact wpAny_Constant_bool (Ret.now I.hp (rd_bool _))
theorem sem_str {x : Str} {l : List Nat} {k : Nat} {p : Pos} (h : x = toS l) (hl : (l.all fun c => Nat.blt c 0x110000) = true) : SemE C n T (.Constant (.str x) k p) (cStr l) := fun A env F W ρ s d R I e => by
  cases e
  subst h
  exact wpAny_Constant_str (Ret.tok I.hp (rd_str (fun c hc => Nat.le_of_ble_eq_true (List.all_eq_true.mp hl c hc)) _) _)

theorem wp_load {env : Env} {x : Str} {v : Value} {M : Model} {A : Around} {E : Value → Shared → Prop} {s : Shared} {Q : Value → Shared → Prop} (hk : env.scope.kind = .function) (va : VarAt env s.heap x v) (h : Q v s)
    (hn : (x == ("__classdict__" : Str)) = false) : wpAny M A (loadName env x) Q E s := by
  cases va with
  | loc m h1 h2 h3 => exact wpAny_loadName_local hk h1 h2 h3 h
  | cell c h1 h2 h3 =>
    rcases h1 with h1 | h1
    · exact wpAny_loadName_cell hk h1 h2 h3 h
    · exact wpAny_loadName_free hk h1 h2 h3 h hn
theorem sem_var {x : Str} {i : Nat} {p : Pos} (h : x = T.nm i) (h1 : (x == ("__debug__" : Str)) = false) (h2 : (x == ("__classdict__" : Str)) = false) : SemE C n T (.Name x p) (var i) := fun A env F W ρ s d R I e => by
  unfold var at e
  split at e
  · rename_i d' g
    cases e
    obtain ⟨_, v, va, r⟩ := I.vars i _ g
    subst h
    exact wpAny_Name (wp_load I.kind va (Ret.now I.hp r) h2) h1
  · cases e

/-- an operation upon two values -/
noncomputable def OpS (C : Cx) (n : Nat) (op : Value → Value → Sem Value) (g : V → V → Option V) : Prop := ∀ (A : Around) (F : Fn) (s : Shared) (x y : V) (a b : Value) (d : V),
  Room n A → Hp C F s → Rd C F x a → Rd C F y b → g x y = some d → wpAny C.M A (op a b) (Ret C F s d) (fun _ _ => False) s

/-- two values one behind the other -/
theorem two {l r : Expr} {f g : D} {h : V → V → Option V} {op : Value → Value → Sem Value} (hl : SemE C n T l f) (hr : SemE C n T r g) (ho : OpS C n op h)
    {A : Around} {env : Env} {F : Fn} {W : Addr → Prop} {ρ : Rho} {s : Shared} {d : V} (R : Room n A) (I : Inv C T env F W ρ s) (e : bop h f g ρ = some d) :
    wpAny C.M A (eval l env) (fun a s₁ => wpAny C.M A (eval r env) (fun b s₂ => wpAny C.M A (op a b) (Ret C F s d) (fun _ _ => False) s₂) (fun _ _ => False) s₁) (fun _ _ => False) s := by
  obtain ⟨x, ex, e⟩ := ob_some e
  obtain ⟨y, ey, e⟩ := ob_some e
  refine wpAny_mono (hl A env F W ρ s x R I ex) (fun a s₁ q => ?_) fun _ _ z => z
  obtain ⟨F₁, e₁, h₁, r₁⟩ := q
  refine wpAny_mono (hr A env F₁ W ρ s₁ y R (I.ev e₁ h₁) ey) (fun b s₂ q => ?_) fun _ _ z => z
  obtain ⟨F₂, e₂, h₂, r₂⟩ := q
  exact wpAny_mono (ho A F₂ s₂ x y a b d R h₂ (r₁.mono e₂.sub) r₂ e) (fun v s₃ q => Ret.trans (Sp.trans e₁ e₂) q) fun _ _ z => z

theorem sem_bin {l r : Expr} {op : Operator} {p : Pos} {f g : D} {h : V → V → Option V} (ho : OpS C n (binaryOp op) h) (hl : SemE C n T l f) (hr : SemE C n T r g) : SemE C n T (.BinOp l op r p) (bop h f g) :=
  fun A env F W ρ s d R I e => wpAny_BinOp (two hl hr ho R I e)

theorem length_of_rdL {F : Fn} : ∀ {xs : List V} {vs : List Value}, RdL C F xs vs → vs.length = xs.length
  | [], _, h => by simp only [RdL] at h; subst h; rfl
  | x :: xs, _, h => by
    simp only [RdL] at h
    obtain ⟨v, r, rfl, _, h⟩ := h
    simp [length_of_rdL h]
theorem rdL_append {F : Fn} : ∀ {xs ys : List V} {vs ws : List Value}, RdL C F xs vs → RdL C F ys ws → RdL C F (xs ++ ys) (vs ++ ws)
  | [], _, _, _, h, k => by simp only [RdL] at h; subst h; exact k
  | x :: xs, _, _, _, h, k => by
    simp only [RdL] at h
    obtain ⟨v, r, rfl, h1, h2⟩ := h
    simp only [List.cons_append, RdL]
    exact ⟨v, _, rfl, h1, rdL_append h2 k⟩

/-- the frame that many rules ask for: any state has it -/
theorem Hp.fr {F : Fn} {s : Shared} (h : Hp C F s) : Fr ⟨#[], {}⟩ mainGlobals s.heap C.mg :=
  ⟨C.T.g.keeps fun b o e => h.inn _ _ (h.base _ _ e), fun b o e => by simp [Heap.get?] at e, Nat.zero_le _⟩
end Mine.MI
end
-- MiO
section
namespace Mine.MI
variable {C : Cx} {n : Nat} {T : St}

theorem okLen_of {α β : Type} {a : List α} {b : List β} (h : okLen a b = true) : a.length + b.length ≤ 10000 := Nat.le_of_ble_eq_true h
theorem toS_append (a b : List Nat) : toS a ++ toS b = toS (a ++ b) := by
  show Str.append _ _ = _
  simp [Str.append, toS]
theorem toS_length (a : List Nat) : (toS a).length = a.length := by simp [Str.length, toS]
theorem strV_append {a b : List Nat} (h : strV a) (k : strV b) : strV (a ++ b) := fun c hc => by
  rcases List.mem_append.mp hc with q | q
  · exact h c q
  · exact k c q
theorem small_bits {i : Int} (h : smallI i = true) : Builtin.Int.intBits i ≤ 64 := by
  have hn : i.natAbs ≤ 1048577 := by
    cases i with
    | ofNat a => exact Nat.le_trans (Nat.le_of_ble_eq_true h) (by decide)
    | negSucc a => have := Nat.le_of_ble_eq_true h; simp only [Int.natAbs_negSucc, lim] at *; omega
  unfold Builtin.Int.intBits
  split
  · omega
  · have : i.natAbs.log2 < 22 := by
      by_cases h0 : i.natAbs = 0
      · rw [h0]; decide
      · exact (Nat.log2_lt h0).mpr (by omega)
    omega
theorem rd_list_new {F : Fn} {xs : List V} {vs : List Value} {a : Addr} {k : Nat} (h : F a = some { cls := .type "list", data := .seq vs.toArray k }) (r : RdL C F xs vs) : Rd C F (.lst xs) (.ref a) := by
  simp only [Rd]; exact ⟨a, _, _, k, rfl, h, rfl, rfl, r⟩
theorem isList_of {F : Fn} {s : Shared} (h : Hp C F s) {xs : List V} {v : Value} (r : Rd C F (.lst xs) v) : ∃ a vs, v = .ref a ∧ s.heap.IsList a vs.toArray ∧ RdL C F xs vs := by
  simp only [Rd] at r
  obtain ⟨a, o, vs, k, rfl, h1, h2, h3, h4⟩ := r
  exact ⟨a, vs.toList, rfl, ⟨o, h.inn _ _ h1, h2, k, h3⟩, h4⟩

theorem op_add : OpS C n (binaryOp .Add) add := fun A F s x y a b d R H rx ry e => by
  unfold add at e
  split at e
  · cases e
    simp only [Rd] at rx ry
    obtain ⟨t, rfl⟩ := rx; obtain ⟨u, rfl⟩ := ry
    exact P.add_int (Ret.tok H (rd_int _ _) _)
  · cases e
    simp only [Rd] at rx ry
    obtain ⟨t, rfl⟩ := rx; obtain ⟨hw, u, rfl⟩ := ry
    refine P.add_int (Ret.tok H ?_ _)
    rw [← Int.add_assoc]; exact rd_lin hw _
  · cases e
    simp only [Rd] at rx ry
    obtain ⟨hw, t, rfl⟩ := rx; obtain ⟨u, rfl⟩ := ry
    refine P.add_int (Ret.tok H ?_ _)
    rw [show ∀ c d z : Int, c + d + z = (c + z) + d from fun c d z => by omega]; exact rd_lin hw _
  · obtain ⟨hl, e⟩ := chk_some e; cases e
    have hl := okLen_of hl
    simp only [Rd] at rx ry
    obtain ⟨hx, t, rfl⟩ := rx; obtain ⟨hy, u, rfl⟩ := ry
    refine SB.add (fun t' k => Ret.tok H ?_ _) (by rw [toS_length, toS_length]; show _ ≤ 2 ^ 24; omega)
    rw [toS_append]; exact rd_str (strV_append hx hy) _
  · obtain ⟨hl, e⟩ := chk_some e; cases e
    have hl := okLen_of hl
    obtain ⟨p, vs, rfl, l1, r1⟩ := isList_of H rx
    obtain ⟨q, ws, rfl, l2, r2⟩ := isList_of H ry
    obtain ⟨⟨cls, dd, data, sl⟩, ho, hc, n1, hd⟩ := l1
    obtain ⟨⟨cls2, dd2, data2, sl2⟩, ho2, hc2, n2, hd2⟩ := l2
    simp only at hc hd hc2 hd2
    subst hc hd hc2 hd2
    refine concat_meets ⟨_, ho, rfl⟩ ⟨_, ho2, rfl⟩ noFill_list_add seq_list_add PySem.F.slot_list_add PySem.F.entry_list_add (PySem.F.args_list_add_2 _ _) (list_addW p q vs.toArray ws.toArray n1 n2 dd dd2 sl sl2 (by
      have := length_of_rdL r1; have := length_of_rdL r2; simp only [List.size_toArray]; show _ ≤ 2 ^ 24; omega)) ⟨ho, ho2, ?_⟩
    rw [show vs.toArray ++ ws.toArray = (vs ++ ws).toArray by simp]
    obtain ⟨e1, h1⟩ := pushed H { cls := .type "list", data := .seq (vs ++ ws).toArray } rfl s.toks
    exact ⟨_, e1, h1, rd_list_new Fn.put_self (rdL_append (RdL.mono e1.sub r1) (RdL.mono e1.sub r2))⟩
  · cases e

theorem op_sub : OpS C n (binaryOp .Sub) sub := fun A F s x y a b d R H rx ry e => by
  unfold sub at e
  split at e
  · cases e
    simp only [Rd] at rx ry
    obtain ⟨t, rfl⟩ := rx; obtain ⟨u, rfl⟩ := ry
    exact P.sub_int (Ret.tok H (rd_int _ _) _)
  · cases e

theorem rep_eq {α : Type} (l : List α) : ∀ k, (List.replicate k l).flatten = rep l k
  | 0 => rfl
  | k + 1 => by rw [List.replicate_succ, List.flatten_cons, rep_eq l k]; rfl
theorem rdL_rep {F : Fn} {xs : List V} {vs : List Value} (h : RdL C F xs vs) : ∀ k, RdL C F (rep xs k) (rep vs k)
  | 0 => by simp [rep, RdL]
  | k + 1 => rdL_append h (rdL_rep h k)
theorem strV_rep {l : List Nat} (h : strV l) : ∀ k, strV (rep l k)
  | 0 => fun c hc => by simp [rep] at hc
  | k + 1 => strV_append h (strV_rep h k)
theorem foldl_cat {α : Type} (a : Array α) : ∀ (k : Nat) (acc : Array α), (List.replicate k a).foldl (· ++ ·) acc = acc ++ (rep a.toList k).toArray
  | 0, acc => by simp [rep]
  | k + 1, acc => by
    rw [List.replicate_succ, List.foldl_cons, foldl_cat a k]
    simp [rep, Array.append_assoc, ← List.append_toArray]
theorem mul_text (l : List Nat) (k : Nat) : Txt.mul (toS l) (Int.ofNat k) = toS (rep l k) := by
  unfold Txt.mul
  cases k with
  | zero => rfl
  | succ k =>
    rw [if_neg (by simp only [Int.ofNat_eq_natCast]; omega)]
    split
    · rename_i h
      rcases Bool.or_eq_true_iff.mp h with h | h
      · have h := beq_iff_eq.mp h
        have : k = 0 := by simp only [Int.ofNat_eq_natCast] at h; omega
        subst this
        simp [rep]
      · have h := beq_iff_eq.mp h
        rw [toS_length] at h
        have : l = [] := List.length_eq_zero_iff.mp h
        subst this
        have : ∀ k, rep ([] : List Nat) k = [] := fun k => by induction k <;> simp [rep, *]
        rw [this]
    · show (⟨_⟩ : Str) = _
      have := foldl_cat (toS l).cps (k + 1) #[]
      rw [show (Int.ofNat (k + 1)).toNat = k + 1 from rfl, this]
      simp [toS]
theorem mul_ok (l : List Nat) (k : Nat) (h1 : k ≤ 1000) (h2 : l.length ≤ 1000) : MulOk (toS l) (Int.ofNat k) := by
  refine ⟨?_, fun h _ => ?_, fun _ _ => ?_⟩
  · simp only [Int.ofNat_eq_natCast]
    rw [decide_eq_false (by omega), decide_eq_false (by omega)]; rfl
  · rw [toS_length]
    have h0 : 0 < (Int.ofNat k) := by omega
    have : (9223372036854775 : Int) ≤ (2 ^ 63 - 1) / Int.ofNat k := by
      rw [Int.le_ediv_iff_mul_le h0]
      simp only [Int.ofNat_eq_natCast]
      omega
    omega
  · unfold Builtin.Str.tooLong
    rw [toS_length, show (Int.ofNat k).toNat = k from rfl]
    have : l.length * k ≤ 1000 * 1000 := Nat.mul_le_mul h2 h1
    exact decide_eq_false (by show ¬ _ > 2 ^ 24; omega)

theorem list_mul {prog : Program} {w : World} {A : Around} {E : Value → Shared → Prop} {s : Shared} {Q : Value → Shared → Prop} {l : Addr} {vs : List Value} {k : Nat} {d : Option Addr} {sl : Array (Option Value)} {x : Int} {u : Tok}
    (ho : s.heap.get? l = some { cls := .type "list", dict := d, data := .seq vs.toArray k, slots := sl }) (hlo : 0 ≤ x) (hhi : x ≤ 256) (hsz : vs.length * x.toNat ≤ 256)
    (h : Q (.ref s.heap.objs.size) { s with heap := s.heap.push { cls := .type "list", data := .seq (List.replicate x.toNat vs).flatten.toArray } }) : wpAny (model prog w) A (binaryOp .Mult (.ref l) (.int x u)) Q E s := by
  have hsz' : vs.toArray.size * x.toNat ≤ 256 := by simpa using hsz
  refine wpAny_binaryOp_repeat_ref (T := "list") (U := "int") (by decide) ⟨_, ho, rfl⟩ (fun s' => typeIs_int s' x u) noFill_list_mul PySem.F.fills_int_mul PySem.F.slot_int_rmul repeat_list PySem.F.slot_int_index.lookup
    (call_meets PySem.F.slot_int_rmul (typeIs_int s x u) PySem.F.entry_int_rmul (PySem.F.args_int_rmul_2 _ _) (lm_int_rmul_list_any x u l vs.toArray k d sl)
      ⟨ho, rfl, ⟨_, ho, rfl⟩, call_meets PySem.F.slot_list_mul ⟨_, ho, rfl⟩ PySem.F.entry_list_mul (PySem.F.args_list_mul_2 _ _)
        (lm_list_mul_any l vs.toArray k d sl x u (by simp [Builtin.List.listFitsIndex]; omega) (by omega) (by simp [Builtin.List.listTooLong, sizeLine]; simp at hsz'; omega))
        ⟨ho, ?_⟩⟩)
  rw [listMul_foldl_if]
  exact h

theorem op_mul : OpS C n (binaryOp .Mult) mul := fun A F s x y a b d R H rx ry e => by
  unfold mul at e
  split at e
  · obtain ⟨hs, e⟩ := chk_some e; cases e
    simp only [Rd] at rx ry
    obtain ⟨t, rfl⟩ := rx; obtain ⟨u, rfl⟩ := ry
    exact P.mul_int (Ret.tok H (rd_int _ _) _) (IntMulOk.of_right (small_bits hs))
  · obtain ⟨hs, e⟩ := chk_some e; cases e
    simp only [Rd] at rx ry
    obtain ⟨t, rfl⟩ := rx; obtain ⟨hw, u, rfl⟩ := ry
    refine P.mul_int (Ret.tok H ?_ _) (IntMulOk.of_left (small_bits hs))
    rw [Int.mul_add, ← Int.mul_assoc]; exact rd_lin hw _
  · obtain ⟨hs, e⟩ := chk_some e; cases e
    simp only [Rd] at rx ry
    obtain ⟨hw, t, rfl⟩ := rx; obtain ⟨u, rfl⟩ := ry
    refine P.mul_int (Ret.tok H ?_ _) (IntMulOk.of_right (small_bits hs))
    rw [Int.add_mul, show ∀ p q z : Int, p * z * q = p * q * z from fun p q z => by rw [Int.mul_assoc, Int.mul_comm z q, ← Int.mul_assoc]]; exact rd_lin hw _
  · rename_i xs k
    obtain ⟨hs, e⟩ := chk_some e; cases e
    obtain ⟨hk, hs⟩ := Bool.and_eq_true_iff.mp hs
    have hk := Nat.le_of_ble_eq_true hk
    have hs := Nat.le_of_ble_eq_true hs
    obtain ⟨p, vs, rfl, l1, r1⟩ := isList_of H rx
    simp only [Rd] at ry
    obtain ⟨u, rfl⟩ := ry
    obtain ⟨⟨cls, dd, data, sl⟩, ho, hc, n1, hd⟩ := l1
    simp only at hc hd
    subst hc hd
    have hlen := length_of_rdL r1
    refine list_mul ho (by simp) (by simp only [Int.ofNat_eq_natCast]; omega) (by simpa [hlen] using hs) ?_
    rw [rep_eq]
    show Ret C F s _ _ _
    obtain ⟨e1, h1⟩ := pushed H { cls := .type "list", data := .seq (rep vs k).toArray } rfl s.toks
    exact ⟨_, e1, h1, rd_list_new Fn.put_self (rdL_rep (RdL.mono e1.sub r1) k)⟩
  · rename_i l k
    obtain ⟨hs, e⟩ := chk_some e; cases e
    obtain ⟨hk, hs⟩ := Bool.and_eq_true_iff.mp hs
    simp only [Rd] at rx ry
    obtain ⟨hx, t, rfl⟩ := rx; obtain ⟨u, rfl⟩ := ry
    refine SB.mul (mul_ok l k (Nat.le_of_ble_eq_true hk) (Nat.le_of_ble_eq_true hs)) fun t' k' => Ret.tok H ?_ _
    rw [mul_text]; exact rd_str (strV_rep hx k) _
  · cases e
theorem not_long {x y : Int} (h : y.natAbs ≤ 1048577) : ¬ Builtin.divisionGoesByPylong x y = true := by
  unfold Builtin.divisionGoesByPylong
  have : (if (y == 0) = true then 0 else y.natAbs.log2 / 30 + 1) ≤ 2 := by
    split
    · omega
    · have : y.natAbs.log2 < 22 := by
        by_cases h0 : y.natAbs = 0
        · rw [h0]; decide
        · exact (Nat.log2_lt h0).mpr (by omega)
      omega
  simp only [Bool.and_eq_true, decide_eq_true_eq, gt_iff_lt]
  rintro ⟨h1, _⟩
  omega
theorem op_fdiv : OpS C n (binaryOp .FloorDiv) fdiv := fun A F s x y a b d R H rx ry e => by
  unfold fdiv at e
  split at e
  · rename_i k
    obtain ⟨hs, e⟩ := chk_some e; cases e
    have hs : k < 10 := Nat.le_of_ble_eq_true hs
    simp only [Rd] at rx ry
    obtain ⟨t, rfl⟩ := rx; obtain ⟨hw, u, rfl⟩ := ry
    have hz : (Int.ofNat 0 + Int.ofNat 1 * C.P.W) = C.P.W := by simp
    rw [hz]
    have hq : (Int.ofNat k).fdiv C.P.W = 0 := by
      rw [Int.fdiv_eq_ediv_of_nonneg _ (by omega)]
      exact Int.ediv_eq_zero_of_lt (by simp) (by simp only [Int.ofNat_eq_natCast]; omega)
    refine AutoIntOps.floordiv_1 (by simp; omega) ?_ ?_
    · unfold Builtin.divisionGoesByPylong
      have : (if (Int.ofNat k == 0) = true then 0 else (Int.ofNat k).natAbs.log2 / 30 + 1) ≤ 1 := by
        split
        · omega
        · have : (Int.ofNat k).natAbs.log2 < 5 := by
            by_cases h0 : (Int.ofNat k).natAbs = 0
            · rw [h0]; decide
            · exact (Nat.log2_lt h0).mpr (by simp only [Int.ofNat_eq_natCast, Int.natAbs_natCast]; omega)
          omega
      simp only [Bool.and_eq_true, decide_eq_true_eq, gt_iff_lt]
      rintro ⟨h1, h2⟩
      omega
    · show Ret C F s _ _ _
      rw [hq]; exact Ret.tok H (rd_int _ _) _
  · rename_i k j
    obtain ⟨hs, e⟩ := chk_some e; cases e
    obtain ⟨h0, h1⟩ := Bool.and_eq_true_iff.mp hs
    have h0 : 0 < j := Nat.le_of_ble_eq_true h0
    have h1 := Nat.le_of_ble_eq_true h1
    simp only [Rd] at rx ry
    obtain ⟨t, rfl⟩ := rx; obtain ⟨u, rfl⟩ := ry
    refine AutoIntOps.floordiv_1 (by simp; omega) (not_long (by simp only [lim] at h1; simp only [Int.ofNat_eq_natCast, Int.natAbs_natCast]; omega)) ?_
    show Ret C F s _ _ _
    rw [Int.fdiv_eq_ediv_of_nonneg _ (by simp)]
    exact Ret.tok H (rd_int _ _) _
  · rename_i k j
    obtain ⟨hs, e⟩ := chk_some e; cases e
    obtain ⟨h0, h1⟩ := Bool.and_eq_true_iff.mp hs
    have h0 : 0 < j := Nat.le_of_ble_eq_true h0
    have h1 := Nat.le_of_ble_eq_true h1
    simp only [Rd] at rx ry
    obtain ⟨t, rfl⟩ := rx; obtain ⟨u, rfl⟩ := ry
    refine AutoIntOps.floordiv_1 (by simp; omega) (not_long (by simp only [lim] at h1; simp only [Int.ofNat_eq_natCast, Int.natAbs_natCast]; omega)) ?_
    show Ret C F s _ _ _
    rw [show (Int.negSucc k).fdiv (Int.ofNat j) = Int.negSucc (k / j) by cases j <;> first | omega | rfl]
    exact Ret.tok H (rd_int _ _) _
  · cases e

theorem op_pow : OpS C n (binaryOp .Pow) pow := fun A F s x y a b d R H rx ry e => by
  unfold pow at e
  split at e
  · rename_i k j
    obtain ⟨hs, e⟩ := chk_some e; cases e
    obtain ⟨h0, h1⟩ := Bool.and_eq_true_iff.mp hs
    obtain ⟨h1, h2⟩ := Bool.and_eq_true_iff.mp h1
    have h0 := Nat.le_of_ble_eq_true h0
    have h1 := Nat.le_of_ble_eq_true h1
    have h2 := Nat.le_of_ble_eq_true h2
    simp only [Rd] at rx ry
    obtain ⟨t, rfl⟩ := rx; obtain ⟨u, rfl⟩ := ry
    have hpow : (Int.ofNat k) ^ (Int.ofNat j).toNat = Int.ofNat (k ^ j) := by
      show (Int.ofNat k) ^ j = _
      simp
    by_cases hj : j = 0
    · subst hj
      refine AutoIntOps.pow_0 (by simp) (by simp) ?_
      show Ret C F s _ _ _
      rw [show k ^ 0 = 1 from rfl]
      exact Ret.tok H (rd_int 1 _) _
    · refine AutoIntOps.pow_4 (by simp) (by simp; omega) (by simp; omega) (by simp) ?_ ?_
      · have hb : Builtin.Int.intBits (Int.ofNat k) ≤ 64 := small_bits (by show Nat.ble k lim = true; exact Nat.ble_eq.mpr (by show k ≤ 1048576; omega))
        unfold Builtin.Int.intTooBig
        simp only [decide_eq_true_eq, gt_iff_lt, Int.not_lt]
        have h3 : Builtin.Int.intBits (Int.ofNat k) * j ≤ 64 * 1000 := Nat.mul_le_mul hb h2
        show ((Builtin.Int.intBits (Int.ofNat k) : Nat) : Int) * (j : Int) ≤ ((2 ^ 27 : Nat) : Int)
        rw [← Int.natCast_mul]
        exact Int.ofNat_le.mpr (by omega)
      · show Ret C F s _ _ _
        rw [hpow]
        exact Ret.tok H (rd_int _ _) _
  · cases e
end Mine.MI
end
-- MiC
section
namespace Mine.MI
variable {C : Cx} {n : Nat} {T : St}

mutual
noncomputable def toPy (C : Cx) : V → PyData
  | .none => .none
  | .bool b => .bool b
  | .int i => .int i
  | .lin a b => .int (a + b * C.P.W)
  | .si k => .int (C.P.N k)
  | .str s => .str (toS s)
  | .ss l => .str (toS (l.flatMap C.P.at'))
  | .tup xs => .tuple (toPys C xs)
  | .lst xs => .list (toPys C xs)
  | _ => .none
noncomputable def toPys (C : Cx) : List V → List PyData
  | [] => []
  | x :: xs => toPy C x :: toPys C xs
end
theorem strOk_toS {l : List Nat} (h : strV l) : PyData.strOk (toS l) = true := by
  unfold PyData.strOk toS
  simp only [List.all_toArray, List.all_eq_true, decide_eq_true_eq]
  exact h
mutual
theorem reads_of {F : Fn} {s : Shared} (H : Hp C F s) : ∀ (m : Nat) (d : V) (v : Value), okV m d = true → Rd C F d v → (∃ as, Reads s.heap v (toPy C d) as) ∧ (toPy C d).canLay0 = true ∧ (toPy C d).depth ≤ m
  | m, .none, v, _, r => by simp only [Rd] at r; subst r; exact ⟨⟨_, .none⟩, rfl, Nat.zero_le _⟩
  | m, .bool b, v, _, r => by simp only [Rd] at r; subst r; exact ⟨⟨_, .bool b⟩, rfl, Nat.zero_le _⟩
  | m, .int i, v, _, r => by simp only [Rd] at r; obtain ⟨t, rfl⟩ := r; exact ⟨⟨_, .int i t⟩, rfl, Nat.zero_le _⟩
  | m, .lin a b, v, _, r => by simp only [Rd] at r; obtain ⟨_, t, rfl⟩ := r; exact ⟨⟨_, .int _ t⟩, rfl, Nat.zero_le _⟩
  | m, .si k, v, _, r => by simp only [Rd] at r; obtain ⟨t, rfl⟩ := r; exact ⟨⟨_, .int _ t⟩, rfl, Nat.zero_le _⟩
  | m, .str l, v, _, r => by simp only [Rd] at r; obtain ⟨h, t, rfl⟩ := r; exact ⟨⟨_, .str _ t⟩, strOk_toS h, Nat.zero_le _⟩
  | m, .ss l, v, _, r => by
    simp only [Rd] at r; obtain ⟨t, rfl⟩ := r
    refine ⟨⟨_, .str _ t⟩, strOk_toS fun c hc => ?_, Nat.zero_le _⟩
    obtain ⟨j, _, hj⟩ := List.mem_flatMap.mp hc
    exact C.atOk j c hj
  | m, .scr, v, h, _ => by simp [okV] at h
  | m, .dct _ _, v, h, _ => by simp [okV] at h
  | m, .obj _, v, h, _ => by simp [okV] at h
  | m, .tup xs, v, h, r => by
    cases m with
    | zero => simp [okV] at h
    | succ m =>
      simp only [okV] at h
      simp only [Rd] at r
      obtain ⟨a, o, vs, k, rfl, h1, h2, h3, h4⟩ := r
      obtain ⟨⟨as, ra⟩, hc, hd⟩ := reads_all H m xs vs.toList h h4
      exact ⟨⟨_, .tuple (H.inn _ _ h1) h2 h3 ra⟩, by simpa [toPy, PyData.canLay0] using hc, by simp only [toPy, PyData.depth]; omega⟩
  | m, .lst xs, v, h, r => by
    cases m with
    | zero => simp [okV] at h
    | succ m =>
      simp only [okV] at h
      simp only [Rd] at r
      obtain ⟨a, o, vs, k, rfl, h1, h2, h3, h4⟩ := r
      obtain ⟨⟨as, ra⟩, hc, hd⟩ := reads_all H m xs vs.toList h h4
      exact ⟨⟨_, .list (H.inn _ _ h1) h2 h3 ra⟩, by simpa [toPy, PyData.canLay0] using hc, by simp only [toPy, PyData.depth]; omega⟩
theorem reads_all {F : Fn} {s : Shared} (H : Hp C F s) : ∀ (m : Nat) (xs : List V) (vs : List Value), okVs m xs = true → RdL C F xs vs → (∃ as, ReadsAll s.heap vs (toPys C xs) as) ∧ PyData.canLayAll0 (toPys C xs) = true ∧ PyData.depthAll (toPys C xs) ≤ m
  | m, [], vs, _, r => by simp only [RdL] at r; subst r; exact ⟨⟨_, .nil⟩, rfl, Nat.zero_le _⟩
  | m, x :: xs, vs, h, r => by
    simp only [okVs] at h
    split at h
    · rename_i hx
      simp only [RdL] at r
      obtain ⟨v, r', rfl, h1, h2⟩ := r
      obtain ⟨⟨as, ra⟩, hc, hd⟩ := reads_of H m x v hx h1
      obtain ⟨⟨bs, rb⟩, hc', hd'⟩ := reads_all H m xs r' h h2
      exact ⟨⟨_, .cons ra rb⟩, by simp [toPys, PyData.canLayAll0, hc, hc'], by simp only [toPys, PyData.depthAll]; omega⟩
    · cases h
end

theorem eqL_iff : ∀ {a b : List Nat}, eqL a b = decide (a = b)
  | [], [] => rfl
  | [], _ :: _ => by simp [eqL]
  | _ :: _, [] => by simp [eqL]
  | a :: r, b :: t => by
    unfold eqL
    split
    · rename_i h
      have := Nat.eq_of_beq_eq_true h
      subst this
      rw [eqL_iff]; simp
    · rename_i h
      have : a ≠ b := fun e => by subst e; rw [Nat.beq_refl] at h; cases h
      simp [this]
theorem eqI_iff {a b : Int} : eqI a b = decide (a = b) := by
  cases a <;> cases b
  · rename_i a b
    show Nat.beq a b = _
    by_cases h : a = b
    · subst h; simp
    · rw [decide_eq_false (by simp only [Int.ofNat_eq_natCast]; omega)]
      rw [← Bool.not_eq_true]; exact fun e => h (Nat.eq_of_beq_eq_true e)
  · simp [eqI]
  · simp [eqI]
  · rename_i a b
    show Nat.beq a b = _
    by_cases h : a = b
    · subst h; simp
    · rw [decide_eq_false (by simpa using h)]
      rw [← Bool.not_eq_true]; exact fun e => h (Nat.eq_of_beq_eq_true e)
theorem toS_beq (a b : List Nat) : (toS a == toS b) = decide (a = b) := by
  by_cases h : a = b
  · subst h; simp
  · rw [decide_eq_false h]
    rw [beq_eq_false_iff_ne]
    intro e
    exact h (by simpa [toS] using e)
mutual
theorem eqV_sound : ∀ (a b : V) (r : Bool), eqV a b = some r → PyData.eqv (toPy C a) (toPy C b) = r := by
  intro a b r h
  unfold eqV at h
  split at h
  · cases h; rfl
  · cases h; rfl
  · cases h; simp only [toPy, PyData.eqv, eqI_iff]; rw [Bool.eq_iff_iff]; simp
  · split at h
    · rename_i h1 h2
      cases h
      rw [eqI_iff, decide_eq_true_eq] at h1 h2
      subst h1 h2
      simp [toPy, PyData.eqv]
    · cases h
  · cases h; simp only [toPy, PyData.eqv, toS_beq, eqL_iff]
  · split at h
    · rename_i h1
      cases h
      rw [eqL_iff, decide_eq_true_eq] at h1
      subst h1
      simp [toPy, PyData.eqv]
    · cases h
  · simp only [toPy, PyData.eqv]; exact eqVs_sound _ _ _ h
  · simp only [toPy, PyData.eqv]; exact eqVs_sound _ _ _ h
  · cases h
theorem eqVs_sound : ∀ (a b : List V) (r : Bool), eqVs a b = some r → PyData.eqvAll (toPys C a) (toPys C b) = r := by
  intro a b r h
  unfold eqVs at h
  split at h
  · cases h; rfl
  · rename_i x xs y ys
    split at h
    · rename_i h1
      simp only [toPys, PyData.eqvAll, eqV_sound _ _ _ h1, Bool.true_and]
      exact eqVs_sound _ _ _ h
    · rename_i h1
      cases h
      simp only [toPys, PyData.eqvAll, eqV_sound _ _ _ h1, Bool.false_and]
    · cases h
  · rename_i n1 n2
    cases h
    cases a with
    | nil =>
      cases b with
      | nil => exact (n1 rfl rfl).elim
      | cons y ys => rfl
    | cons x xs =>
      cases b with
      | nil => rfl
      | cons y ys => exact (n2 _ _ _ _ rfl rfl).elim
end

/-- a comparison of two values -/
noncomputable def OpB (C : Cx) (n : Nat) (op : CmpOp) (g : V → V → Option Bool) : Prop := ∀ (A : Around) (F : Fn) (s : Shared) (x y : V) (a b : Value) (r : Bool) (E : Value → Shared → Prop) (Q : Value → Shared → Prop),
  Room n A → Hp C F s → Rd C F x a → Rd C F y b → g x y = some r → Q (.bool r) s → wpAny C.M A (compareOp op a b) Q E s

theorem op_eq : OpB C n .Eq eqT := fun A F s x y a b r E Q R H rx ry e q => by
  obtain ⟨hk, e⟩ := chk_some e
  obtain ⟨h1, h2⟩ := Bool.and_eq_true_iff.mp hk
  obtain ⟨⟨as, ra⟩, c1, d1⟩ := reads_of H 4 x a h1 rx
  obtain ⟨⟨bs, rb⟩, c2, d2⟩ := reads_of H 4 y b h2 ry
  have := R.line
  refine SeqAt.compareEq_reads ra rb c1 c2 (by have : min (toPy C x).depth (toPy C y).depth ≤ 4 := Nat.le_trans (Nat.min_le_left _ _) d1; omega) ?_
  rw [eqV_sound _ _ _ e]; exact q
theorem op_ne : OpB C n .NotEq neT := fun A F s x y a b r E Q R H rx ry e q => by
  unfold neT nt at e
  obtain ⟨b', e1, e2⟩ := ob_some e
  clear e
  cases e2
  obtain ⟨hk, e⟩ := chk_some e1
  obtain ⟨h1, h2⟩ := Bool.and_eq_true_iff.mp hk
  obtain ⟨⟨as, ra⟩, c1, d1⟩ := reads_of H 4 x a h1 rx
  obtain ⟨⟨bs, rb⟩, c2, d2⟩ := reads_of H 4 y b h2 ry
  have := R.line
  refine SeqAt.compareNe_reads ra rb c1 c2 (by have : min (toPy C x).depth (toPy C y).depth ≤ 4 := Nat.le_trans (Nat.min_le_left _ _) d1; omega) ?_
  rw [eqV_sound _ _ _ e]; exact q
theorem leI_iff {a b : Int} : leI a b = decide (a ≤ b) := by
  cases a <;> cases b <;> simp only [leI] <;> rw [Bool.eq_iff_iff] <;> simp <;> omega
theorem op_le : OpB C n .LtE leV := fun A F s x y a b r E Q R H rx ry e q => by
  unfold leV at e
  split at e
  · cases e
    simp only [Rd] at rx ry
    obtain ⟨t, rfl⟩ := rx; obtain ⟨u, rfl⟩ := ry
    rw [leI_iff] at q
    exact P.le_int q
  · cases e
theorem op_ge : OpB C n .GtE geV := fun A F s x y a b r E Q R H rx ry e q => by
  unfold geV leV at e
  split at e
  · cases e
    simp only [Rd] at rx ry
    obtain ⟨t, rfl⟩ := rx; obtain ⟨u, rfl⟩ := ry
    rw [leI_iff] at q
    exact P.ge_int q
  · cases e
theorem beq_bool (a b : Bool) : (Value.bool a == Value.bool b) = (a == b) := by cases a <;> cases b <;> decide
theorem op_is : OpB C n .Is isV := fun A F s x y a b r E Q R H rx ry e q => by
  unfold isV at e
  split at e
  · cases e
    simp only [Rd] at rx ry
    subst rx ry
    exact wpAny_is_plain rfl (by rw [beq_bool]; exact q)
  · cases e
theorem op_isnt : OpB C n .IsNot isntV := fun A F s x y a b r E Q R H rx ry e q => by
  unfold isntV nt at e
  obtain ⟨b', e1, e2⟩ := ob_some e
  clear e
  cases e2
  have e := e1
  clear e1
  unfold isV at e
  split at e
  · cases e
    simp only [Rd] at rx ry
    subst rx ry
    exact wpAny_isNot_plain rfl (by rw [beq_bool]; exact q)
  · cases e
theorem op_in : OpB C n .In inV := fun A F s x y a b r E Q R H rx ry e q => by
  unfold inV at e
  split at e
  · rename_i c l
    cases e
    simp only [Rd] at rx ry
    obtain ⟨_, t, rfl⟩ := rx; obtain ⟨_, u, rfl⟩ := ry
    refine SB.contains ?_
    rw [show Txt.contains (toS l) (toS [c]) = decide (c ∈ l) from StrLaws.found_one _ _]
    rw [show decide (c ∈ l) = l.any (Nat.beq c) by rw [Bool.eq_iff_iff]; simp]
    exact q
  · cases e
end Mine.MI
end
-- MiX
section
namespace Mine.MI
variable {C : Cx} {n : Nat} {T : St}

theorem sem_cmp {l r : Expr} {op : CmpOp} {p : Pos} {f g : D} {h : V → V → Option Bool} (ho : OpB C n op h) (hl : SemE C n T l f) (hr : SemE C n T r g) (hm : behindInMarks op r = false) :
    SemE C n T (.Compare l [op] [r] p) (ofB (toB h f g)) := fun A env F W ρ s d R I e => by
  obtain ⟨b, e1, e2⟩ := ob_some e
  cases e2
  obtain ⟨x, ex, e3⟩ := ob_some e1
  obtain ⟨y, ey, e4⟩ := ob_some e3
  refine wpAny_Compare1 (wpAny_mono (hl A env F W ρ s x R I ex) (fun a s₁ q => ?_) fun _ _ z => z) hm
  obtain ⟨F₁, e₁, h₁, r₁⟩ := q
  refine wpAny_mono (hr A env F₁ W ρ s₁ y R (I.ev e₁ h₁) ey) (fun c s₂ q => ?_) fun _ _ z => z
  obtain ⟨F₂, e₂, h₂, r₂⟩ := q
  exact ho A F₂ s₂ x y a c b _ _ R h₂ (r₁.mono e₂.sub) r₂ e4 ⟨F₂, Sp.trans e₁ e₂, h₂, rd_bool b⟩

/-- a test -/
noncomputable def SemB (C : Cx) (n : Nat) (T : St) (e : Expr) (f : DB) : Prop := ∀ (A : Around) (env : Env) (F : Fn) (W : Addr → Prop) (ρ : Rho) (s : Shared) (b : Bool),
  Room n A → Inv C T env F W ρ s → f ρ = some b → wpAny C.M A (isTrue e env (eval e env)) (fun c s' => c = b ∧ ∃ F', Ev F s F' s' ∧ Hp C F' s') (fun _ _ => False) s

theorem semB_cmp {l r : Expr} {op : CmpOp} {p : Pos} {f g : D} {h : V → V → Option Bool} (ho : OpB C n op h) (hl : SemE C n T l f) (hr : SemE C n T r g) (hm : behindInMarks op r = false) :
    SemB C n T (.Compare l [op] [r] p) (toB h f g) := fun A env F W ρ s b R I e1 => by
  obtain ⟨x, ex, e3⟩ := ob_some e1
  obtain ⟨y, ey, e4⟩ := ob_some e3
  refine wpAny_isTrue_Compare1 (wpAny_mono (hl A env F W ρ s x R I ex) (fun a s₁ q => ?_) fun _ _ z => z) hm
  obtain ⟨F₁, e₁, h₁, r₁⟩ := q
  refine wpAny_mono (hr A env F₁ W ρ s₁ y R (I.ev e₁ h₁) ey) (fun c s₂ q => ?_) fun _ _ z => z
  obtain ⟨F₂, e₂, h₂, r₂⟩ := q
  exact ho A F₂ s₂ x y a c b _ _ R h₂ (r₁.mono e₂.sub) r₂ e4 (wpAny_truthy_bool ⟨rfl, F₂, Sp.trans e₁ e₂, h₂⟩)
theorem semB_val {e : Expr} {f : D} (h : SemE C n T e f) (he : ∀ env whole, isTrue e env whole = (do let v ← whole; standAt e.pos; holding [v] (truthy v))) : SemB C n T e (tru f) := fun A env F W ρ s b R I q => by
  unfold tru at q
  split at q
  · rename_i c hc
    cases q
    refine wpAny_isTrue_value (wpAny_mono (h A env F W ρ s _ R I hc) (fun v s₁ q => ?_) fun _ _ z => z) (he _ _)
    obtain ⟨F₁, e₁, h₁, r₁⟩ := q
    simp only [Rd] at r₁
    subst r₁
    exact wpAny_truthy_bool ⟨rfl, F₁, e₁, h₁⟩
  · cases q
theorem semB_and {a b : Expr} {p : Pos} {f g : DB} (ha : SemB C n T a f) (hb : SemB C n T b g) : SemB C n T (.BoolOp .And [a, b] p) (andB f g) := fun A env F W ρ s r R I q => by
  refine wpAny_isTrue_BoolOp (wpAny_allTrue_And_cons ?_)
  unfold andB at q
  split at q
  · rename_i h
    refine wpAny_mono (ha A env F W ρ s _ R I h) (fun c s₁ z => ?_) fun _ _ z => z
    obtain ⟨rfl, F₁, e₁, h₁⟩ := z
    refine wpAny_allTrue_And_cons (wpAny_mono (hb A env F₁ W ρ s₁ r R (I.ev e₁ h₁) q) (fun c s₂ z => ?_) fun _ _ z => z)
    obtain ⟨rfl, F₂, e₂, h₂⟩ := z
    cases c
    · exact ⟨rfl, F₂, Sp.trans e₁ e₂, h₂⟩
    · exact wpAny_allTrue_And_nil ⟨rfl, F₂, Sp.trans e₁ e₂, h₂⟩
  · rename_i h
    refine wpAny_mono (ha A env F W ρ s _ R I q) (fun c s₁ z => ?_) fun _ _ z => z
    obtain ⟨rfl, F₁, e₁, h₁⟩ := z
    cases c
    · exact ⟨rfl, F₁, e₁, h₁⟩
    · exact absurd q h
theorem semB_or {a b : Expr} {p : Pos} {f g : DB} (ha : SemB C n T a f) (hb : SemB C n T b g) : SemB C n T (.BoolOp .Or [a, b] p) (orB f g) := fun A env F W ρ s r R I q => by
  refine wpAny_isTrue_BoolOp (wpAny_allTrue_Or_cons ?_)
  unfold orB at q
  split at q
  · rename_i h
    refine wpAny_mono (ha A env F W ρ s _ R I h) (fun c s₁ z => ?_) fun _ _ z => z
    obtain ⟨rfl, F₁, e₁, h₁⟩ := z
    refine wpAny_allTrue_Or_cons (wpAny_mono (hb A env F₁ W ρ s₁ r R (I.ev e₁ h₁) q) (fun c s₂ z => ?_) fun _ _ z => z)
    obtain ⟨rfl, F₂, e₂, h₂⟩ := z
    cases c
    · exact wpAny_allTrue_Or_nil ⟨rfl, F₂, Sp.trans e₁ e₂, h₂⟩
    · exact ⟨rfl, F₂, Sp.trans e₁ e₂, h₂⟩
  · rename_i h
    refine wpAny_mono (ha A env F W ρ s _ R I q) (fun c s₁ z => ?_) fun _ _ z => z
    obtain ⟨rfl, F₁, e₁, h₁⟩ := z
    cases c
    · exact absurd q h
    · exact ⟨rfl, F₁, e₁, h₁⟩
theorem sem_ite {t a b : Expr} {p : Pos} {ft : DB} {fa fb : D} (ht : SemB C n T t ft) (ha : SemE C n T a fa) (hb : SemE C n T b fb) : SemE C n T (.IfExp t a b p) (ite ft fa fb) := fun A env F W ρ s d R I e => by
  unfold ite at e
  refine wpAny_IfExp ?_
  split at e
  · rename_i h
    refine wpAny_mono (ht A env F W ρ s _ R I h) (fun c s₁ z => ?_) fun _ _ z => z
    obtain ⟨rfl, F₁, e₁, h₁⟩ := z
    exact wpAny_mono (ha A env F₁ W ρ s₁ d R (I.ev e₁ h₁) e) (fun v s₂ q => Ret.trans e₁ q) fun _ _ z => z
  · rename_i h
    refine wpAny_mono (ht A env F W ρ s _ R I h) (fun c s₁ z => ?_) fun _ _ z => z
    obtain ⟨rfl, F₁, e₁, h₁⟩ := z
    exact wpAny_mono (hb A env F₁ W ρ s₁ d R (I.ev e₁ h₁) e) (fun v s₂ q => Ret.trans e₁ q) fun _ _ z => z
  · cases e

/-- some expressions one behind the other, as the arguments of a call or the items of a display -/
noncomputable def SemEs (C : Cx) (n : Nat) (T : St) (es : List Expr) (fs : List D) : Prop := ∀ (pos : Pos) (A : Around) (env : Env) (F : Fn) (W : Addr → Prop) (ρ : Rho) (s : Shared) (ds : List V),
  Room n A → Inv C T env F W ρ s → evs fs ρ = some ds → wpAny C.M A (spliced (backTo pos (starEach es env))) (fun vs s' => ∃ F', Ev F s F' s' ∧ Hp C F' s' ∧ RdL C F' ds vs) (fun _ _ => False) s
theorem sem_nil : SemEs C n T [] [] := fun pos A env F W ρ s ds R I e => by
  cases e
  exact args_nil ⟨F, Sp.refl, I.hp, by simp [RdL]⟩
theorem sem_cons {e : Expr} {es : List Expr} {f : D} {fs : List D} (h : SemE C n T e f) (hs : SemEs C n T es fs) (hn : ∀ env, starEach (e :: es) env = (false, eval e env) :: starEach es env) : SemEs C n T (e :: es) (f :: fs) :=
  fun pos A env F W ρ s ds R I q => by
    obtain ⟨d, e1, q⟩ := ob_some q
    obtain ⟨ds', e2, q⟩ := ob_some q
    cases q
    refine args_cons (wpAny_mono (h A env F W ρ s d R I e1) (fun v s₁ z => ?_) fun _ _ z => z) (hn env)
    obtain ⟨F₁, v₁, h₁, r₁⟩ := z
    refine wpAny_mono (hs pos A env F₁ W ρ s₁ ds' R (I.ev v₁ h₁) e2) (fun vs s₂ z => ?_) fun _ _ z => z
    obtain ⟨F₂, v₂, h₂, r₂⟩ := z
    exact ⟨F₂, Sp.trans v₁ v₂, h₂, by simp only [RdL]; exact ⟨v, vs, rfl, r₁.mono v₂.sub, r₂⟩⟩
theorem evs_length : ∀ {fs : List D} {ρ : Rho} {ds : List V}, evs fs ρ = some ds → ds.length = fs.length
  | [], _, _, e => by cases e; rfl
  | f :: fs, ρ, _, q => by
    obtain ⟨d, e1, q⟩ := ob_some q
    obtain ⟨ds', e2, q⟩ := ob_some q
    cases q
    simp [evs_length e2]
theorem rd_tup_new {F : Fn} {xs : List V} {vs : List Value} {a : Addr} {k : Nat} (h : F a = some { cls := .type "tuple", data := .seq vs.toArray k }) (r : RdL C F xs vs) : Rd C F (.tup xs) (.ref a) := by
  simp only [Rd]; exact ⟨a, _, _, k, rfl, h, rfl, rfl, r⟩
theorem sem_tup {es : List Expr} {fs : List D} {k : Nat} {p : Pos} (h : SemEs C n T es fs) (hl : Nat.ble fs.length 1000 = true) : SemE C n T (.Tuple es k p) (tupE fs) := fun A env F W ρ s d R I e => by
  obtain ⟨ds, e1, e2⟩ := ob_some e
  cases e2
  refine wpAny_Tuple (wpAny_mono (h p A env F W ρ s ds R I e1) (fun vs s₁ q => ?_) fun _ _ z => z)
  obtain ⟨F₁, v₁, h₁, r₁⟩ := q
  have hl := Nat.le_of_ble_eq_true hl
  refine ⟨by rw [length_of_rdL r₁, evs_length e1]; show _ ≤ 2 ^ 24; omega, ?_⟩
  obtain ⟨v₂, h₂⟩ := pushed h₁ { cls := .type "tuple", data := .seq vs.toArray } rfl s₁.toks
  exact ⟨_, Sp.trans v₁ v₂, h₂, rd_tup_new Fn.put_self (RdL.mono v₂.sub r₁)⟩
theorem sem_lst {es : List Expr} {fs : List D} {p : Pos} (h : SemEs C n T es fs) (hl : Nat.ble fs.length 1000 = true) : SemE C n T (.List es p) (lstE fs) := fun A env F W ρ s d R I e => by
  obtain ⟨ds, e1, e2⟩ := ob_some e
  cases e2
  refine wpAny_List (wpAny_mono (h p A env F W ρ s ds R I e1) (fun vs s₁ q => ?_) fun _ _ z => z)
  obtain ⟨F₁, v₁, h₁, r₁⟩ := q
  have hl := Nat.le_of_ble_eq_true hl
  refine ⟨by rw [length_of_rdL r₁, evs_length e1]; show _ ≤ 2 ^ 24; omega, ?_⟩
  obtain ⟨v₂, h₂⟩ := pushed h₁ { cls := .type "list", data := .seq vs.toArray } rfl s₁.toks
  exact ⟨_, Sp.trans v₁ v₂, h₂, rd_list_new Fn.put_self (RdL.mono v₂.sub r₁)⟩

theorem Hp.K {F : Fn} {s : Shared} (h : Hp C F s) : (K C.w.params).In s.heap := C.X.keeps fun b o e => h.inn _ _ (h.base _ _ e)
/-- a global name that the program's top has bound -/
theorem wp_glob {x : Str} {v : Value} {p : Pos} {A : Around} {env : Env} {F : Fn} {W : Addr → Prop} {ρ : Rho} {s : Shared} {Q : Value → Shared → Prop} {E : Value → Shared → Prop} (hg : ∀ P, nsIn (K P) mainGlobals x = some (some v)) (hd : (x == ("__debug__" : Str)) = false)
    (I : Inv C T env F W ρ s) (hx : x ∈ T.globs) (h : Q v s) : wpAny C.M A (eval (.Name x p) env) Q E s :=
  Calls.Name_function_global I.kind (I.globs.1 x hx) (Calls.loadGlobal_global (mg := C.mg) (by rw [I.gl]; exact C.T.g.keeps fun b o e => I.hp.inn _ _ (I.hp.base _ _ e)) (mg_of C.X C.T.g (hg _)) h) hd
theorem wp_builtin {x : Str} {v : Value} {p : Pos} {A : Around} {env : Env} {F : Fn} {W : Addr → Prop} {ρ : Rho} {s : Shared} {Q : Value → Shared → Prop} {E : Value → Shared → Prop} (hg : ∀ P, nsIn (K P) mainGlobals x = some none) (hv : bootBuiltins x = some v) (hn : x ≠ "__name__") (hd : (x == ("__debug__" : Str)) = false)
    (I : Inv C T env F W ρ s) (hx : x ∈ T.globs) (h : Q v s) : wpAny C.M A (eval (.Name x p) env) Q E s :=
  Calls.Name_function_global I.kind (I.globs.1 x hx) (Calls.loadGlobal_builtin (mg := C.mg) (mb := C.mb) (by rw [I.gl]; exact C.T.g.keeps fun b o e => I.hp.inn _ _ (I.hp.base _ _ e)) (mg_none_of C.X C.T.g (hg _))
    (by rw [I.bi]; exact C.T.b.keeps fun b o e => I.hp.inn _ _ (I.hp.base _ _ e)) ((C.T.builtins x hn).trans hv) h) hd
end Mine.MI
end
-- MiY
section
namespace Mine.MI
variable {C : Cx} {n : Nat} {T : St}

theorem nth_get? {α : Type} : ∀ (l : List α) (k : Nat), nth l k = l[k]?
  | [], _ => by simp [nth]
  | a :: r, 0 => by simp [nth]
  | a :: r, k + 1 => by simp [nth, nth_get? r k]
theorem rdL_get {F : Fn} : ∀ {xs : List V} {vs : List Value} {k : Nat} {x : V}, RdL C F xs vs → xs[k]? = some x → ∃ v, vs[k]? = some v ∧ Rd C F x v
  | [], _, _, _, _, e => by simp at e
  | x :: xs, _, k, y, h, e => by
    simp only [RdL] at h
    obtain ⟨v, r, rfl, h1, h2⟩ := h
    cases k with
    | zero => simp at e; subst e; exact ⟨v, rfl, h1⟩
    | succ k => simp at e ⊢; exact rdL_get h2 e
theorem rdL_drop {F : Fn} : ∀ {xs : List V} {vs : List Value} (k : Nat), RdL C F xs vs → RdL C F (xs.drop k) (vs.drop k)
  | _, _, 0, h => h
  | [], _, k + 1, h => by simp only [RdL] at h; subst h; simp [RdL]
  | x :: xs, _, k + 1, h => by
    simp only [RdL] at h
    obtain ⟨v, r, rfl, h1, h2⟩ := h
    exact rdL_drop k h2

theorem dictAt {F : Fn} {s : Shared} (H : Hp C F s) {ks : List (List Nat)} {xs : List V} {v : Value} (r : Rd C F (.dct ks xs) v) :
    ∃ a kvs, v = .ref a ∧ (a == sysModules) = false ∧ s.heap.DictOf C.knd a kvs ∧ kvs.map (·.1) = ks.map toS ∧ RdL C F xs (kvs.map (·.2)) := by
  simp only [Rd] at r
  obtain ⟨a, o, kvs, rfl, h1, h2, h3, h4, _, h5⟩ := r
  obtain ⟨es, ep, g⟩ := h3
  exact ⟨a, kvs, rfl, h2, ⟨o, es, ep, H.inn _ _ h1, g⟩, h4, h5⟩
theorem toS_inj {a b : List Nat} (h : toS a = toS b) : a = b := by simpa [toS] using h
theorem dget_at {F : Fn} (k : List Nat) : ∀ {ks : List (List Nat)} {xs : List V} {kvs : List (Str × Value)}, kvs.map (·.1) = ks.map toS → RdL C F xs (kvs.map (·.2)) →
    match dget k ks xs with | some x => ∃ v, valueAt kvs (toS k) = some v ∧ Rd C F x v | none => valueAt kvs (toS k) = none
  | [], xs, kvs, h, r => by
    have : kvs = [] := by simpa using h
    subst this
    simp [dget, valueAt]
  | j :: ks, xs, [], h, r => by simp at h
  | j :: ks, [], kv :: kvs, h, r => by simp [RdL] at r
  | j :: ks, x :: xs, kv :: kvs, h, r => by
    simp only [List.map_cons, List.cons.injEq] at h
    simp only [List.map_cons, RdL] at r
    obtain ⟨v, r', e, r1, r2⟩ := r
    injection e with e1 e2
    subst e1 e2
    have ih := dget_at k h.2 r2
    unfold dget
    split
    · rename_i x' e
      split at e
      · rename_i hj
        rw [eqL_iff, decide_eq_true_eq] at hj
        cases e
        subst hj
        exact ⟨kv.2, by simp [valueAt, h.1], r1⟩
      · rename_i hj
        rw [eqL_iff, decide_eq_false_iff_not] at hj
        rw [e] at ih
        obtain ⟨v, h1, h2⟩ := ih
        refine ⟨v, ?_, h2⟩
        have : ¬ kv.1 = toS k := fun q => hj (toS_inj (h.1.symm.trans q))
        simpa [valueAt, List.find?_cons, this] using h1
    · rename_i e
      split at e
      · cases e
      · rename_i hj
        rw [eqL_iff, decide_eq_false_iff_not] at hj
        rw [e] at ih
        have : ¬ kv.1 = toS k := fun q => hj (toS_inj (h.1.symm.trans q))
        simpa [valueAt, List.find?_cons, this] using ih

theorem seqIdx {k len : Nat} (h : k < len) : seqIndex? (k : Int) len = some k := by
  unfold seqIndex?
  have h1 : ¬ ((k : Int) < 0) := by omega
  have h2 : (decide ((0 : Int) ≤ (k : Int)) && decide ((k : Int) < (len : Int))) = true := by simp; omega
  simp only [h1, if_false]
  rw [if_pos (by simpa using h)]
  simp
/-- an item, by the value and the index -/
theorem wp_item {A : Around} {F : Fn} {s : Shared} {x y d : V} {a b : Value} (R : Room n A) (H : Hp C F s) (rx : Rd C F x a) (ry : Rd C F y b) (e : item x y = some d) :
    ∃ (Ty id : String), s.TypeIs a Ty ∧ typeLookup (.type Ty) "__getitem__" = pure (some (.builtin id)) ∧ wpAny C.M A (getItem a b) (Ret C F s d) (fun _ _ => False) s := by
  unfold item at e
  split at e
  · rename_i l k
    obtain ⟨hk, e⟩ := chk_some e
    have hk := Nat.le_of_ble_eq_true hk
    rw [nth_get?] at e
    obtain ⟨p, vs, rfl, l1, r1⟩ := isList_of H rx
    simp only [Rd] at ry
    obtain ⟨u, rfl⟩ := ry
    obtain ⟨v, h1, h2⟩ := rdL_get r1 e
    exact ⟨_, _, l1.typeIs, slot_list_getitem.lookup, wpAny_getItem_list l1 (by simp) (by simp only [Int.ofNat_eq_natCast]; omega) (by simpa using h1) (Ret.now H h2)⟩
  · rename_i l k
    obtain ⟨hk, e⟩ := chk_some e
    have hk := Nat.le_of_ble_eq_true hk
    rw [nth_get?] at e
    simp only [Rd] at rx ry
    obtain ⟨p, o, vs, m, rfl, h1, h2, h3, h4⟩ := rx
    obtain ⟨u, rfl⟩ := ry
    obtain ⟨v, g1, g2⟩ := rdL_get h4 e
    have hlt : k < vs.size := by
      have := (List.getElem?_eq_some_iff.mp g1).1
      simpa using this
    have ht : IsTup s.heap p vs := ⟨o, H.inn _ _ h1, h2, m, h3⟩
    refine ⟨_, _, ht.typeIs, PyProof.Rows.slot_tuple_getitem.lookup, getItem_tuple (j := k) ht (by simp only [Int.ofNat_eq_natCast]; omega) (by simp only [Int.ofNat_eq_natCast]; omega) ?_ (by simpa using g1) (Ret.now H g2)⟩
    exact seqIdx hlt
  · rename_i l k
    obtain ⟨hk, e⟩ := chk_some e
    have hk := Nat.le_of_ble_eq_true hk
    obtain ⟨c, e1, e⟩ := ob_some e
    cases e
    rw [nth_get?] at e1
    simp only [Rd] at rx ry
    obtain ⟨hx, t, rfl⟩ := rx
    obtain ⟨u, rfl⟩ := ry
    have hlt : k < l.length := (List.getElem?_eq_some_iff.mp e1).1
    refine ⟨"str", _, typeIs_str _ _ _, PySem.F.slot_str_getitem.lookup, P.getItem_str (c := c) ?_ ?_ (Ret.tok H (rd_str (fun z hz => ?_) _) _)⟩
    · simp only [Int.ofNat_eq_natCast]; rw [decide_eq_false (by omega), decide_eq_false (by omega)]; rfl
    · rw [show Int.ofNat k = (k : Int) from rfl, toS_length, seqIdx hlt]
      simpa [toS] using e1
    · simp at hz; subst hz; exact hx _ (List.mem_of_getElem? e1)
  · rename_i ks xs k
    obtain ⟨p, kvs, rfl, hp, hd, hk, hr⟩ := dictAt H rx
    simp only [Rd] at ry
    obtain ⟨hs, u, rfl⟩ := ry
    have := dget_at k hk hr
    rw [e] at this
    obtain ⟨v, h1, h2⟩ := this
    exact ⟨"dict", _, hd.mapOf.typeIs, PySem.F.slot_dict_getitem.lookup, wpAny_getItem_of (strKind_is _ _ _ _) hd.mapOf h1 (Ret.tok H h2 _)⟩
  · cases e

theorem sem_sub {v i : Expr} {p : Pos} {f g : D} (hv : SemE C n T v f) (hi : SemE C n T i g) (hs : ∀ o j, subscripted i false o j = operate [o, j] (getItem o j)) : SemE C n T (.Subscript v i p) (bop item f g) := fun A env F W ρ s d R I e => by
  obtain ⟨x, ex, e⟩ := ob_some e
  obtain ⟨y, ey, e⟩ := ob_some e
  refine Subscript_ (wpAny_mono (hv A env F W ρ s x R I ex) (fun a s₁ q => ?_) fun _ _ z => z)
  obtain ⟨F₁, e₁, h₁, r₁⟩ := q
  refine wpAny_mono (hi A env F₁ W ρ s₁ y R (I.ev e₁ h₁) ey) (fun b s₂ q => ?_) fun _ _ z => z
  obtain ⟨F₂, e₂, h₂, r₂⟩ := q
  obtain ⟨Ty, id, t1, t2, t3⟩ := wp_item R h₂ (r₁.mono e₂.sub) r₂ e
  exact tail_any t1 t2 (wpAny_mono t3 (fun v s₃ q => Ret.trans (Sp.trans e₁ e₂) q) fun _ _ z => z) (hs a b)

/-- a slice's part -/
noncomputable def PartOf (C : Cx) (F : Fn) : Option V → Value → Prop
  | none, v => v = .none
  | some d, v => Rd C F d v
theorem strIdx_none_lo (b : Int) (len : Nat) : Builtin.Str.strSliceIndices none (some b) 1 len = Builtin.Str.strSliceIndices (some ((0 : Nat) : Int)) (some b) 1 len := by
  simp [Builtin.Str.strSliceIndices]
  rw [show max (0 : Int) (min 0 (len : Int)) = 0 by omega]
theorem strIdx_none_hi (a : Int) (len : Nat) : Builtin.Str.strSliceIndices (some a) none 1 len = Builtin.Str.strSliceIndices (some a) (some ((len : Nat) : Int)) 1 len := by
  simp [Builtin.Str.strSliceIndices]
  rw [if_neg (show ¬ ((len : Int) < 0) by omega), show max (0 : Int) (min (len : Int) (len : Int)) = len by omega]
theorem post_slice {F : Fn} {s : Shared} (H : Hp C F s) {l : List Nat} (hl : strV l) {t : Tok} {lo hi : Option (Int × Tok)} {i j : Nat} (hij : i ≤ j) (hj : j ≤ l.length) (hz : l.length ≤ 10000)
    (e : Builtin.Str.strSliceIndices (lo.map (·.1)) (hi.map (·.1)) 1 l.length = Builtin.Str.strSliceIndices (some (i : Int)) (some (j : Int)) 1 l.length)
    {Q : Value → Shared → Prop} (hQ : ∀ v s', Ret C F s (.str (cutL l i j)) v s' → Q v s') :
    (sliceMade (toS l) t lo hi none).post Q s := by
  have hv : strV (cutL l i j) := fun c hc => hl c (List.mem_of_mem_drop (List.mem_of_mem_take hc))
  unfold sliceMade slicePicked
  simp only [Option.map_none, Option.getD_none, toS_length]
  rw [e, StrLaws.strSliceIndices_plain hij hj]
  split
  · rename_i h
    simp only [beq_self_eq_true, Bool.true_and, List.length_map, List.length_range, beq_iff_eq] at h
    have h1 : i = 0 := by omega
    have h2 : j = l.length := by omega
    subst h1 h2
    refine hQ _ _ ?_
    have : cutL l 0 l.length = l := by simp [cutL]
    rw [this]
    exact Ret.now H (rd_str hl _)
  · have hp := StrLaws.sliced_plain (toS l) (a := i) (b := j) hij (by rw [toS_length]; exact hj)
    rw [toS_length, StrLaws.strSliceIndices_plain hij hj] at hp
    rw [hp]
    have ec : (toS l).cps.toList = l := by simp [toS]
    rw [ec]
    refine ⟨?_, hQ _ _ (Ret.tok H (rd_str hv _) _)⟩
    show (toS (cutL l i j)).length ≤ 2 ^ 24
    rw [toS_length]
    have : (cutL l i j).length ≤ l.length := by simp [cutL]; omega
    omega
theorem part_int {F : Fn} {k : Nat} {v : Value} (h : PartOf C F (some (.int (.ofNat k))) v) : ∃ t, v = partValue (some ((k : Int), t)) := by
  simp only [PartOf, Rd] at h
  obtain ⟨t, rfl⟩ := h
  exact ⟨t, rfl⟩

theorem wp_cut {A : Around} {F : Fn} {s : Shared} {x d : V} {a vl vu : Value} {lo hi : Option V} (R : Room n A) (H : Hp C F s) (rx : Rd C F x a) (rl : PartOf C F lo vl) (rh : PartOf C F hi vu) (e : slc x lo hi = some d) :
    ∃ (Ty id : String), ({ s with heap := s.heap.push { cls := .type "slice", data := .fields #[vl, vu, .none] } } : Shared).TypeIs a Ty ∧ typeLookup (.type Ty) "__getitem__" = pure (some (.builtin id)) ∧
      wpAny C.M A (getItem a (.ref s.heap.objs.size)) (Ret C F s d) (fun _ _ => False) { s with heap := s.heap.push { cls := .type "slice", data := .fields #[vl, vu, .none] } } := by
  have G := grown (s' := { s with heap := s.heap.push { cls := .type "slice", data := .fields #[vl, vu, .none] } }) H (fun _ _ e => Heap.get?_push_of_some _ e) rfl H.gens
  obtain ⟨g1, g2⟩ := G
  unfold slc at e
  split at e
  · rename_i l j
    obtain ⟨hk, e⟩ := chk_some e
    cases e
    obtain ⟨h1, h2⟩ := Bool.and_eq_true_iff.mp hk
    have h1 := Nat.le_of_ble_eq_true h1
    have h2 := Nat.le_of_ble_eq_true h2
    simp only [Rd] at rx
    obtain ⟨hx, t, rfl⟩ := rx
    simp only [PartOf] at rl
    subst rl
    obtain ⟨u, rfl⟩ := part_int rh
    refine ⟨"str", _, typeIs_str _ _ _, PySem.F.slot_str_getitem.lookup, wpAny_getItem_str_slice (l := none) (u := some ((j : Int), u)) (st := none) ⟨_, Heap.get?_push_size _ rfl, rfl, rfl⟩ rfl ?_⟩
    have hc : l.take j = cutL l 0 j := by simp [cutL]
    rw [hc]
    exact post_slice g2 hx (lo := none) (hi := some ((j : Int), u)) (Nat.zero_le j) h1 h2 (strIdx_none_lo _ _) fun v s' q => Ret.trans g1 q
  · rename_i l i
    obtain ⟨hk, e⟩ := chk_some e
    cases e
    obtain ⟨h1, h2⟩ := Bool.and_eq_true_iff.mp hk
    have h1 := Nat.le_of_ble_eq_true h1
    have h2 := Nat.le_of_ble_eq_true h2
    simp only [Rd] at rx
    obtain ⟨hx, t, rfl⟩ := rx
    simp only [PartOf] at rh
    subst rh
    obtain ⟨u, rfl⟩ := part_int rl
    refine ⟨"str", _, typeIs_str _ _ _, PySem.F.slot_str_getitem.lookup, wpAny_getItem_str_slice (l := some ((i : Int), u)) (u := none) (st := none) ⟨_, Heap.get?_push_size _ rfl, rfl, rfl⟩ rfl ?_⟩
    have hc : l.drop i = cutL l i l.length := by simp only [cutL]; rw [List.take_of_length_le (by simp)]
    rw [hc]
    exact post_slice g2 hx (lo := some ((i : Int), u)) (hi := none) h1 (Nat.le_refl _) h2 (strIdx_none_hi _ _) fun v s' q => Ret.trans g1 q
  · rename_i l i j
    obtain ⟨hk, e⟩ := chk_some e
    cases e
    obtain ⟨h0, h1⟩ := Bool.and_eq_true_iff.mp hk
    obtain ⟨h1, h2⟩ := Bool.and_eq_true_iff.mp h1
    have h0 := Nat.le_of_ble_eq_true h0
    have h1 := Nat.le_of_ble_eq_true h1
    have h2 := Nat.le_of_ble_eq_true h2
    simp only [Rd] at rx
    obtain ⟨hx, t, rfl⟩ := rx
    obtain ⟨u, rfl⟩ := part_int rl
    obtain ⟨u', rfl⟩ := part_int rh
    refine ⟨"str", _, typeIs_str _ _ _, PySem.F.slot_str_getitem.lookup, wpAny_getItem_str_slice (l := some ((i : Int), u)) (u := some ((j : Int), u')) (st := none) ⟨_, Heap.get?_push_size _ rfl, rfl, rfl⟩ rfl ?_⟩
    exact post_slice g2 hx (lo := some ((i : Int), u)) (hi := some ((j : Int), u')) h0 h1 h2 rfl fun v s' q => Ret.trans g1 q
  · rename_i l i
    obtain ⟨hk, e⟩ := chk_some e
    cases e
    have hk := Nat.le_of_ble_eq_true hk
    obtain ⟨p, vs, rfl, l1, r1⟩ := isList_of H rx
    simp only [PartOf] at rh
    subst rh
    obtain ⟨u, rfl⟩ := part_int rl
    refine ⟨"list", _, Heap.IsList.typeIs (s := { s with heap := s.heap.push { cls := .type "slice", data := .fields #[partValue (some ((i : Int), u)), .none, .none] } }) (l1.push _), list_getitem_lookup,
      wpAny_getItem_list_slice (lo := some (i : Int)) (hi := none) (l1.push _) (Heap.IsSliceOf.new ..) (.int _ _) .none .none (by simp) ?_ (by rw [List.size_toArray, length_of_rdL r1]; show _ ≤ 2 ^ 24; omega)⟩
    rw [slicePick_from']
    obtain ⟨e1, h1⟩ := pushed g2 { cls := .type "list", data := .seq (vs.drop i).toArray } rfl s.toks
    exact Ret.trans g1 ⟨_, e1, h1, rd_list_new Fn.put_self (rdL_drop i (RdL.mono e1.sub (RdL.mono g1.sub r1)))⟩
  · cases e

theorem wp_slice {v : Expr} {lo hi : Option Expr} {q p : Pos} {x d : V} {dl dh : Option V} {A : Around} {env : Env} {F : Fn} {W : Addr → Prop} {ρ : Rho} {s : Shared} {f : D} (R : Room n A) (I : Inv C T env F W ρ s) (hv : SemE C n T v f) (ex : f ρ = some x)
    (hl : ∀ F s, Inv C T env F W ρ s → wpAny C.M A (evalPart lo env) (fun a s' => ∃ F', Ev F s F' s' ∧ Hp C F' s' ∧ PartOf C F' dl a) (fun _ _ => False) s)
    (hh : ∀ F s, Inv C T env F W ρ s → wpAny C.M A (evalPart hi env) (fun a s' => ∃ F', Ev F s F' s' ∧ Hp C F' s' ∧ PartOf C F' dh a) (fun _ _ => False) s)
    (e : slc x dl dh = some d) : wpAny C.M A (eval (.Subscript v (.Slice lo hi none q) p) env) (Ret C F s d) (fun _ _ => False) s := by
  refine Subscript_ (wpAny_mono (hv A env F W ρ s x R I ex) (fun a s₁ z => ?_) fun _ _ z => z)
  obtain ⟨F₁, e₁, h₁, r₁⟩ := z
  have I₁ := I.ev e₁ h₁
  refine wpAny_Slice (wpAny_mono (hl F₁ s₁ I₁) (fun vl s₂ z => ?_) fun _ _ z => z)
  obtain ⟨F₂, e₂, h₂, r₂⟩ := z
  have I₂ := I₁.ev e₂ h₂
  refine wpAny_mono (hh F₂ s₂ I₂) (fun vu s₃ z => ?_) fun _ _ z => z
  obtain ⟨F₃, e₃, h₃, r₃⟩ := z
  rw [evalPart_none]
  refine wpAny_pure ?_
  have mp : ∀ {dl : Option V} {vl : Value}, PartOf C F₂ dl vl → PartOf C F₃ dl vl := fun {dl} {vl} h => by
    cases dl with
    | none => exact h
    | some d => exact Rd.mono e₃.sub h
  obtain ⟨Ty, id, t1, t2, t3⟩ := wp_cut R h₃ ((r₁.mono e₂.sub).mono e₃.sub) (mp r₂) r₃ e
  exact tail_any t1 t2 (wpAny_mono t3 (fun v s₄ z => Ret.trans (Sp.trans e₁ (Sp.trans e₂ e₃)) z) fun _ _ z => z) rfl
theorem part_none {A : Around} {env : Env} {F : Fn} {s : Shared} (h : Hp C F s) : wpAny C.M A (evalPart none env) (fun a s' => ∃ F', Ev F s F' s' ∧ Hp C F' s' ∧ PartOf C F' none a) (fun _ _ => False) s := by
  rw [evalPart_none]; exact wpAny_pure ⟨F, Sp.refl, h, rfl⟩
theorem part_some {A : Around} {env : Env} {F : Fn} {W : Addr → Prop} {ρ : Rho} {s : Shared} {e : Expr} {f : D} {d : V} (R : Room n A) (h : SemE C n T e f) (I : Inv C T env F W ρ s) (q : f ρ = some d) :
    wpAny C.M A (evalPart (some e) env) (fun a s' => ∃ F', Ev F s F' s' ∧ Hp C F' s' ∧ PartOf C F' (some d) a) (fun _ _ => False) s := by
  rw [evalPart_some]; exact h A env F W ρ s d R I q
theorem sem_sliceH {v h : Expr} {q p : Pos} {f g : D} (hv : SemE C n T v f) (hh : SemE C n T h g) : SemE C n T (.Subscript v (.Slice none (some h) none q) p) (sliceH f g) := fun A env F W ρ s d R I e => by
  obtain ⟨x, ex, e⟩ := ob_some e
  obtain ⟨y, ey, e⟩ := ob_some e
  exact wp_slice R I hv ex (fun F s I => part_none I.hp) (fun F s I => part_some R hh I ey) e
theorem sem_sliceL {v l : Expr} {q p : Pos} {f g : D} (hv : SemE C n T v f) (hl : SemE C n T l g) : SemE C n T (.Subscript v (.Slice (some l) none none q) p) (sliceL f g) := fun A env F W ρ s d R I e => by
  obtain ⟨x, ex, e⟩ := ob_some e
  obtain ⟨y, ey, e⟩ := ob_some e
  exact wp_slice R I hv ex (fun F s I => part_some R hl I ey) (fun F s I => part_none I.hp) e
theorem sem_slice {v l h : Expr} {q p : Pos} {f g k : D} (hv : SemE C n T v f) (hl : SemE C n T l g) (hh : SemE C n T h k) : SemE C n T (.Subscript v (.Slice (some l) (some h) none q) p) (slice f g k) := fun A env F W ρ s d R I e => by
  obtain ⟨x, ex, e⟩ := ob_some e
  obtain ⟨y, ey, e⟩ := ob_some e
  obtain ⟨z, ez, e⟩ := ob_some e
  exact wp_slice R I hv ex (fun F s I => part_some R hl I ey) (fun F s I => part_some R hh I ez) e
end Mine.MI
end
-- MiZ
section
namespace Mine.MI
variable {C : Cx} {n : Nat} {T : St}

/-- an operation upon one value -/
noncomputable def OpU (C : Cx) (n : Nat) (op : Value → Sem Value) (g : V → Option V) : Prop := ∀ (A : Around) (F : Fn) (s : Shared) (x : V) (a : Value) (d : V),
  Room n A → Hp C F s → Rd C F x a → g x = some d → wpAny C.M A (op a) (Ret C F s d) (fun _ _ => False) s

/-- a call with plain arguments of a name of the builtins -/
theorem wp_args1 {e : Expr} {f : D} {x d : V} {p : Pos} {A : Around} {env : Env} {F : Fn} {W : Addr → Prop} {ρ : Rho} {s : Shared} {op : List Value → Sem Value} (R : Room n A) (I : Inv C T env F W ρ s) (h : SemE C n T e f) (ex : f ρ = some x)
    (hn : ∀ env, starEach [e] env = (false, eval e env) :: starEach [] env) (ho : ∀ F s a, Hp C F s → Rd C F x a → wpAny C.M A (op [a]) (Ret C F s d) (fun _ _ => False) s) :
    wpAny C.M A (spliced (backTo p (starEach [e] env))) (fun vs s₁ => wpAny C.M A (op vs) (Ret C F s d) (fun _ _ => False) s₁) (fun _ _ => False) s := by
  refine args_cons (wpAny_mono (h A env F W ρ s x R I ex) (fun v s₁ q => ?_) fun _ _ z => z) (hn env)
  obtain ⟨F₁, e₁, h₁, r₁⟩ := q
  exact args_nil (wpAny_mono (ho F₁ s₁ v h₁ r₁) (fun v s₂ q => Ret.trans e₁ q) fun _ _ z => z)

theorem sem_builtin1 {nm : Str} {id : String} {e : Expr} {q p : Pos} {f : D} {g : V → Option V} (hb : bootBuiltins nm = some (.builtin id)) (hg : ∀ P, nsIn (K P) mainGlobals nm = some none) (hn : nm ≠ "__name__") (hd : (nm == ("__debug__" : Str)) = false)
    (hx : nm ∈ T.globs) (ho : OpU C n (fun v => PySem.call (.builtin id) [v]) g) (h : SemE C n T e f) (hs : ∀ env, starEach [e] env = (false, eval e env) :: starEach [] env) : SemE C n T (.Call (.Name nm q) [e] [] p) (un g f) := fun A env F W ρ s d R I z => by
  obtain ⟨x, ex, z⟩ := ob_some z
  refine Call_Name rfl (wp_builtin hg hb hn hd I hx ?_)
  exact callWith_builtin1 (wp_args1 (op := fun vs => PySem.call (.builtin id) vs) R I h ex hs fun F s a H r => ho A F s x a d R H r z) (hs env) rfl
theorem sem_type1 {nm : Str} {id : String} {e : Expr} {q p : Pos} {f : D} {g : V → Option V} (hb : bootBuiltins nm = some (.type id)) (hg : ∀ P, nsIn (K P) mainGlobals nm = some none) (hn : nm ≠ "__name__") (hd : (nm == ("__debug__" : Str)) = false)
    (hx : nm ∈ T.globs) (ho : OpU C n (fun v => PySem.call (.type id) [v]) g) (h : SemE C n T e f) (hs : ∀ env, starEach [e] env = (false, eval e env) :: starEach [] env) : SemE C n T (.Call (.Name nm q) [e] [] p) (un g f) := fun A env F W ρ s d R I z => by
  obtain ⟨x, ex, z⟩ := ob_some z
  refine Call_Name rfl (wp_builtin hg hb hn hd I hx ?_)
  exact callWith_type1 (wp_args1 (op := fun vs => PySem.call (.type id) vs) R I h ex hs fun F s a H r => ho A F s x a d R H r z) (hs env) rfl

theorem op_len : OpU C n (fun v => PySem.call (.builtin "len") [v]) lenV := fun A F s x a d R H rx e => by
  unfold lenV at e
  split at e
  · rename_i l
    obtain ⟨hk, e⟩ := chk_some e
    cases e
    have hk := Nat.le_of_ble_eq_true hk
    simp only [Rd] at rx
    obtain ⟨p, o, vs, m, rfl, h1, h2, h3, h4⟩ := rx
    have hl := length_of_rdL h4
    have ht : IsTup s.heap p vs := ⟨o, H.inn _ _ h1, h2, m, h3⟩
    have hz : vs.size = l.length := by simpa using hl
    refine len_tuple ht (by rw [hz]; omega) ?_
    rw [hz]
    exact Ret.tok H (rd_int _ _) _
  · rename_i l
    obtain ⟨hk, e⟩ := chk_some e
    cases e
    have hk := Nat.le_of_ble_eq_true hk
    obtain ⟨p, vs, rfl, l1, r1⟩ := isList_of H rx
    have hz : vs.toArray.size = l.length := by simpa using length_of_rdL r1
    refine Calls.call_len_list l1 (by rw [hz]; omega) ?_
    rw [hz]
    exact Ret.tok H (rd_int _ _) _
  · rename_i l
    obtain ⟨hk, e⟩ := chk_some e
    cases e
    have hk := Nat.le_of_ble_eq_true hk
    simp only [Rd] at rx
    obtain ⟨hx, t, rfl⟩ := rx
    refine P.len_str (by rw [toS_length]; omega) ?_
    rw [toS_length]
    exact Ret.tok H (rd_int _ _) _
  · cases e

theorem op_tuple : OpU C n (fun v => PySem.call (.type "tuple") [v]) tupV := fun A F s x a d R H rx e => by
  unfold tupV at e
  split at e
  · rename_i l
    obtain ⟨hk, e⟩ := chk_some e
    cases e
    have hk := Nat.le_of_ble_eq_true hk
    obtain ⟨p, vs, rfl, l1, r1⟩ := isList_of H rx
    have hz := length_of_rdL r1
    refine call_tuple_list l1 (fun h' hk' => ?_) (by rw [List.size_toArray, hz]; show _ ≤ 2 ^ 24; omega)
    obtain ⟨g1, g2⟩ := grown (s' := { s with heap := h' }) H hk' rfl H.gens
    obtain ⟨e1, h1⟩ := pushed g2 { cls := .type "tuple", data := .seq vs.toArray } rfl s.toks
    exact Ret.trans g1 ⟨_, e1, h1, rd_tup_new Fn.put_self (RdL.mono e1.sub (RdL.mono g1.sub r1))⟩
  · cases e

/-- a list of ints -/
theorem ints_of {F : Fn} : ∀ {is : List Int} {vs : List Value}, RdL C F (is.map V.int) vs → ∃ ps : List (Int × Tok), vs.toArray = intItems ps.toArray ∧ ps.map (·.1) = is
  | [], _, h => by simp only [List.map_nil, RdL] at h; subst h; exact ⟨[], by simp [intItems], rfl⟩
  | i :: is, _, h => by
    simp only [List.map_cons, RdL] at h
    obtain ⟨v, r, rfl, h1, h2⟩ := h
    simp only [Rd] at h1
    obtain ⟨t, rfl⟩ := h1
    obtain ⟨ps, e1, e2⟩ := ints_of h2
    refine ⟨(i, t) :: ps, ?_, by simp [e2]⟩
    have e1 : r = ps.map fun p => .int p.1 p.2 := by simpa [intItems] using e1
    simp [intItems, e1]
theorem sumL_ints : ∀ {l : List V} {a r : Int}, sumL l a = some r → ∃ is : List Int, l = is.map V.int ∧ r = a + is.sum
  | [], a, r, e => by cases e; exact ⟨[], rfl, by simp⟩
  | x :: l, a, r, e => by
    cases x with
    | int i =>
      obtain ⟨is, e1, e2⟩ := sumL_ints (l := l) (a := a + i) e
      exact ⟨i :: is, by simp [e1], by simp [e2]; omega⟩
    | _ => cases e
theorem preSum_take (ps : List (Int × Tok)) : ∀ k, k ≤ ps.length → preSum (numAt ps.toArray) k = ((ps.take k).map (·.1)).sum
  | 0, _ => rfl
  | k + 1, h => by
    unfold preSum
    rw [preSum_take ps k (by omega), List.take_add_one, List.getElem?_eq_getElem (show k < ps.length by omega)]
    simp only [Option.toList_some, List.map_append, List.map_cons, List.map_nil, List.sum_append, List.sum_cons, List.sum_nil]
    simp [numAt, List.getElem?_eq_getElem (show k < ps.length by omega)]
theorem op_sum : OpU C n (fun v => PySem.call (.builtin "sum") [v]) sumV := fun A F s x a d R H rx e => by
  unfold sumV at e
  split at e
  · rename_i l
    obtain ⟨hk, e⟩ := chk_some e
    obtain ⟨i, e1, e⟩ := ob_some e
    cases e
    obtain ⟨is, rfl, e2⟩ := sumL_ints e1
    obtain ⟨p, vs, rfl, l1, r1⟩ := isList_of H rx
    obtain ⟨ps, q1, q2⟩ := ints_of r1
    rw [q1] at l1
    refine sum_intListG R.handled l1 fun h' tk t' hk' => ?_
    have hs : preSum (numAt ps.toArray) ps.toArray.size = i := by
      rw [List.size_toArray, preSum_take ps _ (Nat.le_refl _), List.take_length, q2, e2]; simp
    rw [hs]
    obtain ⟨g1, g2⟩ := grown (s' := { s with heap := h', toks := tk }) H hk' rfl H.gens
    exact ⟨F, g1, g2, rd_int _ _⟩
  · cases e

noncomputable def mx (a i : Int) : Int := match leI i a with | true => a | false => i
theorem maxL_ints : ∀ {l : List V} {a r : Int}, maxL l a = some r → ∃ is : List Int, l = is.map V.int ∧ r = is.foldl mx a
  | [], a, r, e => by cases e; exact ⟨[], rfl, rfl⟩
  | x :: l, a, r, e => by
    cases x with
    | int i =>
      obtain ⟨is, e1, e2⟩ := maxL_ints (l := l) (a := mx a i) e
      exact ⟨i :: is, by simp [e1], e2⟩
    | _ => cases e
theorem best_num (p : Int × Tok) (ps : List (Int × Tok)) : ∀ k, k ≤ ps.length → numAt (p :: ps).toArray (argBest (fun i j => decide (numAt (p :: ps).toArray i > numAt (p :: ps).toArray j)) k) = ((ps.take k).map (·.1)).foldl mx p.1
  | 0, _ => rfl
  | k + 1, h => by
    have ih := best_num p ps k (by omega)
    have hk : numAt (p :: ps).toArray (k + 1) = (ps[k]'(by omega)).1 := by simp [numAt, List.getElem?_eq_getElem (show k < ps.length by omega)]
    unfold argBest
    rw [List.take_add_one, List.getElem?_eq_getElem (show k < ps.length by omega)]
    simp only [Option.toList_some, List.map_append, List.map_cons, List.map_nil, List.foldl_append, List.foldl_cons, List.foldl_nil]
    rw [← ih]
    unfold mx
    rw [leI_iff]
    by_cases c : numAt (p :: ps).toArray (k + 1) > numAt (p :: ps).toArray (argBest (fun i j => decide (numAt (p :: ps).toArray i > numAt (p :: ps).toArray j)) k)
    · rw [if_pos (by simpa using c), hk, decide_eq_false (by rw [hk] at c; omega)]
    · rw [if_neg (by simpa using c), decide_eq_true (by rw [hk] at c; omega)]
theorem op_max1 : OpU C n (fun v => PySem.call (.builtin "max") [v]) max1 := fun A F s x a d R H rx e => by
  unfold max1 at e
  split at e
  · rename_i i l
    obtain ⟨hk, e⟩ := chk_some e
    obtain ⟨j, e1, e⟩ := ob_some e
    cases e
    obtain ⟨is, rfl, e2⟩ := maxL_ints e1
    obtain ⟨p, vs, rfl, l1, r1⟩ := isList_of H rx
    obtain ⟨ps, q1, q2⟩ := ints_of (is := i :: is) r1
    rw [q1] at l1
    cases ps with
    | nil => simp at q2
    | cons p ps =>
      simp only [List.map_cons, List.cons.injEq] at q2
      refine max_intList R.handled l1 (by simp) fun v h' tk hv hk' => ?_
      obtain ⟨t, rfl⟩ := intItems_at hv
      have hs := best_num p ps ps.length (Nat.le_refl _)
      rw [show (p :: ps).toArray.size - 1 = ps.length by simp, hs, List.take_length, q2.1, q2.2, ← e2]
      obtain ⟨g1, g2⟩ := grown (s' := { s with heap := h', toks := tk }) H hk' rfl H.gens
      exact ⟨F, g1, g2, rd_int _ _⟩
  · cases e

theorem sem_max2 {e1 e2 : Expr} {q p : Pos} {f g : D} (hb : bootBuiltins ("max" : Str) = some (.builtin "max")) (hg : ∀ P, nsIn (K P) mainGlobals ("max" : Str) = some none)
    (hx : ("max" : Str) ∈ T.globs) (h1 : SemE C n T e1 f) (h2 : SemE C n T e2 g) (hs : ∀ env, starEach [e1, e2] env = (false, eval e1 env) :: starEach [e2] env) (hs2 : ∀ env, starEach [e2] env = (false, eval e2 env) :: starEach [] env) :
    SemE C n T (.Call (.Name "max" q) [e1, e2] [] p) (bop max2 f g) := fun A env F W ρ s d R I z => by
  obtain ⟨x, ex, z⟩ := ob_some z
  obtain ⟨y, ey, z⟩ := ob_some z
  refine Call_Name rfl (wp_builtin hg hb (by decide) (by decide) I hx ?_)
  refine callWith_builtin1 (args_cons (wpAny_mono (h1 A env F W ρ s x R I ex) (fun v s₁ w => ?_) fun _ _ z => z) (hs env)) (hs env) (by rw [hs2 env]; rfl)
  obtain ⟨F₁, v₁, h₁, r₁⟩ := w
  refine args_cons (wpAny_mono (h2 A env F₁ W ρ s₁ y R (I.ev v₁ h₁) ey) (fun u s₂ w => ?_) fun _ _ z => z) (hs2 env)
  obtain ⟨F₂, v₂, h₂, r₂⟩ := w
  refine args_nil ?_
  have r₁ := r₁.mono v₂.sub
  obtain ⟨a, rfl⟩ : ∃ a, x = .int a := by unfold max2 at z; split at z <;> first | exact ⟨_, rfl⟩ | cases z
  obtain ⟨b, rfl⟩ : ∃ b, y = .int b := by unfold max2 at z; split at z <;> first | exact ⟨_, rfl⟩ | cases z
  cases z
  simp only [Rd] at r₁ r₂
  obtain ⟨t, rfl⟩ := r₁
  obtain ⟨t', rfl⟩ := r₂
  refine max_two_ints R.handled fun h' tk hk => ?_
  obtain ⟨g1, g2⟩ := grown (s' := { s₂ with heap := h', toks := tk }) h₂ hk rfl h₂.gens
  refine Ret.trans (Sp.trans v₁ v₂) ⟨F₂, g1, g2, ?_⟩
  rw [leI_iff]
  by_cases c : b > a
  · rw [if_pos c, decide_eq_false (by omega)]; exact rd_int _ _
  · rw [if_neg c, decide_eq_true (by omega)]; exact rd_int _ _
end Mine.MI
end
-- MiN
section
namespace Mine.MI
variable {C : Cx} {n : Nat} {T : St}

/-- the form that a method's call takes -/
noncomputable def MForm (o : Expr) (name : Str) (apos : Pos) (args : List Expr) (pos : Pos) : Prop := ∀ env, ∃ pl : Sem Bool, eval (.Call (.Attribute o name apos) args [] pos) env = (do
      let ov ← eval o env
      standAt apos.atName
      let (f, first) ← holding [ov] (getMethod ov name pl)
      callWith pos f first (backTo pos (starEach args env)) [])

theorem wp_meth {o : Expr} {name : Str} {apos pos : Pos} {args : List Expr} {fo : D} {x d : V} {A : Around} {env : Env} {F : Fn} {W : Addr → Prop} {ρ : Rho} {s : Shared} (hm : MForm o name apos args pos) (ho : SemE C n T o fo) (R : Room n A) (I : Inv C T env F W ρ s) (ex : fo ρ = some x)
    (h : ∀ pl ov F₁ s₁, Ev F s F₁ s₁ → Hp C F₁ s₁ → Rd C F₁ x ov → wpAny C.M A (getMethod ov name pl) (fun fx s₂ => wpAny C.M A (callWith pos fx.1 fx.2 (backTo pos (starEach args env)) []) (Ret C F s d) (fun _ _ => False) s₂) (fun _ _ => False) s₁) :
    wpAny C.M A (eval (.Call (.Attribute o name apos) args [] pos) env) (Ret C F s d) (fun _ _ => False) s := by
  obtain ⟨pl, he⟩ := hm env
  refine MethodCall_ (wpAny_mono (ho A env F W ρ s x R I ex) (fun ov s₁ q => ?_) fun _ _ z => z) he
  obtain ⟨F₁, e₁, h₁, r₁⟩ := q
  exact h pl ov F₁ s₁ e₁ h₁ r₁

/-- strings one behind the other -/
theorem join_nil : ∀ parts : List (List Nat), Str.join (toS []) (parts.map toS) = toS parts.flatten
  | [] => rfl
  | [x] => by simp [Str.join]
  | x :: y :: r => by
    have ih := join_nil (y :: r)
    show toS x ++ toS [] ++ Str.join (toS []) ((y :: r).map toS) = _
    rw [ih, toS_append, toS_append]
    simp
theorem strs_of {F : Fn} : ∀ {l : List V} {vs : List Value} {t : List Nat}, RdL C F l vs → joinL l = some t → ∃ (ps : List (Str × Tok)) (parts : List (List Nat)), vs = strValues ps ∧ ps.map (·.1) = parts.map toS ∧ parts.flatten = t ∧ strV t ∧ parts.length = l.length
  | [], _, _, h, e => by
    simp only [RdL] at h; subst h; cases e
    exact ⟨[], [], rfl, rfl, rfl, fun c hc => by simp at hc, rfl⟩
  | x :: l, _, t, h, e => by
    simp only [RdL] at h
    obtain ⟨v, r, rfl, h1, h2⟩ := h
    cases x with
    | str k =>
      obtain ⟨t', e1, e2⟩ := ob_some (o := joinL l) e
      cases e2
      simp only [Rd] at h1
      obtain ⟨hk, tk, rfl⟩ := h1
      obtain ⟨ps, parts, q1, q2, q3, q4, q5⟩ := strs_of h2 e1
      exact ⟨(toS k, tk) :: ps, k :: parts, by simp [strValues, q1], by simp [q2], by simp [q3], strV_append hk q4, by simp [q5]⟩
    | _ => cases e
theorem strs_ofS {F : Fn} : ∀ {l : List V} {vs : List Value} {t : List Nat}, RdL C F l vs → joinS l = some t → ∃ (ps : List (Str × Tok)) (parts : List (List Nat)), vs = strValues ps ∧ ps.map (·.1) = parts.map toS ∧ parts.flatten = t.flatMap C.P.at' ∧ parts.length = l.length
  | [], _, _, h, e => by
    simp only [RdL] at h; subst h; cases e
    exact ⟨[], [], rfl, rfl, rfl, rfl⟩
  | x :: l, _, t, h, e => by
    simp only [RdL] at h
    obtain ⟨v, r, rfl, h1, h2⟩ := h
    cases x with
    | ss k =>
      obtain ⟨t', e1, e2⟩ := ob_some (o := joinS l) e
      cases e2
      simp only [Rd] at h1
      obtain ⟨tk, rfl⟩ := h1
      obtain ⟨ps, parts, q1, q2, q3, q5⟩ := strs_ofS h2 e1
      exact ⟨(toS (k.flatMap C.P.at'), tk) :: ps, k.flatMap C.P.at' :: parts, by simp [strValues, q1], by simp [q2], by simp [q3], by simp [q5]⟩
    | _ => cases e
theorem joinOk_of {parts : List (List Nat)} (h : parts.flatten.length ≤ 10000) : JoinOk (toS []) (parts.map toS) = true := by
  unfold JoinOk
  rw [StrLaws.joinTotal]
  have e1 : ((parts.map toS).map (·.length)).sum = parts.flatten.length := by
    rw [List.length_flatten, List.map_map]
    congr 1
  rw [e1]
  have : (toS []).length = 0 := rfl
  unfold Builtin.Str.tooLong
  rw [this, decide_eq_false (by show ¬ _ > 2 ^ 24; omega)]
  rfl
theorem op_join : OpU C n (fun v => PySem.call (.builtin "str.join") [.str (toS []) 0, v]) (fun _ => none) := fun A F s x a d R H rx e => by cases e
theorem wp_join {A : Around} {F : Fn} {s : Shared} {x d : V} {a : Value} {tk : Tok} (R : Room n A) (H : Hp C F s) (rx : Rd C F x a) (e : joinV x = some d) : wpAny C.M A (PySem.call (.builtin "str.join") [.str (toS []) tk, a]) (Ret C F s d) (fun _ _ => False) s := by
  unfold joinV at e
  split at e
  · cases e
    obtain ⟨p, vs, rfl, l1, r1⟩ := isList_of H rx
    simp only [RdL] at r1
    subst r1
    refine SC.join (l := []) l1 rfl (by decide) fun t' k => Ret.tok H ?_ _
    exact rd_str (l := []) (fun c hc => by simp at hc) _
  · rename_i s0 r
    obtain ⟨hk, e⟩ := chk_some e
    obtain ⟨t, e1, e⟩ := ob_some e
    obtain ⟨hk2, e⟩ := chk_some e
    cases e
    have hk2 := Nat.le_of_ble_eq_true hk2
    obtain ⟨p, vs, rfl, l1, r1⟩ := isList_of H rx
    obtain ⟨ps, parts, q1, q2, q3, q5⟩ := strs_ofS r1 e1
    subst q1
    have hlen : ∀ t : List Nat, (t.flatMap C.P.at').length ≤ 10 * t.length := fun t => by
      induction t with
      | nil => simp
      | cons a t ih => have := C.atLen a; simp only [List.flatMap_cons, List.length_append, List.length_cons]; omega
    have := hlen t
    refine SC.join l1 q2 (joinOk_of (by rw [q3]; omega)) fun t' k => Ret.tok H ?_ _
    rw [show Txt.join (toS []) (parts.map toS) = _ from (StrLaws.glued_eq_join _ _).trans (join_nil parts), q3]
    exact rd_ss _ _
  · rename_i l _ _
    obtain ⟨hk, e⟩ := chk_some e
    obtain ⟨t, e1, e⟩ := ob_some e
    obtain ⟨hk2, e⟩ := chk_some e
    cases e
    have hk2 := Nat.le_of_ble_eq_true hk2
    obtain ⟨p, vs, rfl, l1, r1⟩ := isList_of H rx
    obtain ⟨ps, parts, q1, q2, q3, q4, q5⟩ := strs_of r1 e1
    subst q1
    refine SC.join l1 q2 (joinOk_of (by rw [q3]; exact hk2)) fun t' k => Ret.tok H ?_ _
    rw [show Txt.join (toS []) (parts.map toS) = _ from (StrLaws.glued_eq_join _ _).trans (join_nil parts), q3]
    exact rd_str q4 _
  · cases e
theorem sem_join {e : Expr} {sx : Str} {k : Nat} {q apos pos : Pos} {f : D} (hx : sx = toS []) (hm : MForm (.Constant (.str sx) k q) "join" apos [e] pos) (h : SemE C n T e f) (hs : ∀ env, starEach [e] env = (false, eval e env) :: starEach [] env) :
    SemE C n T (.Call (.Attribute (.Constant (.str sx) k q) "join" apos) [e] [] pos) (un joinV f) := fun A env F W ρ s d R I z => by
  obtain ⟨x, ex, z⟩ := ob_some z
  subst hx
  have hc : SemE C n T (.Constant (.str (toS [])) k q) (cStr []) := sem_str rfl rfl
  refine wp_meth hm hc R I rfl fun pl ov F₁ s₁ e₁ h₁ r₁ => ?_
  simp only [Rd] at r₁
  obtain ⟨_, tk, rfl⟩ := r₁
  refine getMethod_builtin (typeIs_str _ _ _) PySem.F.plainAttrs_str PySem.F.slot_str_join PySem.F.type_str_join (fun _ e => nomatch e) ?_
  refine callWith_method1 (wpAny_mono (wp_args1 (d := d) (op := fun vs => PySem.call (.builtin "str.join") ([.str (toS []) tk] ++ vs)) R (I.ev e₁ h₁) h ex hs fun F s a H r => wp_join R H r z) (fun v s₂ q => wpAny_mono q (fun v s₃ q => Ret.trans e₁ q) fun _ _ z => z) fun _ _ z => z) (hs env) rfl

theorem splitL_free (c : Nat) : ∀ (p acc : List Nat), c ∉ p → splitL c p acc = [.str (acc.reverse ++ p)]
  | [], acc, _ => by simp [splitL]
  | a :: p, acc, h => by
    have ha : Nat.beq a c = false := by
      rw [← Bool.not_eq_true]; intro e; have := Nat.eq_of_beq_eq_true e; subst this; exact h List.mem_cons_self
    unfold splitL
    rw [ha]
    simp only
    rw [splitL_free c p (a :: acc) fun hp => h (List.mem_cons_of_mem _ hp)]
    simp
theorem splitL_cut (c : Nat) (t : List Nat) : ∀ (p acc : List Nat), c ∉ p → splitL c (p ++ c :: t) acc = .str (acc.reverse ++ p) :: splitL c t []
  | [], acc, _ => by simp [splitL, Nat.beq_refl]
  | a :: p, acc, h => by
    have ha : Nat.beq a c = false := by
      rw [← Bool.not_eq_true]; intro e; have := Nat.eq_of_beq_eq_true e; subst this; exact h List.mem_cons_self
    rw [List.cons_append, show splitL c (a :: (p ++ c :: t)) acc = splitL c (p ++ c :: t) (a :: acc) by conv => lhs; unfold splitL; rw [ha]]
    rw [splitL_cut c t p (a :: acc) fun hp => h (List.mem_cons_of_mem _ hp)]
    simp
theorem splitL_join (c : Nat) : ∀ (ps : List Str), ps ≠ [] → (∀ p ∈ ps, c ∉ p.cps.toList) → splitL c (Str.join ⟨#[c]⟩ ps).cps.toList [] = ps.map fun p => .str p.cps.toList
  | [], h, _ => absurd rfl h
  | [p], _, h => by
    show splitL c p.cps.toList [] = _
    rw [splitL_free c _ _ (h p (by simp))]
    simp
  | p :: q :: r, _, h => by
    have ih := splitL_join c (q :: r) (by simp) fun x hx => h x (List.mem_cons_of_mem _ hx)
    have e : (Str.join ⟨#[c]⟩ (p :: q :: r)).cps.toList = p.cps.toList ++ c :: (Str.join ⟨#[c]⟩ (q :: r)).cps.toList := by
      show (Str.append (Str.append p ⟨#[c]⟩) (Str.join ⟨#[c]⟩ (q :: r))).cps.toList = _
      simp [Str.append]
    rw [e, splitL_cut c _ _ _ (h p (by simp)), ih]
    simp
theorem split_ne (x y : Str) : Txt.split x y ≠ [] := by
  unfold Txt.split
  split
  · simp
  · split
    · simp
    · rw [StrLaws.partsBetween_eq]
      obtain ⟨p, r, h⟩ := StrLaws.partsFrom_ne x y.length 0 (Builtin.Str.occurrences x y 0 x.length (x.length + 1))
      rw [h]; simp
theorem split_eq (l : List Nat) (c : Nat) : splitL c l [] = (Txt.split (toS l) ⟨#[c]⟩).map fun p => .str p.cps.toList := by
  have h := splitL_join c (Txt.split (toS l) ⟨#[c]⟩) (split_ne _ _) (StrLaws.split_free _ _)
  rw [StrLaws.join_split] at h
  simpa [toS] using h
theorem keptGet (h₀ : Heap) : KeptH fun h => ∀ b o, h₀.get? b = some o → h.get? b = some o := fun h ob hk b o e => Heap.get?_push_of_some _ (hk b o e)
theorem rd_strs {F : Fn} : ∀ {ps : List (Str × Tok)}, (∀ p ∈ ps, strV p.1.cps.toList) → RdL C F ((ps.map (·.1)).map fun p => .str p.cps.toList) (strValues ps)
  | [], _ => by simp [RdL, strValues]
  | p :: ps, h => by
    simp only [List.map_cons, RdL]
    refine ⟨.str p.1 p.2, strValues ps, rfl, ?_, rd_strs fun q hq => h q (List.mem_cons_of_mem _ hq)⟩
    simp only [Rd]
    exact ⟨h p (by simp), p.2, by simp [toS]⟩
theorem flat_len {α : Type} (k : List α) (a : List α) : a.length + k.length = (a ++ k).length := by simp
theorem parts_len (y : Str) : ∀ ps : List Str, (∀ p ∈ ps, True) → ps.length ≤ 1 + (Str.join y ps).length ∨ y.length = 0
  | [], _ => .inl (by simp)
  | [p], _ => .inl (by simp)
  | p :: q :: r, h => by
    rcases parts_len y (q :: r) fun _ _ => trivial with ih | ih
    · by_cases hy : y.length = 0
      · exact .inr hy
      · left
        have e : (Str.join y (p :: q :: r)).length = p.length + y.length + (Str.join y (q :: r)).length := by
          show (Str.append (Str.append p y) (Str.join y (q :: r))).length = _
          simp [Str.append, Str.length]; omega
        rw [e]
        simp only [List.length_cons] at ih ⊢
        omega
    · exact .inr ih
theorem join_chars (y : Str) (c : Nat) : ∀ ps : List Str, ∀ p ∈ ps, c ∈ p.cps.toList → c ∈ (Str.join y ps).cps.toList
  | [], p, hp, _ => by simp at hp
  | [q], p, hp, hc => by simp at hp; subst hp; exact hc
  | q :: r :: t, p, hp, hc => by
    show c ∈ (Str.append (Str.append q y) (Str.join y (r :: t))).cps.toList
    have e : (Str.append (Str.append q y) (Str.join y (r :: t))).cps.toList = q.cps.toList ++ y.cps.toList ++ (Str.join y (r :: t)).cps.toList := by simp [Str.append]
    rw [e]
    rcases List.mem_cons.mp hp with rfl | hp
    · simp [hc]
    · have := join_chars y c (r :: t) p hp hc
      simp only [List.mem_append]; exact .inr this
theorem split_at {prog : Program} {w : World} {A : Around} {E : Value → Shared → Prop} {s : Shared} {x y : Str} {t u : Tok} {Q : Value → Shared → Prop} (hy : (y.length == 0) = false)
    (hq : ∀ (l : List (Str × Tok)) k, l.map (·.1) = Txt.split x y → Q (.ref s.heap.objs.size) { s with toks := k, heap := s.heap.push { cls := .type "list", data := .seq (strValues l).toArray } })
    (hsz : x.length ≤ sizeLine) (hsz2 : (Builtin.Str.partsBetween x (Builtin.Str.occurrences x y 0 x.length (x.length + 1)) y.length).length ≤ sizeLine) :
    wpAny (model prog w) A (PySem.call (.builtin "str.split") [.str x t, .str y u]) Q E s := by
  cases h1 : (decide (x.length < y.length) || decide (Builtin.Str.strKind x < Builtin.Str.strKind y))
  · cases hf : (Builtin.Str.occurrences x y 0 x.length (x.length + 1)).isEmpty
    · refine call_meets PySem.F.slot_str_split (typeIs_str _ _ _) PySem.F.entry_str_split (PySem.F.args_str_split_2 _ _) (meets_str_split_sep x y t u h1 hy hf hsz hsz2) ?_
      show wants Q E _ { s with toks := _, heap := s.heap.push { cls := .type "list", data := .seq (strsFrom s.toks (Builtin.Str.partsBetween x (Builtin.Str.occurrences x y 0 x.length (x.length + 1)) y.length)).toArray } }
      rw [strsFrom_eq]
      exact hq (numbered s.toks _) _ ((numbered_texts _ _).trans ((if_neg (ne_true_of_eq_false h1)).trans (if_neg (ne_true_of_eq_false hf))).symm)
    · exact call_meets PySem.F.slot_str_split (typeIs_str _ _ _) PySem.F.entry_str_split (PySem.F.args_str_split_2 _ _) (meets_str_split_not_found x y t u h1 hy hf)
        (hq [(x, t)] s.toks ((if_neg (ne_true_of_eq_false h1)).trans (if_pos hf)).symm)
  · exact call_meets PySem.F.slot_str_split (typeIs_str _ _ _) PySem.F.entry_str_split (PySem.F.args_str_split_2 _ _) (meets_str_split_cannot_occur x y t u h1)
      (hq [(x, t)] s.toks (if_pos h1).symm)
theorem wp_split {A : Around} {F : Fn} {s : Shared} {x d : V} {a : Value} {c : Nat} {tk : Tok} (R : Room n A) (H : Hp C F s) (rx : Rd C F x a) (e : splitV c x = some d) : wpAny C.M A (PySem.call (.builtin "str.split") [a, .str (toS [c]) tk]) (Ret C F s d) (fun _ _ => False) s := by
  unfold splitV at e
  split at e
  · rename_i l
    obtain ⟨hk, e⟩ := chk_some e
    cases e
    have hk := Nat.le_of_ble_eq_true hk
    simp only [Rd] at rx
    obtain ⟨hx, t, rfl⟩ := rx
    have hsp : (Txt.split (toS l) (toS [c])).length ≤ 10001 := by
      rcases parts_len (toS [c]) (Txt.split (toS l) (toS [c])) fun _ _ => trivial with h | h
      · rw [StrLaws.join_split, toS_length] at h; omega
      · cases h
    have hp : ∀ p ∈ Txt.split (toS l) (toS [c]), strV p.cps.toList := fun p hp z hz => by
      have := join_chars (toS [c]) z _ p hp hz
      rw [StrLaws.join_split] at this
      exact hx z (by simpa [toS] using this)
    refine split_at rfl (fun ps k e1 => ?_) (by rw [toS_length]; show _ ≤ 2 ^ 24; omega) ?_
    · obtain ⟨v1, h1⟩ := pushed H { cls := .type "list", data := .seq (strValues ps).toArray } rfl k
      refine ⟨_, v1, h1, rd_list_new Fn.put_self ?_⟩
      rw [show splitL c l [] = (ps.map (·.1)).map fun p => .str p.cps.toList by rw [e1]; exact split_eq l c]
      exact rd_strs fun p hp' => hp p.1 (by rw [← e1]; exact List.mem_map_of_mem hp')
    · have hb : (Builtin.Str.partsBetween (toS l) (Builtin.Str.occurrences (toS l) (toS [c]) 0 (toS l).length ((toS l).length + 1)) (toS [c]).length).length ≤ (toS l).length + 2 := by
        rw [StrLaws.partsBetween_eq]
        have h0 : ∀ (cuts : List Nat) (a : Nat), (StrLaws.partsFrom (toS l) (toS [c]).length a cuts).length = cuts.length + 1 := fun cuts => by
          induction cuts with
          | nil => intro a; rfl
          | cons b cuts ih => intro a; simp [StrLaws.partsFrom, ih]
        rw [h0]
        have := StrLaws.occ_length_le (toS l) (toS [c]) 0 (toS l).length ((toS l).length + 1)
        omega
      rw [toS_length] at hb ⊢
      refine Nat.le_trans hb ?_
      show _ ≤ 2 ^ 24; omega
  · cases e
end Mine.MI
end
-- MiG
section
namespace Mine.MI
variable {C : Cx} {n : Nat} {T : St}

theorem sem_split {o : Expr} {c k : Nat} {sx : Str} {q apos pos : Pos} {f : D} (hx : sx = toS [c]) (hm : MForm o "split" apos [.Constant (.str sx) k q] pos) (h : SemE C n T o f) (hc : Nat.blt c 0x110000 = true) :
    SemE C n T (.Call (.Attribute o "split" apos) [.Constant (.str sx) k q] [] pos) (un (splitV c) f) := fun A env F W ρ s d R I z => by
  obtain ⟨x, ex, z⟩ := ob_some z
  subst hx
  refine wp_meth hm h R I ex fun pl ov F₁ s₁ e₁ h₁ r₁ => ?_
  obtain ⟨l, rfl⟩ : ∃ l, x = .str l := by unfold splitV at z; split at z <;> first | exact ⟨_, rfl⟩ | cases z
  have hv : ∃ t, ov = .str (toS l) t := by simp only [Rd] at r₁; exact r₁.2
  obtain ⟨t, rfl⟩ := hv
  refine getMethod_builtin (typeIs_str _ _ _) PySem.F.plainAttrs_str PySem.F.slot_str_split PySem.F.type_str_split (fun _ e => nomatch e) ?_
  have hcc : SemE C n T (.Constant (.str (toS [c])) k q) (cStr [c]) := sem_str rfl (by simp [hc])
  refine callWith_method1 (args_cons (wpAny_mono (hcc A env F₁ W ρ s₁ _ R (I.ev e₁ h₁) rfl) (fun v s₂ q => ?_) fun _ _ z => z) rfl) rfl rfl
  obtain ⟨F₂, e₂, h₂, r₂⟩ := q
  refine args_nil ?_
  simp only [Rd] at r₂
  obtain ⟨_, tk, rfl⟩ := r₂
  exact wpAny_mono (wp_split R h₂ (r₁.mono e₂.sub) z) (fun v s₃ q => Ret.trans (Sp.trans e₁ e₂) q) fun _ _ z => z

theorem sem_getD {o k e : Expr} {apos pos : Pos} {f g h : D} (hm : MForm o "get" apos [k, e] pos) (ho : SemE C n T o f) (hk : SemE C n T k g) (he : SemE C n T e h)
    (hs : ∀ env, starEach [k, e] env = [(false, eval k env), (false, eval e env)]) : SemE C n T (.Call (.Attribute o "get" apos) [k, e] [] pos) (getD f g h) := fun A env F W ρ s d R I z => by
  obtain ⟨x, ex, z⟩ := ob_some z
  obtain ⟨y, ey, z⟩ := ob_some z
  obtain ⟨u, eu, z⟩ := ob_some z
  obtain ⟨ks, xs, rfl⟩ : ∃ ks xs, x = .dct ks xs := by unfold getV at z; split at z <;> first | exact ⟨_, _, rfl⟩ | cases z
  obtain ⟨kk, rfl⟩ : ∃ kk, y = .str kk := by unfold getV at z; split at z <;> first | exact ⟨_, rfl⟩ | cases z
  · have z : some (match dget kk ks xs with | some v => v | none => u) = some d := z
    refine wp_meth hm ho R I ex fun pl ov F₁ s₁ e₁ h₁ r₁ => ?_
    obtain ⟨a, kvs, rfl, ha, hd, hk1, hr1⟩ := dictAt h₁ r₁
    refine getMethod_builtin hd.typeIs PySem.F.plainAttrs_dict PySem.F.slot_dict_get PySem.F.type_dict_get hd.mapOf.noDict ?_
    rw [hs env]
    refine wpAny_dict_get2 (knd := C.knd) ha (wpAny_mono (hk A env F₁ W ρ s₁ _ R (I.ev e₁ h₁) ey) (fun v s₂ q => ?_) fun _ _ z => z)
    obtain ⟨F₂, e₂, h₂, r₂⟩ := q
    refine wpAny_mono (he A env F₂ W ρ s₂ _ R ((I.ev e₁ h₁).ev e₂ h₂) eu) (fun w s₃ q => ?_) fun _ _ z => z
    obtain ⟨F₃, e₃, h₃, r₃⟩ := q
    simp only [Rd] at r₂
    obtain ⟨hkk, tk, rfl⟩ := r₂
    have r₁ := (r₁.mono e₂.sub).mono e₃.sub
    obtain ⟨a', kvs, q1, ha', hd', hk', hr'⟩ := dictAt h₃ r₁
    injection q1 with q1
    subst q1
    refine ⟨toS kk, _, strKind_is _ _ _ _, hd'.mapOf, ?_⟩
    have := dget_at kk hk' hr'
    refine Ret.trans (Sp.trans e₁ (Sp.trans e₂ e₃)) (Ret.tok h₃ ?_ _)
    cases hq : dget kk ks xs with
    | none => rw [hq] at this z; cases z; simp only at this; rw [this]; exact r₃
    | some x' => rw [hq] at this z; cases z; simp only at this; obtain ⟨v, g1, g2⟩ := this; rw [g1]; exact g2

theorem rd_handed {F : Fn} {d : V} {v : Value} (h : Rd C F d v) : handedIn v = true := by
  cases d <;> simp only [Rd] at h
  · subst h; rfl
  · subst h; rfl
  · obtain ⟨t, rfl⟩ := h; rfl
  · obtain ⟨_, t, rfl⟩ := h; rfl
  · obtain ⟨t, rfl⟩ := h; rfl
  · obtain ⟨_, t, rfl⟩ := h; rfl
  · obtain ⟨t, rfl⟩ := h; rfl
  all_goals (first | (obtain ⟨a, o, vs, n, rfl, _⟩ := h; rfl) | (obtain ⟨a, o, kvs, rfl, _⟩ := h; rfl) | (obtain ⟨a, o, dx, es, n, rfl, _⟩ := h; rfl))
theorem fields_apart : ∀ i, i < 5 → ∀ j, j < 5 → i ≠ j → (fieldNm i == fieldNm j) = false := by decide +kernel
theorem getL_field {F : Fn} (f : Nat) (hf : f < 5) : ∀ {i : Nat} {xs : List V} {es : List DictEntry} {x : V} (k : Nat), FieldKeys i es → RdL C F xs (es.map (·.val)) → xs[k]? = some x → i + k = f → ∃ v, getL (fieldNm f) es = some (some v) ∧ Rd C F x v
  | i, xs, [], x, k, _, r, e, _ => by simp only [List.map_nil] at r; cases xs <;> simp [RdL] at r e
  | i, [], e :: es, x, k, _, r, g, _ => by simp at g
  | i, y :: xs, e :: es, x, k, hk, r, g, q => by
    obtain ⟨⟨t, ht⟩, hk⟩ := hk
    simp only [List.map_cons, RdL] at r
    obtain ⟨v, r', e1, r1, r2⟩ := r
    injection e1 with e1 e2
    subst e1 e2
    cases k with
    | zero =>
      simp at g q
      subst g q
      exact ⟨e.val, by unfold getL; rw [List.find?_cons, ht]; simp [Value.isStr], r1⟩
    | succ k =>
      simp at g
      obtain ⟨v, g1, g2⟩ := getL_field f hf k hk r2 g (by omega)
      refine ⟨v, ?_, g2⟩
      have : e.key.isStr (fieldNm f) = false := by rw [ht]; exact fields_apart i (by omega) f hf (by omega)
      unfold getL at g1 ⊢
      rw [List.find?_cons, this]
      simp only
      split at g1
      · exact g1
      · split at g1 <;> cases g1
theorem k_get : ∀ P, plainGet (K P) 76 ("" : Str) = true := fun P => by kernel_rfl
theorem k_dict : ∀ P, hasDictIn (K P) 76 = true := fun P => by kernel_rfl
theorem k_fields : ∀ P, ([0, 1, 2, 3, 4].all fun i => findIn (K P) (.ref 76) (fieldNm i) == some none) = true := fun P => by kernel_rfl
theorem instAt {F : Fn} {s : Shared} (H : Hp C F s) {xs : List V} {v : Value} (r : Rd C F (.obj xs) v) : ∃ a ox es n, v = .ref a ∧ InstAt s.heap a ox 76 (some (dictOf es n)) ∧ FieldKeys 0 es ∧ RdL C F xs (es.map (·.val)) := by
  simp only [Rd] at r
  obtain ⟨a, ox, dx, es, n, rfl, h1, h2, h3, h4, h5, h6, h7⟩ := r
  exact ⟨a, ox, es, n, rfl, ⟨H.inn _ _ h1, h2, h3, by rw [h4]; exact H.inn _ _ h5⟩, h6, h7⟩
theorem sem_attr {o : Expr} {nm : Str} {f : Nat} {p : Pos} {g : D} (hn : nm = fieldNm f) (hf : f < 5) (ho : SemE C n T o g)
    (he : ∀ env M A Q E s, wpAny M A (eval o env) (fun o s₁ => wpAny M A (getAttr o nm true) Q E s₁) E s → wpAny M A (eval (.Attribute o nm p) env) Q E s) : SemE C n T (.Attribute o nm p) (attr g f) := fun A env F W ρ s d R I e => by
  unfold attr at e
  split at e
  · rename_i xs ex
    refine he _ _ _ _ _ _ (wpAny_mono (ho A env F W ρ s _ R I ex) (fun v s₁ q => ?_) fun _ _ z => z)
    obtain ⟨F₁, e₁, h₁, r₁⟩ := q
    obtain ⟨a, ox, es, m, rfl, X, hk, hr⟩ := instAt h₁ r₁
    rw [nth_get?] at e
    obtain ⟨v, g1, g2⟩ := getL_field f hf f hk hr e (by omega)
    subst hn
    have ha : findIn (K C.w.params) (.ref 76) (fieldNm f) = some none := by
      have := List.all_eq_true.mp (k_fields C.w.params) f (by
        have : f = 0 ∨ f = 1 ∨ f = 2 ∨ f = 3 ∨ f = 4 := by omega
        rcases this with h | h | h | h | h <;> subst h <;> decide)
      exact beq_iff_eq.mp this
    exact get_value h₁.K X (plainGet_of (k_get _)).1 (findObj_own (k_dict _) ha rfl g1) (rd_handed g2) (Ret.trans e₁ (Ret.tok h₁ g2 _))
  · cases e

/-- a function of the program -/
noncomputable def SemF (C : Cx) (n : Nat) (f : Addr) (g : List V → Option V) : Prop := ∀ (A : Around) (F : Fn) (s : Shared) (ds : List V) (vs : List Value) (d : V),
  Room n A → Hp C F s → RdL C F ds vs → g ds = some d → wpAny C.M A (PySem.call (.ref f) vs) (Ret C F s d) (fun _ _ => False) s
theorem sem_call {m : Nat} {nm : Str} {fa : Addr} {e : Expr} {es : List Expr} {q p : Pos} {fs : List D} {g : List V → Option V} (hmn : m ≤ n) (hf : SemF C m fa g) (hg : ∀ P, nsIn (K P) mainGlobals nm = some (some (.ref fa))) (hk : ∀ P, keepIn (K P) (.ref fa) = true)
    (hd : (nm == ("__debug__" : Str)) = false) (hx : nm ∈ T.globs) (h : SemEs C n T (e :: es) fs) (hs : ∀ env, starEach (e :: es) env = (false, eval e env) :: starEach es env) (hs2 : ∀ env, (backTo p (starEach es env)).any (·.1) = false) :
    SemE C n T (.Call (.Name nm q) (e :: es) [] p) (call g fs) := fun A env F W ρ s d R I z => by
  obtain ⟨ds, e1, z⟩ := ob_some z
  refine Call_Name rfl (wp_glob hg hd I hx ?_)
  refine callWith_K I.hp.K (hk _) (wpAny_mono (h p A env F W ρ s ds R I e1) (fun vs s₁ w => ?_) fun _ _ z => z) (hs env) (hs2 env)
  obtain ⟨F₁, v₁, h₁, r₁⟩ := w
  exact ⟨h₁.K, wpAny_mono (hf A F₁ s₁ ds vs d (R.mono hmn) h₁ r₁ z) (fun v s₂ w => Ret.trans v₁ w) fun _ _ z => z⟩
theorem noShadow {F : Fn} (nm : Str) (hn : ([0, 1, 2, 3, 4].all fun i => !(fieldNm i == nm)) = true) : ∀ {i : Nat} {es : List DictEntry}, FieldKeys i es → getL nm es = some none
  | _, [], _ => rfl
  | i, e :: es, ⟨⟨t, ht⟩, hk⟩ => by
    have ih := noShadow (F := F) nm hn hk
    have h0 : e.key.isStr nm = false := by
      rw [ht]
      show (fieldNm i == nm) = false
      have key : ∀ j, j < 5 → (fieldNm j == nm) = false := fun j hj => by
        have := List.all_eq_true.mp hn j (by
          have : j = 0 ∨ j = 1 ∨ j = 2 ∨ j = 3 ∨ j = 4 := by omega
          rcases this with h | h | h | h | h <;> subst h <;> decide)
        simpa using this
      by_cases hi : i < 5
      · exact key i hi
      · have : fieldNm i = fieldNm 4 := by
          match i, hi with
          | 0, h => omega
          | 1, h => omega
          | 2, h => omega
          | 3, h => omega
          | _ + 4, _ => rfl
        rw [this]; exact key 4 (by omega)
    unfold getL at ih ⊢
    rw [List.find?_cons, h0]
    simp only
    split at ih
    · cases ih
    · have h1 : e.refKey = false := by unfold DictEntry.refKey; rw [ht]
      have h2 : ((e :: es).any fun x => x.refKey) = (es.any fun x => x.refKey) := by rw [List.any_cons, h1, Bool.false_or]
      refine if_neg fun q => ?_
      rw [h2] at q
      rw [if_pos q] at ih
      cases ih
theorem sem_meth {m : Nat} {o : Expr} {nm : Str} {fa : Addr} {e : Expr} {es : List Expr} {apos p : Pos} {fo : D} {fs : List D} {g : List V → Option V} (hmn : m ≤ n) (hf : SemF C m fa g) (hm : MForm o nm apos (e :: es) p) (hg : ∀ P, findIn (K P) (.ref 76) nm = some (some (.ref fa)))
    (ht : ∀ P, isFn (K P) (.ref fa) = true) (hk : ∀ P, keepIn (K P) (.ref fa) = true) (hn : ([0, 1, 2, 3, 4].all fun i => !(fieldNm i == nm)) = true)
    (ho : SemE C n T o fo) (h : SemEs C n T (e :: es) fs) (hs : ∀ env, starEach (e :: es) env = (false, eval e env) :: starEach es env) (hs2 : ∀ env, (backTo p (starEach es env)).any (·.1) = false) :
    SemE C n T (.Call (.Attribute o nm apos) (e :: es) [] p) (callM g fo fs) := fun A env F W ρ s d R I z => by
  unfold callM at z
  split at z
  rotate_left
  · cases z
  rename_i xs ex
  obtain ⟨ds', e2, z⟩ := ob_some z
  refine wp_meth hm ho R I ex fun pl ov F₁ s₁ e₁ h₁ r₁ => ?_
  obtain ⟨a, ox, es', k, rfl, X, hk', hr⟩ := instAt h₁ r₁
  refine method_fn h₁.K X (plainGet_of (k_get _)).1 (plainGet_of (k_get _)).2 (hg _) (beq_iff_eq.mp (ht _)) (by show (lookIn nm (dictOf es' k)).map _ = _; rw [lookIn_dict, noShadow (F := F₁) nm hn hk']; rfl) ?_
  refine callWith_K h₁.K (hk _) (wpAny_mono (h p A env F₁ W ρ s₁ ds' R (I.ev e₁ h₁) e2) (fun vs s₂ w => ?_) fun _ _ z => z) (hs env) (hs2 env)
  obtain ⟨F₂, v₂, h₂, r₂⟩ := w
  exact ⟨h₂.K, wpAny_mono (hf A F₂ s₂ (.obj xs :: ds') (.ref a :: vs) d (R.mono hmn) h₂ (by simp only [RdL]; exact ⟨_, _, rfl, r₁.mono v₂.sub, r₂⟩) z) (fun v s₃ w => Ret.trans (Sp.trans e₁ v₂) w) fun _ _ z => z⟩
end Mine.MI
end
-- MiS
section
namespace Mine.MI
variable {C : Cx} {n : Nat} {T : St}

noncomputable def FlOk (C : Cx) (F : Fn) : Fl → Flow → Prop
  | .next, .next => True
  | .brk, .brk => True
  | .ret d, .ret v => Rd C F d v
  | _, _ => False
noncomputable def RetS (C : Cx) (T : St) (env : Env) (F : Fn) (W : Addr → Prop) (s : Shared) (ρ : Rho) (fl : Fl) (r : Flow) (s' : Shared) : Prop :=
  ∃ F' W', Sp F W s F' W' s' ∧ Inv C T env F' W' ρ s' ∧ FlOk C F' fl r
noncomputable def SemS (C : Cx) (n : Nat) (T : St) (st : Stmt) (f : DS) : Prop := ∀ (A : Around) (env : Env) (F : Fn) (W : Addr → Prop) (ρ : Rho) (s : Shared) (ρ' : Rho) (fl : Fl),
  Room n A → Inv C T env F W ρ s → f ρ = some (ρ', fl) → wpAny C.M A (exec st env) (RetS C T env F W s ρ' fl) (fun _ _ => False) s
noncomputable def SemSs (C : Cx) (n : Nat) (T : St) (st : List Stmt) (f : DS) : Prop := ∀ (A : Around) (env : Env) (F : Fn) (W : Addr → Prop) (ρ : Rho) (s : Shared) (ρ' : Rho) (fl : Fl),
  Room n A → Inv C T env F W ρ s → f ρ = some (ρ', fl) → wpAny C.M A (execs st env) (RetS C T env F W s ρ' fl) (fun _ _ => False) s
theorem RetS.trans {env : Env} {F F₁ : Fn} {W W₁ : Addr → Prop} {s s₁ s₂ : Shared} {ρ : Rho} {fl : Fl} {r : Flow} (x : Sp F W s F₁ W₁ s₁) (y : RetS C T env F₁ W₁ s₁ ρ fl r s₂) : RetS C T env F W s ρ fl r s₂ :=
  let ⟨F', W', a, b, c⟩ := y; ⟨F', W', x.trans a, b, c⟩

theorem semS_nil : SemSs C n T [] (block []) := fun A env F W ρ s ρ' fl R I e => by
  cases e
  exact wpAny_execs_nil ⟨F, W, Sp.refl, I, trivial⟩
theorem semS_cons {st : Stmt} {sts : List Stmt} {f : DS} {fs : List DS} (h : SemS C n T st f) (hs : SemSs C n T sts (block fs)) : SemSs C n T (st :: sts) (block (f :: fs)) := fun A env F W ρ s ρ' fl R I e => by
  have e : seq f (block fs) ρ = some (ρ', fl) := e
  refine wpAny_execs_cons ?_
  unfold seq at e
  split at e
  · rename_i ρ₁ h1
    refine wpAny_mono (h A env F W ρ s ρ₁ .next R I h1) (fun r s₁ q => ?_) fun _ _ z => z
    obtain ⟨F₁, W₁, x, I₁, y⟩ := q
    cases r <;> first | exact y.elim | skip
    exact wpAny_mono (hs A env F₁ W₁ ρ₁ s₁ ρ' fl R I₁ e) (fun r s₂ q => RetS.trans x q) fun _ _ z => z
  · rename_i hn
    refine wpAny_mono (h A env F W ρ s ρ' fl R I e) (fun r s₁ q => ?_) fun _ _ z => z
    obtain ⟨F₁, W₁, x, I₁, y⟩ := q
    cases fl with
    | next => exact absurd e (hn _)
    | brk => cases r <;> first | exact y.elim | exact ⟨F₁, W₁, x, I₁, y⟩
    | ret d => cases r <;> first | exact y.elim | exact ⟨F₁, W₁, x, I₁, y⟩

theorem semS_freeze {st : Stmt} {f : DS} {x : Nat} (h : SemS C n T st f) : SemS C n T st (freeze x f) := fun A env F W ρ s ρ' fl R I e => by
  unfold freeze at e
  split at e
  · rename_i d g
    obtain ⟨F₁, W₁, I₁, x₁⟩ := I.freeze g
    exact wpAny_mono (h A env F₁ W₁ _ s ρ' fl R I₁ e) (fun r s₂ q => RetS.trans x₁ q) fun _ _ z => z
  · cases e
theorem semS_ret {e : Expr} {p : Pos} {f : D} (h : SemE C n T e f) : SemS C n T (.Return (some e) p) (ret f) := fun A env F W ρ s ρ' fl R I z => by
  obtain ⟨d, e1, e2⟩ := ob_some z
  cases e2
  refine wpAny_Return_some (wpAny_mono (h A env F W ρ s d R I e1) (fun v s₁ q => ?_) fun _ _ z => z)
  obtain ⟨F₁, v₁, h₁, r₁⟩ := q
  exact ⟨F₁, W, v₁.of_ev, I.ev v₁ h₁, r₁⟩
theorem semS_brk {p : Pos} : SemS C n T (.Break p) brk := fun A env F W ρ s ρ' fl R I z => by
  cases z
  exact wpAny_Break ⟨F, W, Sp.refl, I, trivial⟩
theorem semS_if {t : Expr} {a b : List Stmt} {p : Pos} {ft : DB} {fa fb : DS} (ht : SemB C n T t ft) (ha : SemSs C n T a fa) (hb : SemSs C n T b fb) : SemS C n T (.If t a b p) (ifS ft fa fb) := fun A env F W ρ s ρ' fl R I e => by
  unfold ifS at e
  refine wpAny_If ?_
  split at e
  · rename_i h
    refine wpAny_mono (ht A env F W ρ s _ R I h) (fun c s₁ z => ?_) fun _ _ z => z
    obtain ⟨rfl, F₁, e₁, h₁⟩ := z
    exact wpAny_mono (ha A env F₁ W ρ s₁ ρ' fl R (I.ev e₁ h₁) e) (fun v s₂ q => RetS.trans e₁.of_ev q) fun _ _ z => z
  · rename_i h
    refine wpAny_mono (ht A env F W ρ s _ R I h) (fun c s₁ z => ?_) fun _ _ z => z
    obtain ⟨rfl, F₁, e₁, h₁⟩ := z
    exact wpAny_mono (hb A env F₁ W ρ s₁ ρ' fl R (I.ev e₁ h₁) e) (fun v s₂ q => RetS.trans e₁.of_ev q) fun _ _ z => z
  · cases e

theorem semS_asg {x : Str} {i : Nat} {q p : Pos} {e : Expr} {f : D} (hx : x = T.nm i) (hi : i ∈ T.locs) (h : SemE C n T e f) (hs : ∀ env, swapsWith e (some (.Name x q)) p.line env = pure false) : SemS C n T (.Assign [.Name x q] e p) (asg i f) := fun A env F W ρ s ρ' fl R I z => by
  obtain ⟨d, e1, e2⟩ := ob_some z
  cases e2
  refine wpAny_Assign_Name (wpAny_mono (h A env F W ρ s d R I e1) (fun v s₁ w => ?_) fun _ _ z => z) (hs env)
  obtain ⟨F₁, v₁, h₁, r₁⟩ := w
  subst hx
  exact (I.ev v₁ h₁).store_val hi r₁ fun s₂ I₂ x₂ => ⟨F₁, W, v₁.of_ev.trans x₂, I₂, trivial⟩

/-- an expression that makes a container of its own -/
noncomputable def SemN (C : Cx) (n : Nat) (T : St) (e : Expr) (f : D) : Prop := ∀ (A : Around) (env : Env) (F : Fn) (W : Addr → Prop) (ρ : Rho) (s : Shared) (d : V),
  Room n A → Inv C T env F W ρ s → f ρ = some d → wpAny C.M A (eval e env) (fun v s' => ∃ F' a, v = .ref a ∧ Ev F s F' s' ∧ Hp C F' s' ∧ Own C F' s'.heap a d ∧ ∀ b ∈ foot s'.heap a, s.heap.get? b = none ∧ F' b = none ∧ ∃ o, s'.heap.get? b = some o) (fun _ _ => False) s
theorem Inv.store_own {env : Env} {F F₁ : Fn} {W : Addr → Prop} {ρ : Rho} {s s₁ : Shared} {A : Around} {E : Value → Shared → Prop} {x : Nat} {a : Addr} {d : V} {Q : Unit → Shared → Prop}
    (I : Inv C T env F W ρ s) (v₁ : Ev F s F₁ s₁) (h₁ : Hp C F₁ s₁) (hx : x ∈ T.locs) (ow : Own C F₁ s₁.heap a d) (hf : ∀ b ∈ foot s₁.heap a, s.heap.get? b = none ∧ F₁ b = none ∧ ∃ o, s₁.heap.get? b = some o)
    (h : ∀ s₂ W₂, Inv C T env F₁ W₂ (put x (.own d) ρ) s₂ → Sp F W s F₁ W₂ s₂ → Q () s₂) : wpAny C.M A (storeName env (T.nm x) (.ref a)) Q E s₁ := by
  have I₁ := I.ev v₁ h₁
  have I₂ := I₁.widen (foot s₁.heap a) fun b hb => (hf b hb).2
  refine wp_store I₂ hx fun s₂ S => ?_
  obtain ⟨p, wp, hpl, hs⟩ := S.place
  have hpa : p ∉ foot s₁.heap a := fun hm => by
    rcases hpl with e | ⟨y, e⟩
    · obtain ⟨o, ho⟩ := (I.off _ I.wl).2
      rw [e] at hm
      rw [(hf _ hm).1] at ho; cases ho
    · obtain ⟨o, ho⟩ := I.cal y p e
      rw [(hf _ hm).1] at ho; cases ho
  have ft : foot s₂.heap a = foot s₁.heap a := foot_same hs hpa
  have ow₂ : Own C F₁ s₂.heap a d := Own.keeps ow Sub.refl fun b hb o e => hs.extBut b o (fun q => hpa (q ▸ hb)) e
  obtain ⟨I₃, x₃⟩ := I₂.stored (sl := .own d) hx (I.locs x hx).1 S ⟨a, S.here, ow₂, fun b hb => by
      rw [ft] at hb
      refine ⟨.inr hb, fun e => ?_, fun y c hyc e => ?_⟩
      · obtain ⟨o, ho⟩ := (I.off _ I.wl).2
        rw [← e, (hf _ hb).1] at ho; cases ho
      · obtain ⟨o, ho⟩ := I.cal y c hyc
        rw [e, (hf _ hb).1] at ho; cases ho⟩ fun d' a' q va y dy b hyx gy vb c hc1 hc2 => by
    cases va.unique S.here
    rw [ft] at hc1
    obtain ⟨hy, b0, vb0, owb, _⟩ := I.vars y _ gy
    have vb1 : VarAt env s₂.heap (T.nm y) (.ref b0) := S.other _ _ (nm_inj I.nodup hy (I.locs x hx).1 hyx) (vb0.keeps v₁.keep')
    cases vb.unique vb1
    obtain ⟨ob0, hob0⟩ := Own.ex owb
    have hfb : foot s₂.heap b = foot s.heap b := by
      rw [← foot_keeps hob0 (v₁.keep' _ _ hob0)]
      refine foot_same hs fun hm => ?_
      rw [foot_keeps hob0 (v₁.keep' _ _ hob0)] at hm
      obtain ⟨_, b1, w1, _, w2⟩ := I.vars y _ gy
      cases vb0.unique w1
      obtain ⟨_, k2, k3⟩ := w2 p hm
      rcases hpl with e | ⟨z, e⟩
      · exact k2 e
      · exact k3 z p e rfl
    rw [hfb] at hc2
    obtain ⟨_, b1, w1, _, w2⟩ := I.vars y _ gy
    cases vb0.unique w1
    obtain ⟨o, ho⟩ := (I.off _ (w2 c hc2).1).2
    rw [(hf c hc1).1] at ho; cases ho
  refine h s₂ _ I₃ ⟨v₁.sub.trans x₃.sub, fun b hb => ?_, fun b o e => ?_, fun b o e hb => ?_⟩
  · rcases hb with hb | hb
    · exact .inl hb
    · exact .inr (hf b hb).1
  · rcases v₁.fok b o e with z | z | z
    · exact .inl z
    · exact z.elim
    · exact .inr (.inr z)
  · refine x₃.keep b o (v₁.keep' _ _ e) fun hw => ?_
    rcases hw with hw | hw
    · exact hb hw
    · rw [(hf b hw).1] at e; cases e
theorem semS_asgo {x : Str} {i : Nat} {q p : Pos} {e : Expr} {f : D} (hx : x = T.nm i) (hi : i ∈ T.locs) (h : SemN C n T e f) (hs : ∀ env, swapsWith e (some (.Name x q)) p.line env = pure false) : SemS C n T (.Assign [.Name x q] e p) (asgo i f) := fun A env F W ρ s ρ' fl R I z => by
  obtain ⟨d, e1, e2⟩ := ob_some z
  cases e2
  refine wpAny_Assign_Name (wpAny_mono (h A env F W ρ s d R I e1) (fun v s₁ w => ?_) fun _ _ z => z) (hs env)
  obtain ⟨F₁, a, rfl, v₁, h₁, ow, hf⟩ := w
  subst hx
  exact I.store_own v₁ h₁ hi ow hf fun s₂ W₂ I₂ x₂ => ⟨F₁, W₂, x₂, I₂, trivial⟩
theorem foot_plain {h : Heap} {a : Addr} {o : Obj} (e : h.get? a = some o) (hd : o.dict = none) : foot h a = [a] := by unfold foot; rw [e]; simp [hd]
/-- a list display as a container of one's own -/
theorem semN_lst {es : List Expr} {fs : List D} {p : Pos} (h : SemEs C n T es fs) (hl : Nat.ble fs.length 1000 = true) : SemN C n T (.List es p) (lstE fs) := fun A env F W ρ s d R I e => by
  obtain ⟨ds, e1, e2⟩ := ob_some e
  cases e2
  refine wpAny_List (wpAny_mono (h p A env F W ρ s ds R I e1) (fun vs s₁ q => ?_) fun _ _ z => z)
  obtain ⟨F₁, v₁, h₁, r₁⟩ := q
  have hl := Nat.le_of_ble_eq_true hl
  refine ⟨by rw [length_of_rdL r₁, evs_length e1]; show _ ≤ 2 ^ 24; omega, ?_⟩
  have G := grown (s' := { s₁ with heap := s₁.heap.push { cls := .type "list", data := .seq vs.toArray } }) h₁ (fun _ _ e => Heap.get?_push_of_some _ e) rfl h₁.gens
  have ho := Heap.get?_push_size s₁.heap (o := { cls := .type "list", data := .seq vs.toArray }) rfl
  refine ⟨F₁, _, rfl, Sp.trans v₁ G.1, G.2, ⟨vs.toArray, 0, ho, r₁⟩, fun b hb => ?_⟩
  rw [foot_plain ho rfl] at hb
  have hb := List.mem_singleton.mp hb
  subst hb
  refine ⟨?_, h₁.none_of (get?_size _), _, ho⟩
  rcases v₁.gone (get?_size s₁.heap) with z | z
  · exact z.elim
  · exact z
/-- the sum of two lists as a container of one's own -/
theorem semN_addL {l r : Expr} {p : Pos} {f g : D} (hl : SemE C n T l f) (hr : SemE C n T r g) : SemN C n T (.BinOp l .Add r p) (bop addL f g) := fun A env F W ρ s d R I e => by
  obtain ⟨x, ex, e⟩ := ob_some e
  obtain ⟨y, ey, e⟩ := ob_some e
  refine wpAny_BinOp (wpAny_mono (hl A env F W ρ s x R I ex) (fun a s₁ q => ?_) fun _ _ z => z)
  obtain ⟨F₁, e₁, h₁, r₁⟩ := q
  refine wpAny_mono (hr A env F₁ W ρ s₁ y R (I.ev e₁ h₁) ey) (fun b s₂ q => ?_) fun _ _ z => z
  obtain ⟨F₂, e₂, h₂, r₂⟩ := q
  have r₁ := r₁.mono e₂.sub
  obtain ⟨xs, rfl⟩ : ∃ xs, x = .lst xs := by unfold addL at e; split at e <;> first | exact ⟨_, rfl⟩ | cases e
  obtain ⟨ys, rfl⟩ : ∃ ys, y = .lst ys := by unfold addL at e; split at e <;> first | exact ⟨_, rfl⟩ | cases e
  obtain ⟨hk, e⟩ := chk_some (b := okLen xs ys) e
  cases e
  have hk := okLen_of hk
  obtain ⟨p, vs, rfl, l1, q1⟩ := isList_of h₂ r₁
  obtain ⟨q, ws, rfl, l2, q2⟩ := isList_of h₂ r₂
  obtain ⟨⟨cls, dd, data, sl⟩, ho, hc, n1, hd⟩ := l1
  obtain ⟨⟨cls2, dd2, data2, sl2⟩, ho2, hc2, n2, hd2⟩ := l2
  simp only at hc hd hc2 hd2
  subst hc hd hc2 hd2
  refine concat_meets ⟨_, ho, rfl⟩ ⟨_, ho2, rfl⟩ noFill_list_add seq_list_add PySem.F.slot_list_add PySem.F.entry_list_add (PySem.F.args_list_add_2 _ _) (list_addW p q vs.toArray ws.toArray n1 n2 dd dd2 sl sl2 (by
    have := length_of_rdL q1; have := length_of_rdL q2; simp only [List.size_toArray]; show _ ≤ 2 ^ 24; omega)) ⟨ho, ho2, ?_⟩
  rw [show vs.toArray ++ ws.toArray = (vs ++ ws).toArray by simp]
  have G := grown (s' := { s₂ with heap := s₂.heap.push { cls := .type "list", data := .seq (vs ++ ws).toArray } }) h₂ (fun _ _ e => Heap.get?_push_of_some _ e) rfl h₂.gens
  have ho' := Heap.get?_push_size s₂.heap (o := { cls := .type "list", data := .seq (vs ++ ws).toArray }) rfl
  refine ⟨F₂, _, rfl, Sp.trans (Sp.trans e₁ e₂) G.1, G.2, ⟨(vs ++ ws).toArray, 0, ho', rdL_append q1 q2⟩, fun b hb => ?_⟩
  rw [foot_plain ho' rfl] at hb
  have hb := List.mem_singleton.mp hb
  subst hb
  refine ⟨?_, h₂.none_of (get?_size _), _, ho'⟩
  rcases (Sp.trans e₁ e₂).gone (get?_size s₂.heap) with z | z
  · exact z.elim
  · exact z
end Mine.MI
end
-- MiU
section
namespace Mine.MI
variable {C : Cx} {n : Nat} {T : St}

/-- names to be stored to -/
inductive NamesOf (T : St) : List Expr → List Nat → Prop
  | nil : NamesOf T [] []
  | cons {nm : Str} {p : Pos} {x : Nat} {es : List Expr} {xs : List Nat} : nm = T.nm x → x ∈ T.locs → NamesOf T es xs → NamesOf T (.Name nm p :: es) (x :: xs)
theorem NamesOf.each {es : List Expr} {xs : List Nat} (h : NamesOf T es xs) (env : Env) : assignEach es env = es.map fun e => (false, assign e env) := by
  induction h with
  | nil => rfl
  | cons _ _ _ ih => simp only [assignEach, ih, List.map_cons]
theorem NamesOf.length {es : List Expr} {xs : List Nat} (h : NamesOf T es xs) : es.length = xs.length := by
  induction h with
  | nil => rfl
  | cons _ _ _ ih => simp [ih]

theorem wp_inOrder {A : Around} {env : Env} {F : Fn} {W : Addr → Prop} : ∀ {es : List Expr} {xs : List Nat} {ds : List V} {vs : List Value} {ρ ρ' : Rho} {s : Shared} {Q : Unit → Shared → Prop} {E : Value → Shared → Prop}, NamesOf T es xs → Inv C T env F W ρ s → RdL C F ds vs →
    puts xs ds ρ = some ρ' → (∀ s', Inv C T env F W ρ' s' → Sp F W s F W s' → Q () s') → wpAny C.M A (assignInOrder (es.map fun e => assign e env) vs) Q E s
  | _, _, [], vs, ρ, ρ', s, Q, E, .nil, I, r, e, h => by
    cases e
    simp only [RdL] at r
    subst r
    exact wpAny_pure (h s I Sp.refl)
  | _, _, d :: ds, vs, ρ, ρ', s, Q, E, .nil, I, r, e, h => by cases e
  | _, _, [], vs, ρ, ρ', s, Q, E, .cons _ _ _, I, r, e, h => by cases e
  | _, _, d :: ds, vs, ρ, ρ', s, Q, E, .cons hn hl hs, I, r, e, h => by
    simp only [RdL] at r
    obtain ⟨v, vs', rfl, r1, r2⟩ := r
    subst hn
    show wpAny C.M A (holding vs' (assign _ env v) >>= fun _ => assignInOrder _ vs') Q E s
    refine wpAny_bind (wpAny_holding (wpAny_assign_Name (I.store_val hl r1 fun s₁ I₁ x₁ => ?_)))
    exact wp_inOrder hs I₁ r2 e fun s₂ I₂ x₂ => h s₂ I₂ (x₁.trans x₂)

/-- a target: a name or a tuple of names -/
inductive TgtOk (T : St) : Expr → List Nat → Prop
  | name {nm : Str} {p : Pos} {x : Nat} : nm = T.nm x → x ∈ T.locs → TgtOk T (.Name nm p) [x]
  | tup {es : List Expr} {k : Nat} {p : Pos} {x y : Nat} {xs : List Nat} : NamesOf T es (x :: y :: xs) → TgtOk T (.Tuple es k p) (x :: y :: xs)
theorem extBut_keep {h h' : Heap} (x : Heap.ExtBut h.objs.size h h') (b : Addr) (o : Obj) (e : h.get? b = some o) : h'.get? b = some o := x b o (Nat.ne_of_lt (Heap.lt_size e)) e

theorem wp_unpackInOrder {A : Around} {env : Env} {F : Fn} {W : Addr → Prop} {ρ ρ' : Rho} {s : Shared} {es : List Expr} {xs : List Nat} {ds : List V} {vs : Array Value} {a : Addr} {k : Nat} {p : Pos} {Q : Unit → Shared → Prop} {E : Value → Shared → Prop}
    (R : Room n A) (I : Inv C T env F W ρ s) (hn : NamesOf T es xs) (ht : s.heap.IsTuple a vs) (r : RdL C F ds vs.toList) (e : puts xs ds ρ = some ρ') (hlen : ds.length = xs.length)
    (h : ∀ s', Inv C T env F W ρ' s' → Sp F W s F W s' → Q () s') : wpAny C.M A (assign (.Tuple es k p) env (.ref a)) Q E s := by
  have hl : vs.size = es.length := by rw [hn.length, ← hlen]; simpa using length_of_rdL r
  refine wpAny_assign_Tuple R.handled ht ?_ ?_ fun h' hx => ?_
  · rw [hn.each env, List.length_map, hl]
  · rw [hn.each env, List.findIdx?_eq_none_iff]
    intro x hx
    obtain ⟨e, _, rfl⟩ := List.mem_map.mp hx
    rfl
  · obtain ⟨g1, g2⟩ := grown (s' := { s with heap := h' }) I.hp (extBut_keep hx) rfl I.hp.gens
    rw [hn.each env, List.map_map]
    exact wp_inOrder hn (I.ev g1 g2) r e fun s' I' x' => h s' I' (g1.of_ev.trans x')
theorem puts_length : ∀ {xs : List Nat} {ds : List V} {ρ ρ' : Rho}, puts xs ds ρ = some ρ' → ds.length = xs.length
  | [], [], _, _, _ => rfl
  | [], _ :: _, _, _, e => by cases e
  | _ :: _, [], _, _, e => by cases e
  | x :: xs, d :: ds, ρ, ρ', e => by
    have := puts_length (xs := xs) (ds := ds) e
    simp [this]
theorem wp_target {A : Around} {env : Env} {F : Fn} {W : Addr → Prop} {ρ ρ' : Rho} {s : Shared} {t : Expr} {xs : List Nat} {d : V} {v : Value} {Q : Unit → Shared → Prop} {E : Value → Shared → Prop}
    (R : Room n A) (I : Inv C T env F W ρ s) (ht : TgtOk T t xs) (r : Rd C F d v) (e : putT xs d ρ = some ρ') (h : ∀ s', Inv C T env F W ρ' s' → Sp F W s F W s' → Q () s') : wpAny C.M A (assign t env v) Q E s := by
  cases ht with
  | name hn hl =>
    cases e
    subst hn
    exact wpAny_assign_Name (I.store_val hl r h)
  | tup hn =>
    rename_i es k p x y xs
    obtain ⟨ds, rfl⟩ : ∃ ds, d = .tup ds := by cases d <;> first | exact ⟨_, rfl⟩ | cases e
    have e : puts (x :: y :: xs) ds ρ = some ρ' := e
    simp only [Rd] at r
    obtain ⟨a, o, vs, m, rfl, h1, h2, h3, h4⟩ := r
    exact wp_unpackInOrder R I hn ⟨o, I.hp.inn _ _ h1, h2, m, h3⟩ h4 e (puts_length e) h

theorem semS_unpack {es : List Expr} {k : Nat} {q p : Pos} {xs : List Nat} {e : Expr} {f : D} (hn : NamesOf T es xs) (h : SemE C n T e f) (hs : ∀ env, swapsWithSole [.Tuple es k q] e p.line env = pure false) (hw : ∀ env, swappedStores [.Tuple es k q] e env = pure none) :
    SemS C n T (.Assign [.Tuple es k q] e p) (unpack xs f) := fun A env F W ρ s ρ' fl R I z => by
  obtain ⟨d, e1, z⟩ := ob_some z
  obtain ⟨ds, rfl⟩ : ∃ ds, d = .tup ds := by cases d <;> first | exact ⟨_, rfl⟩ | cases z
  have z : (ob (puts xs ds ρ) fun ρ => some (ρ, Fl.next)) = some (ρ', fl) := z
  obtain ⟨ρ₁, e2, e3⟩ := ob_some z
  cases e3
  refine Assign_Tuple (wpAny_mono (h A env F W ρ s _ R I e1) (fun v s₁ w => ?_) fun _ _ z => z) (hs env) (hw env)
  obtain ⟨F₁, v₁, h₁, r₁⟩ := w
  simp only [Rd] at r₁
  obtain ⟨a, o, vs, m, rfl, g1, g2, g3, g4⟩ := r₁
  have I₁ := I.ev v₁ h₁
  exact wp_unpackInOrder R I₁ hn ⟨o, h₁.inn _ _ g1, g2, m, g3⟩ g4 e2 (puts_length e2) fun s₂ I₂ x₂ => ⟨F₁, W, v₁.of_ev.trans x₂, I₂, trivial⟩

/-- b = n = nt = 0 -/
theorem semS_chain {es : List Expr} {p : Pos} {xs : List Nat} {e : Expr} {f : D} (hn : NamesOf T es xs) (h : SemE C n T e f) (hs : ∀ env, swapsWithSole es e p.line env = pure false) (hw : ∀ env, swappedStores es e env = pure none) :
    SemS C n T (.Assign es e p) (chain xs f) := fun A env F W ρ s ρ' fl R I z => by
  obtain ⟨d, e1, z⟩ := ob_some z
  cases z
  refine wpAny_Assign_stores (wpAny_mono (h A env F W ρ s _ R I e1) (fun v s₁ w => ?_) fun _ _ z => z) (hs env) (hw env)
  obtain ⟨F₁, v₁, h₁, r₁⟩ := w
  rw [hn.each env, List.map_map]
  have key : ∀ {es : List Expr} {xs : List Nat} {ρ : Rho} {s : Shared} {Q : Unit → Shared → Prop}, NamesOf T es xs → Inv C T env F₁ W ρ s → (∀ s', Inv C T env F₁ W (putAll xs d ρ) s' → Sp F₁ W s F₁ W s' → Q () s') →
      wpAny C.M A (assignAll v (es.map fun e => assign e env)) Q (fun _ _ => False) s := by
    intro es xs ρ s Q hn
    induction hn generalizing ρ s Q with
    | nil => intro I h; exact wpAny_pure (h s I Sp.refl)
    | @cons nm p x es xs hnm hl hs ih =>
      intro I h
      subst hnm
      cases hs with
      | nil => exact wpAny_assign_Name (I.store_val hl r₁ h)
      | cons h1 h2 h3 =>
        show wpAny C.M A (holding [v] (assign _ env v) >>= fun _ => assignAll v _) Q _ s
        refine wpAny_bind (wpAny_holding (wpAny_assign_Name (I.store_val hl r₁ fun s₁ I₁ x₁ => ?_)))
        exact ih I₁ fun s₂ I₂ x₂ => h s₂ I₂ (x₁.trans x₂)
  exact key hn (I.ev v₁ h₁) fun s₂ I₂ x₂ => ⟨F₁, W, v₁.of_ev.trans x₂, I₂, trivial⟩
end Mine.MI
end
-- MiV
section
namespace Mine.MI
variable {C : Cx} {n : Nat} {T : St}

theorem swapped2 {a b : Str} {pa pb q q' : Pos} {k k' : Nat} {e1 e2 : Expr} (env : Env) (h0 : ([e1, e2].any fun | .Starred .. => true | _ => false) = false) (h1 : [e1, e2].all (foldedForSure 8) = false) (h2 : [e1, e2].all (constantsAlone 8) = false)
    (hd : ([a, b].eraseDups.length == 2) = true) :
    swappedStores [.Tuple [.Name a pa, .Name b pb] k q] (.Tuple [e1, e2] k' q') env = pure none ∨ swappedStores [.Tuple [.Name a pa, .Name b pb] k q] (.Tuple [e1, e2] k' q') env = pure (some [a, b]) := by
  unfold swappedStores
  simp only [List.length_cons, List.length_nil]
  by_cases hb : env.blockKind = .function
  · simp only [hb, h0, h1, h2]
    cases ca : (env.kindOf a == some .local && pa.line == ((([.Name a pa, .Name b pb] : List Expr).head?.map (·.pos.line)).getD 0)) <;>
      cases cb : (env.kindOf b == some .local && pb.line == ((([.Name a pa, .Name b pb] : List Expr).head?.map (·.pos.line)).getD 0)) <;>
      simp_all
    right
    rintro (h | h)
    · exact absurd (h.symm.trans h0.1 : true = false) (by decide)
    · exact absurd (h.symm.trans h0.2 : true = false) (by decide)
  · left
    simp [hb]
theorem swapped3 {a b c : Str} {pa pb pc q q' : Pos} {k k' : Nat} {e1 e2 e3 : Expr} (env : Env) (h0 : ([e1, e2, e3].any fun | .Starred .. => true | _ => false) = false) (h1 : [e1, e2, e3].all (foldedForSure 8) = false) (h2 : [e1, e2, e3].all (constantsAlone 8) = false)
    (hd : ([a, b, c].eraseDups.length == 3) = true) :
    swappedStores [.Tuple [.Name a pa, .Name b pb, .Name c pc] k q] (.Tuple [e1, e2, e3] k' q') env = pure none ∨ swappedStores [.Tuple [.Name a pa, .Name b pb, .Name c pc] k q] (.Tuple [e1, e2, e3] k' q') env = pure (some [a, b, c]) := by
  unfold swappedStores
  simp only [List.length_cons, List.length_nil]
  by_cases hb : env.blockKind = .function
  · simp only [hb, h0, h1, h2]
    cases ca : (env.kindOf a == some .local && pa.line == ((([.Name a pa, .Name b pb, .Name c pc] : List Expr).head?.map (·.pos.line)).getD 0)) <;>
      cases cb : (env.kindOf b == some .local && pb.line == ((([.Name a pa, .Name b pb, .Name c pc] : List Expr).head?.map (·.pos.line)).getD 0)) <;>
      cases cc : (env.kindOf c == some .local && pc.line == ((([.Name a pa, .Name b pb, .Name c pc] : List Expr).head?.map (·.pos.line)).getD 0)) <;>
      simp_all
    right
    rintro (h | h | h)
    · exact absurd (h.symm.trans h0.1 : true = false) (by decide)
    · exact absurd (h.symm.trans h0.2.1 : true = false) (by decide)
    · exact absurd (h.symm.trans h0.2.2 : true = false) (by decide)
  · left
    simp [hb]

theorem get_puts : ∀ {xs : List Nat} {ds : List V} {ρ ρ' : Rho}, xs.Nodup → puts xs ds ρ = some ρ' → ∀ y sl, get y ρ' = some sl ↔ ((∃ d, (y, d) ∈ xs.zip ds ∧ sl = .val d) ∨ (y ∉ xs ∧ get y ρ = some sl))
  | [], [], ρ, ρ', _, e, y, sl => by cases e; simp
  | [], _ :: _, _, _, _, e, _, _ => by cases e
  | _ :: _, [], _, _, _, e, _, _ => by cases e
  | x :: xs, d :: ds, ρ, ρ', hn, e, y, sl => by
    have hx := (List.nodup_cons.mp hn)
    have ih := get_puts hx.2 (show puts xs ds (put x (.val d) ρ) = some ρ' from e) y sl
    rw [ih, get_put]
    have hlen := puts_length (show puts xs ds (put x (.val d) ρ) = some ρ' from e)
    constructor
    · rintro (⟨d', h1, h2⟩ | ⟨h1, h2⟩)
      · exact .inl ⟨d', by simp [h1], h2⟩
      · by_cases hy : y = x
        · subst hy; rw [if_pos rfl] at h2; cases h2; exact .inl ⟨d, by simp, rfl⟩
        · rw [if_neg hy] at h2; exact .inr ⟨by simp [hy, h1], h2⟩
    · rintro (⟨d', h1, h2⟩ | ⟨h1, h2⟩)
      · simp only [List.zip_cons_cons, List.mem_cons, Prod.mk.injEq] at h1
        rcases h1 with ⟨rfl, rfl⟩ | h1
        · exact .inr ⟨hx.1, by rw [if_pos rfl, h2]⟩
        · exact .inl ⟨d', h1, h2⟩
      · simp only [List.mem_cons, not_or] at h1
        exact .inr ⟨h1.2, by rw [if_neg h1.1]; exact h2⟩
theorem puts_some : ∀ {xs : List Nat} {ds : List V} {ρ : Rho}, ds.length = xs.length → ∃ ρ', puts xs ds ρ = some ρ'
  | [], [], _, _ => ⟨_, rfl⟩
  | [], _ :: _, _, h => by simp at h
  | _ :: _, [], _, h => by simp at h
  | x :: xs, d :: ds, ρ, h => puts_some (xs := xs) (ds := ds) (by simpa using h)
theorem rdL_reverse {F : Fn} : ∀ {xs : List V} {vs : List Value}, RdL C F xs vs → RdL C F xs.reverse vs.reverse
  | [], _, h => by simp only [RdL] at h; subst h; simp [RdL]
  | x :: xs, _, h => by
    simp only [RdL] at h
    obtain ⟨v, r, rfl, h1, h2⟩ := h
    rw [List.reverse_cons, List.reverse_cons]
    exact rdL_append (rdL_reverse h2) (by simp only [RdL]; exact ⟨v, [], rfl, h1, rfl⟩)
theorem zip_rev {α β : Type} : ∀ {xs : List α} {ys : List β}, ys.length = xs.length → xs.reverse.zip ys.reverse = (xs.zip ys).reverse
  | [], [], _ => rfl
  | [], _ :: _, h => by simp at h
  | _ :: _, [], h => by simp at h
  | x :: xs, y :: ys, h => by
    have h : ys.length = xs.length := by simpa using h
    rw [List.reverse_cons, List.reverse_cons, List.zip_append (by simp [h]), zip_rev h]
    simp
theorem puts_rev {env : Env} {F : Fn} {W : Addr → Prop} {xs : List Nat} {ds : List V} {ρ ρ₁ ρ₂ : Rho} {s : Shared} (hn : xs.Nodup) (e1 : puts xs ds ρ = some ρ₁) (e2 : puts xs.reverse ds.reverse ρ = some ρ₂) (I : Inv C T env F W ρ₂ s) : Inv C T env F W ρ₁ s :=
  I.congr fun y sl g => by
    rw [get_puts hn e1] at g
    rw [get_puts (List.Perm.nodup_iff (List.reverse_perm xs) |>.mpr hn) e2, zip_rev (puts_length e1)]
    simpa using g

/-- names stored to in turn by their text -/
theorem wp_binds {A : Around} {env : Env} {F : Fn} {W : Addr → Prop} : ∀ {xs : List Nat} {ds : List V} {vs : List Value} {ρ ρ' : Rho} {s : Shared} {Q : Unit → Shared → Prop} {E : Value → Shared → Prop}, (∀ x ∈ xs, x ∈ T.locs) → Inv C T env F W ρ s → RdL C F ds vs →
    puts xs ds ρ = some ρ' → (∀ s', Inv C T env F W ρ' s' → Sp F W s F W s' → Q () s') → wpAny C.M A (assignInOrder ((xs.map T.nm).map fun n => bindName env n) vs) Q E s
  | [], [], vs, ρ, ρ', s, Q, E, hl, I, r, e, h => by
    cases e
    simp only [RdL] at r
    subst r
    exact wpAny_pure (h s I Sp.refl)
  | [], d :: ds, vs, ρ, ρ', s, Q, E, hl, I, r, e, h => by cases e
  | x :: xs, [], vs, ρ, ρ', s, Q, E, hl, I, r, e, h => by cases e
  | x :: xs, d :: ds, vs, ρ, ρ', s, Q, E, hl, I, r, e, h => by
    simp only [RdL] at r
    obtain ⟨v, vs', rfl, r1, r2⟩ := r
    show wpAny C.M A (holding vs' (bindName env (T.nm x) v) >>= fun _ => assignInOrder _ vs') Q E s
    refine wpAny_bind (wpAny_holding (wpAny_bindName (I.store_val (hl x (by simp)) r1 fun s₁ I₁ x₁ => ?_)))
    exact wp_binds (fun y hy => hl y (List.mem_cons_of_mem _ hy)) I₁ r2 e fun s₂ I₂ x₂ => h s₂ I₂ (x₁.trans x₂)
theorem NamesOf.locs {es : List Expr} {xs : List Nat} (h : NamesOf T es xs) : ∀ x ∈ xs, x ∈ T.locs := by
  induction h with
  | nil => intro x hx; simp at hx
  | cons h1 h2 _ ih => intro x hx; rcases List.mem_cons.mp hx with rfl | hx <;> first | exact h2 | exact ih _ hx

noncomputable def multiV (xs : List Nat) (es : List D) : DS := fun ρ => ob (evs es ρ) fun vs => ob (puts xs vs ρ) fun ρ => some (ρ, .next)
theorem semS_multi {ts es : List Expr} {k k' : Nat} {q q' p : Pos} {xs : List Nat} {fs : List D} (hn : NamesOf T ts xs) (hnd : xs.Nodup) (h : SemE C n T (.Tuple es k' q') (tupE fs)) (hs : ∀ env, swapsWithSole [.Tuple ts k q] (.Tuple es k' q') p.line env = pure false)
    (hw : ∀ env, swappedStores [.Tuple ts k q] (.Tuple es k' q') env = pure none ∨ swappedStores [.Tuple ts k q] (.Tuple es k' q') env = pure (some (xs.map T.nm))) :
    SemS C n T (.Assign [.Tuple ts k q] (.Tuple es k' q') p) (multiV xs fs) := fun A env F W ρ s ρ' fl R I z => by
  obtain ⟨ds, e1, z⟩ := ob_some z
  obtain ⟨ρ₁, e2, e3⟩ := ob_some z
  cases e3
  have et : tupE fs ρ = some (.tup ds) := by unfold tupE; rw [e1]; rfl
  rcases hw env with hw | hw
  · refine Assign_Tuple (wpAny_mono (h A env F W ρ s _ R I et) (fun v s₁ w => ?_) fun _ _ z => z) (hs env) hw
    obtain ⟨F₁, v₁, h₁, r₁⟩ := w
    simp only [Rd] at r₁
    obtain ⟨a, o, vs, m, rfl, g1, g2, g3, g4⟩ := r₁
    have I₁ := I.ev v₁ h₁
    exact wp_unpackInOrder R I₁ hn ⟨o, h₁.inn _ _ g1, g2, m, g3⟩ g4 e2 (puts_length e2) fun s₂ I₂ x₂ => ⟨F₁, W, v₁.of_ev.trans x₂, I₂, trivial⟩
  · refine Assign_Tuple_swapped (wpAny_mono (h A env F W ρ s _ R I et) (fun v s₁ w => ?_) fun _ _ z => z) (hs env) hw
    obtain ⟨F₁, v₁, h₁, r₁⟩ := w
    simp only [Rd] at r₁
    obtain ⟨a, o, vs, m, rfl, g1, g2, g3, g4⟩ := r₁
    have hsz : (xs.map T.nm).length = vs.size := by
      rw [List.length_map, ← puts_length e2]
      simpa using (length_of_rdL g4).symm
    rw [hsz]
    refine wpAny_unpackItems_tuple R.handled ⟨o, h₁.inn _ _ g1, g2, m, g3⟩ fun h' hx => ?_
    obtain ⟨G1, G2⟩ := grown (s' := { s₁ with heap := h' }) h₁ (extBut_keep hx) rfl h₁.gens
    obtain ⟨ρ₂, e4⟩ := puts_some (xs := xs.reverse) (ds := ds.reverse) (ρ := ρ) (by simp [puts_length e2])
    rw [← List.map_reverse]
    refine wp_binds (fun x hx => hn.locs x (List.mem_reverse.mp hx)) ((I.ev v₁ h₁).ev G1 G2) (rdL_reverse g4) e4 fun s₂ I₂ x₂ => ?_
    exact ⟨F₁, W, v₁.of_ev.trans (G1.of_ev.trans x₂), puts_rev hnd e2 e4 I₂, trivial⟩
end Mine.MI
end
-- MiM
section
namespace Mine.MI
variable {C : Cx} {n : Nat} {T : St}

/-- an own container changes at one of its addresses -/
theorem Inv.mutate {env : Env} {F : Fn} {W : Addr → Prop} {ρ : Rho} {s s' : Shared} {x : Nat} {d d' : V} {a p : Addr} (I : Inv C T env F W ρ s) (g : get x ρ = some (.own d)) (va : VarAt env s.heap (T.nm x) (.ref a)) (hp : p ∈ foot s.heap a)
    (hs : Heap.SameBut p s.heap s'.heap) (hf : foot s'.heap a = foot s.heap a) (ow : Own C F s'.heap a d') (hal : ∃ o, s'.heap.get? p = some o) (hos : s'.os = s.os) (hg : s'.gens = s.gens) :
    Inv C T env F W (put x (.own d') ρ) s' ∧ Sp F W s F W s' := by
  obtain ⟨hx, a0, va0, ow0, fo⟩ := I.vars x _ g
  cases va.unique va0
  obtain ⟨wp, hpl, hpc⟩ := fo p hp
  have hpn : F p = none := (I.off p wp).1
  have keep : ∀ b o, s.heap.get? b = some o → ¬ W b → s'.heap.get? b = some o := fun b o e hb => hs.extBut b o (fun q => hb (q ▸ wp)) e
  have alive : ∀ b, (∃ o, s.heap.get? b = some o) → ∃ o, s'.heap.get? b = some o := fun b ⟨o, e⟩ => by
    by_cases q : b = p
    · subst q; exact hal
    · exact ⟨o, hs.extBut b o q e⟩
  have var : ∀ y u, VarAt env s.heap y u → VarAt env s'.heap y u := fun y u v => by
    cases v with
    | loc m h1 h2 h3 => exact .loc m h1 (h2.sameBut hs (Ne.symm hpl)) h3
    | cell c h1 h2 h3 => exact .cell c h1 h2 (h3.sameBut hs (hpc _ _ h2))
  have other : ∀ y dy b, y ≠ x → get y ρ = some (.own dy) → VarAt env s.heap (T.nm y) (.ref b) → p ∉ foot s.heap b := fun y dy b hy gy vb hm => I.dist x y d dy a b (Ne.symm hy) g gy va vb p hp hm
  refine ⟨⟨⟨fun b o e => hs.extBut b o (fun q => by rw [← q, e] at hpn; cases hpn) (I.hp.inn b o e), I.hp.base, hos.trans I.hp.os, by rw [hg]; exact I.hp.gens⟩, I.nodup, I.kind, I.gl, I.bi, I.globs, fun b w => ⟨(I.off b w).1, alive b (I.off b w).2⟩, I.wl,
    fun y c hc => alive c (I.cal y c hc), ?_, fun y hy => ?_, fun y sl gy => ?_, fun y z dy dz b c hyz gy gz vb vc => ?_, fun y b q => let ⟨p1, p2, p3⟩ := I.pin y b q; ⟨p1, p2, var _ _ p3⟩⟩, ⟨Sub.refl, fun _ h => .inl h, fun _ _ e => .inl e, keep⟩⟩
  · obtain ⟨m, hm⟩ := I.ns; exact ⟨m, hm.sameBut hs (Ne.symm hpl)⟩
  · obtain ⟨h1, h2⟩ := I.locs y hy
    refine ⟨h1, h2.imp id ?_⟩
    rintro ⟨k, c, c1, c2, c3, ⟨ov, c4⟩, c5⟩
    exact ⟨k, c, c1, c2, c3, ⟨ov, c4.sameBut hs (hpc _ _ c1)⟩, c5⟩
  · rw [get_put] at gy
    by_cases hyx : y = x
    · subst hyx
      rw [if_pos rfl] at gy; cases gy
      exact ⟨hx, a, var _ _ va, ow, by rw [hf]; exact fo⟩
    · rw [if_neg hyx] at gy
      obtain ⟨h1, h2⟩ := I.vars y _ gy
      refine ⟨h1, ?_⟩
      cases sl with
      | val e => obtain ⟨u, k1, k2⟩ := h2; exact ⟨u, var _ _ k1, k2⟩
      | own e =>
        obtain ⟨b, k1, k2, k3⟩ := h2
        have nf := other y e b hyx gy k1
        exact ⟨b, var _ _ k1, Own.keeps k2 Sub.refl (fun c hc o e => hs.extBut c o (fun q => nf (q ▸ hc)) e), by rw [foot_same hs nf]; exact k3⟩
  · have key : ∀ y dy b, get y (put x (.own d') ρ) = some (.own dy) → VarAt env s'.heap (T.nm y) (.ref b) → ∃ dy', get y ρ = some (.own dy') ∧ VarAt env s.heap (T.nm y) (.ref b) ∧ foot s'.heap b = foot s.heap b := fun y dy b gy vb => by
      rw [get_put] at gy
      by_cases hyx : y = x
      · subst hyx
        cases vb.unique (var _ _ va)
        exact ⟨d, g, va, hf⟩
      · rw [if_neg hyx] at gy
        obtain ⟨_, b0, vb0, _⟩ := I.vars y _ gy
        cases vb.unique (var _ _ vb0)
        exact ⟨dy, gy, vb0, foot_same hs (other y dy b hyx gy vb0)⟩
    obtain ⟨dy', g1, v1, f1⟩ := key y dy b gy vb
    obtain ⟨dz', g2, v2, f2⟩ := key z dz c gz vc
    rw [f1, f2]
    exact I.dist y z dy' dz' b c hyz g1 g2 v1 v2
theorem Inv.own_at {env : Env} {F : Fn} {W : Addr → Prop} {ρ : Rho} {s : Shared} {x : Nat} {d : V} (I : Inv C T env F W ρ s) (g : get x ρ = some (.own d)) : ∃ a, VarAt env s.heap (T.nm x) (.ref a) ∧ Own C F s.heap a d :=
  let ⟨_, a, va, ow, _⟩ := I.vars x _ g; ⟨a, va, ow⟩
theorem mem_foot {h : Heap} {a : Addr} : a ∈ foot h a := by unfold foot; exact List.mem_cons_self

theorem semS_append {x : Str} {i : Nat} {e : Expr} {q apos p0 p : Pos} {f : D} (hx : x = T.nm i) (h1 : (x == ("__debug__" : Str)) = false) (h2 : (x == ("__classdict__" : Str)) = false) (h : SemE C n T e f)
    (hbase : ∀ env, attributeBase (.Name x q) "append" env (eval (.Name x q) env) = eval (.Name x q) env) (hline : (apos.endLine == p0.line) = true) (hs : ∀ env, starEach [e] env = [(false, eval e env)])
    (hi : ∀ env : Env, env.scope.kind = .function → interactive env = false) (hsw : ∀ env, swapsWith (.Call (.Attribute (.Name x q) "append" apos) [e] [] p0) none p.line env = pure false) :
    SemS C n T (.Expr (.Call (.Attribute (.Name x q) "append" apos) [e] [] p0) p) (append i f) := fun A env F W ρ s ρ' fl R I z => by
  obtain ⟨d, e1, z⟩ := ob_some z
  obtain ⟨l, g⟩ : ∃ l, get i ρ = some (.own (.lst l)) := by
    split at z
    · rename_i l g; exact ⟨l, g⟩
    · cases z
  rw [g] at z
  obtain ⟨hk, z⟩ := chk_some z
  cases z
  have hk := Nat.le_of_ble_eq_true hk
  subst hx
  obtain ⟨a, va, ow⟩ := I.own_at g
  obtain ⟨vs, m, ho, hr⟩ := ow
  refine wpAny_Expr (wpAny_Call_append (hbase env) (by rw [hs env]; rfl) hline (by rw [hs env]; rfl) (wpAny_Name (wp_load I.kind va ⟨a, vs, rfl, ⟨_, m, ho, rfl, rfl, rfl⟩, ?_⟩ h2) h1)) (hi env I.kind) (hsw env)
  refine wpAny_mono (h A env F W ρ s d R I e1) (fun v s₁ w => ?_) fun _ _ z => z
  obtain ⟨F₁, v₁, h₁, r₁⟩ := w
  have I₁ := I.ev v₁ h₁
  have ho₁ := v₁.keep' _ _ ho
  have hz : vs.size = l.length := by simpa using length_of_rdL hr
  refine append_at ho₁ (fun h' hs' ho' => ?_) (by rw [hz]; show _ ≤ 2 ^ 24; omega)
  obtain ⟨I₂, x₂⟩ := I₁.mutate (s' := { s₁ with heap := h' }) (d' := .lst (l ++ [d])) g (va.keeps v₁.keep') mem_foot hs' (by rw [foot_plain ho₁ rfl]; exact foot_plain ho' rfl)
    ⟨vs.push v, m + 1, ho', by rw [Array.toList_push]; exact rdL_append (RdL.mono v₁.sub hr) (by simp only [RdL]; exact ⟨v, [], rfl, r₁, rfl⟩)⟩ ⟨_, ho'⟩ rfl rfl
  exact ⟨F₁, W, v₁.of_ev.trans x₂, I₂, trivial⟩
theorem setN_set {α : Type} : ∀ {l : List α} {k : Nat} {v : α} {l' : List α}, setN l k v = some l' → k < l.length ∧ l' = l.set k v
  | [], _, _, _, e => by cases e
  | a :: r, 0, v, l', e => by cases e; exact ⟨by simp, rfl⟩
  | a :: r, k + 1, v, l', e => by
    obtain ⟨t, e1, e2⟩ := ob_some (o := setN r k v) e
    cases e2
    obtain ⟨h1, h2⟩ := setN_set e1
    exact ⟨by simpa using h1, by simp [h2]⟩
theorem rdL_set {F : Fn} : ∀ {xs : List V} {vs : List Value} {k : Nat} {d : V} {v : Value}, RdL C F xs vs → Rd C F d v → RdL C F (xs.set k d) (vs.set k v)
  | [], _, k, d, v, h, _ => by simp only [RdL] at h; subst h; simp [RdL]
  | x :: xs, _, k, d, v, h, r => by
    simp only [RdL] at h
    obtain ⟨u, w, rfl, h1, h2⟩ := h
    cases k with
    | zero => simp only [List.set_cons_zero, RdL]; exact ⟨v, w, rfl, r, h2⟩
    | succ k => simp only [List.set_cons_succ, RdL]; exact ⟨u, _, rfl, h1, rdL_set h2 r⟩
theorem setItem_plain {prog : Program} {w : World} {A : Around} {E : Value → Shared → Prop} {s : Shared} {l : Addr} {vs : Array Value} {m : Nat} {k : Int} {t : Tok} {v : Value} {Q : Unit → Shared → Prop} (ho : s.heap.get? l = some { cls := .type "list", data := .seq vs m })
    (h0 : 0 ≤ k) (hfit : k < 2 ^ 63) (hn : k < vs.size) (hQ : ∀ h', (∃ m', h'.get? l = some { cls := .type "list", data := .seq (vs.setIfInBounds k.toNat v) m' }) → Heap.SameBut l s.heap h' → Q () { s with heap := h' }) :
    wpAny (model prog w) A (setItem (.ref l) (.int k t) v) Q E s := by
  have hl : s.heap.IsList l vs := ⟨_, ho, rfl, m, rfl⟩
  unfold setItem
  try with_reducible refine wpAny_holding ?_
  first | refine wpAny_bind (wpAny_pure ?_) | skip
  refine wpAny_bind (wpAny_sequenceKey hl.typeIs (by decide) ?_)
  refine wpAny_bind (wpAny_callSpecial?_slot (name := Str.ofString "__setitem__") hl.typeIs slot_list_setitem
    (wpAny_call_entry slot_list_setitem hl.typeIs entry_list_setitem ?_ (args_list_setitem _ _ _)))
  show wpAny _ _ (Builtin.List.listSubscript? (.int k t) >>= _) _ _ s
  refine wpAny_bind (wpAny_listSubscript_int (fitsIndex_of h0 hfit) ?_)
  clear hfit
  obtain ⟨j, rfl⟩ := Int.eq_ofNat_of_zero_le h0
  have hj : j < vs.size := by omega
  have hx' : vs[j]? = some vs[j] := Array.getElem?_eq_getElem hj
  show wpAny _ _ ((seqItemAt l j >>= fun r => pure (r.map (j, ·))) >>= _) _ _ s
  refine wpAny_bind (wpAny_bind (wpAny_seqItemAt ho rfl (wpAny_pure ?_)))
  rw [hx']
  show wpAny _ _ (setSeqItemAt l j v >>= _) _ _ s
  have hfin : ∃ m', (s.heap.update l (Obj.mapSeq (·.setIfInBounds j v))).get? l = some { cls := .type "list", data := .seq (vs.setIfInBounds j v) m' } := ⟨_, Heap.get?_update_self _ ho rfl⟩
  refine wpAny_bind (wpAny_setSeqItemAt ho rfl ?_)
  first
    | exact wpAny_bind (wpAny_pure (wpAny_pure ⟨.none, rfl, wpAny_pure (hQ _ hfin (Heap.SameBut.update ..))⟩))
    | exact wpAny_pure ⟨.none, rfl, wpAny_pure (hQ _ hfin (Heap.SameBut.update ..))⟩
theorem memK_iff (k : List Nat) : ∀ ks : List (List Nat), memK k ks = decide (k ∈ ks)
  | [] => rfl
  | j :: r => by
    unfold memK
    rw [eqL_iff, memK_iff k r]
    by_cases h : j = k
    · subst h; simp
    · have : ¬ k = j := fun e => h e.symm
      simp [h, this]
theorem keys_any {ks : List (List Nat)} {kvs : List (Str × Value)} (k : List Nat) (h : kvs.map (·.1) = ks.map toS) : (kvs.any fun kv => kv.1 = toS k) = memK k ks := by
  rw [memK_iff, Bool.eq_iff_iff]
  simp only [List.any_eq_true, decide_eq_true_eq]
  constructor
  · rintro ⟨kv, h1, h2⟩
    have : toS k ∈ ks.map toS := by rw [← h, ← h2]; exact List.mem_map_of_mem h1
    obtain ⟨j, h3, h4⟩ := List.mem_map.mp this
    rw [← toS_inj h4]; exact h3
  · intro hk
    have : toS k ∈ kvs.map (·.1) := by rw [h]; exact List.mem_map_of_mem hk
    obtain ⟨kv, h1, h2⟩ := List.mem_map.mp this
    exact ⟨kv, h1, h2⟩
theorem stored_old {F : Fn} {v : Value} {d : V} (k : List Nat) (r : Rd C F d v) : ∀ {ks : List (List Nat)} {xs : List V} {kvs : List (Str × Value)}, kvs.map (·.1) = ks.map toS → (kvs.map (·.1)).Nodup → RdL C F xs (kvs.map (·.2)) → memK k ks = true →
    (kvs.map fun kv => if kv.1 = toS k then (kv.1, v) else kv).map (·.1) = ks.map toS ∧ RdL C F (dset k d ks xs) ((kvs.map fun kv => if kv.1 = toS k then (kv.1, v) else kv).map (·.2))
  | [], xs, kvs, h, hn, hr, hm => by cases hm
  | j :: ks, xs, [], h, hn, hr, hm => by simp at h
  | j :: ks, [], kv :: kvs, h, hn, hr, hm => by simp [RdL] at hr
  | j :: ks, x :: xs, kv :: kvs, h, hn, hr, hm => by
    simp only [List.map_cons, List.cons.injEq] at h
    simp only [List.map_cons, RdL] at hr
    obtain ⟨u, r', e, r1, r2⟩ := hr
    injection e with e1 e2
    subst e1 e2
    rw [List.map_cons, List.nodup_cons] at hn
    by_cases hj : j = k
    · subst hj
      have hk : kv.1 = toS j := h.1
      rw [List.map_cons, if_pos hk, ← hk, map_store_of_not_mem kvs kv.1 v hn.1]
      refine ⟨by simp [h.1, h.2], ?_⟩
      have : dset j d (j :: ks) (x :: xs) = d :: xs := by unfold dset; rw [eqL_iff, decide_eq_true rfl]
      rw [this]
      simp only [List.map_cons, RdL]
      exact ⟨v, _, rfl, r, r2⟩
    · have hk : ¬ kv.1 = toS k := fun q => hj (toS_inj (h.1.symm.trans q))
      have hm' : memK k ks = true := by
        unfold memK at hm
        rw [eqL_iff, decide_eq_false hj] at hm
        exact hm
      obtain ⟨i1, i2⟩ := stored_old k r h.2 hn.2 r2 hm'
      rw [List.map_cons, if_neg hk]
      refine ⟨by simp only [List.map_cons, h.1, i1], ?_⟩
      have : dset k d (j :: ks) (x :: xs) = x :: dset k d ks xs := by conv => lhs; unfold dset; rw [eqL_iff, decide_eq_false hj]
      rw [this]
      simp only [List.map_cons, RdL]
      exact ⟨_, _, rfl, r1, i2⟩
theorem setidx_inv {i : Nat} {g f : D} {ρ ρ' : Rho} {fl : Fl} (z : setidx i g f ρ = some (ρ', fl)) : ∃ d k, f ρ = some d ∧ g ρ = some k ∧
    ((∃ l m, get i ρ = some (.own (.lst l)) ∧ k = .int (.ofNat m) ∧ chk (Nat.ble m 10000) (ob (setN l m d) fun l => some (put i (.own (.lst l)) ρ, Fl.next)) = some (ρ', fl)) ∨
     (∃ ks xs m, get i ρ = some (.own (.dct ks xs)) ∧ k = .str m ∧ chk (Nat.ble ks.length 10000) (match memK m ks with | true => some (put i (.own (.dct ks (dset m d ks xs))) ρ, Fl.next) | false => some (put i (.own (.dct (ks ++ [m]) (xs ++ [d]))) ρ, Fl.next)) = some (ρ', fl))) := by
  obtain ⟨d, e1, z⟩ := ob_some z
  obtain ⟨k, e2, z⟩ := ob_some z
  refine ⟨d, k, e1, e2, ?_⟩
  revert z
  cases get i ρ with
  | none => intro z; cases z
  | some sl =>
    cases sl with
    | val w => intro z; cases z
    | own w =>
      cases w with
      | lst l =>
        cases k with
        | int iv =>
          cases iv with
          | ofNat m => exact fun z => .inl ⟨l, m, rfl, rfl, z⟩
          | negSucc m => intro z; cases z
        | _ => intro z; cases z
      | dct ks xs =>
        cases k with
        | str m => exact fun z => .inr ⟨ks, xs, m, rfl, rfl, z⟩
        | _ => intro z; cases z
      | _ => intro z; cases z
theorem semS_setidx {x : Str} {i : Nat} {e j : Expr} {q q' p : Pos} {f g : D} (hx : x = T.nm i) (h1 : (x == ("__debug__" : Str)) = false) (h2 : (x == ("__classdict__" : Str)) = false) (he : SemE C n T e f) (hj : SemE C n T j g)
    (hs : ∀ env, swapsWith e (some (.Subscript (.Name x q) j q')) p.line env = pure false) : SemS C n T (.Assign [.Subscript (.Name x q) j q'] e p) (setidx i g f) := fun A env F W ρ s ρ' fl R I z => by
  obtain ⟨d, k, e1, e2, z⟩ := setidx_inv z
  subst hx
  obtain ⟨w, g0⟩ : ∃ w, get i ρ = some (.own w) := by
    rcases z with ⟨l, m, g0, _⟩ | ⟨ks, xs, m, g0, _⟩ <;> exact ⟨_, g0⟩
  obtain ⟨a, va, ow⟩ := I.own_at g0
  refine wpAny_Assign_Subscript (wpAny_mono (he A env F W ρ s d R I e1) (fun v s₁ q1 => ?_) fun _ _ z => z) (hs env)
  obtain ⟨F₁, v₁, hh₁, r₁⟩ := q1
  have I₁ := I.ev v₁ hh₁
  have va₁ := va.keeps v₁.keep'
  refine wpAny_Name (wp_load I₁.kind va₁ ?_ h2) h1
  refine wpAny_mono (hj A env F₁ W ρ s₁ k R I₁ e2) (fun iv s₂ q2 => ?_) fun _ _ z => z
  obtain ⟨F₂, v₂, hh₂, r₂⟩ := q2
  have I₂ := I₁.ev v₂ hh₂
  have va₂ := va₁.keeps v₂.keep'
  have v₁₂ := Sp.trans v₁ v₂
  have r₁ := r₁.mono v₂.sub
  rcases z with ⟨l, m, g1, rfl, z⟩ | ⟨ks, xs, m, g1, rfl, z⟩
  · rw [g0] at g1
    cases g1
    obtain ⟨hk, z⟩ := chk_some z
    obtain ⟨l', e3, z⟩ := ob_some z
    cases z
    have hk := Nat.le_of_ble_eq_true hk
    obtain ⟨hm, rfl⟩ := setN_set e3
    obtain ⟨vs, t, ho, hr⟩ := ow
    simp only [Rd] at r₂
    obtain ⟨u, rfl⟩ := r₂
    have ho₂ := v₁₂.keep' _ _ ho
    have hz : vs.size = l.length := by simpa using length_of_rdL hr
    refine setItem_plain ho₂ (by simp) (by simp only [Int.ofNat_eq_natCast]; omega) (by simp only [Int.ofNat_eq_natCast]; omega) fun h' ho' hs' => ?_
    obtain ⟨m', ho'⟩ := ho'
    obtain ⟨I₃, x₃⟩ := I₂.mutate (s' := { s₂ with heap := h' }) (d' := .lst (l.set m d)) g0 va₂ mem_foot hs' (by rw [foot_plain ho₂ rfl]; exact foot_plain ho' rfl)
      ⟨_, m', ho', by simpa using rdL_set (k := m) (RdL.mono v₁₂.sub hr) r₁⟩ ⟨_, ho'⟩ rfl rfl
    exact ⟨F₂, W, v₁₂.of_ev.trans x₃, I₃, trivial⟩
  · rw [g0] at g1
    cases g1
    obtain ⟨o, kvs, ho, hod, hsy, hdo, hks, hst, hr⟩ := ow
    simp only [Rd] at r₂
    obtain ⟨hstr, u, rfl⟩ := r₂
    have ho₂ := v₁₂.keep' _ _ ho
    have hd : s₂.heap.DictOf C.knd a kvs := by obtain ⟨es, ep, q⟩ := hdo; exact ⟨o, es, ep, ho₂, q⟩
    have hnd : (kvs.map (·.1)).Nodup := by obtain ⟨es, ep, q1, q2, q3, q4, q5⟩ := hdo; exact q5
    have hr₂ := RdL.mono v₁₂.sub hr
    have hkl : kvs.length = ks.length := by have := congrArg List.length hks; simpa using this
    have fin : ∀ (h' : Heap) ks' xs', h'.DictOf C.knd a (stored kvs (toS m) v) → Heap.SameBut a s₂.heap h' → (stored kvs (toS m) v).map (·.1) = ks'.map toS → (∀ k ∈ ks', strV k) → RdL C F₂ xs' ((stored kvs (toS m) v).map (·.2)) →
        RetS C T env F W s (put i (.own (.dct ks' xs')) ρ) .next .next { s₂ with heap := h', toks := s₂.toks + 1 } := fun h' ks' xs' hd' hs' hk' hst' hr' => by
      obtain ⟨o', es', ep', ho', q⟩ := id hd'
      obtain ⟨o1, ho1, hdn⟩ := hd'.mapOf.noDict a rfl
      rw [ho'] at ho1; cases ho1
      obtain ⟨I₃, x₃⟩ := I₂.mutate (s' := { s₂ with heap := h', toks := s₂.toks + 1 }) (d' := .dct ks' xs') g0 va₂ mem_foot hs' (by rw [foot_plain ho₂ hod]; exact foot_plain ho' hdn)
        ⟨o', _, ho', hdn, hsy, ⟨es', ep', q⟩, hk', hst', hr'⟩ ⟨_, ho'⟩ rfl rfl
      exact ⟨F₂, W, v₁₂.of_ev.trans x₃, I₃, trivial⟩
    have hany := keys_any m hks
    obtain ⟨hk, z⟩ := chk_some z
    have hk := Nat.le_of_ble_eq_true hk
    cases hmem : memK m ks with
    | true =>
      rw [hmem] at z
      cases z
      have hst' : stored kvs (toS m) v = kvs.map fun kv => if kv.1 = toS m then (kv.1, v) else kv := by unfold stored; rw [hany, hmem]; rfl
      obtain ⟨q1, q2⟩ := stored_old m r₁ hks hnd hr₂ hmem
      exact wpAny_setItem_pairs (strKind_is _ _ _ _) hd (fun h' hd' hs' => fin h' _ _ hd' hs' (by rw [hst']; exact q1) hst (by rw [hst']; exact q2)) (by rw [hkl]; show _ ≤ 2 ^ 24; omega)
    | false =>
      rw [hmem] at z
      cases z
      have hstn : stored kvs (toS m) v = kvs ++ [(toS m, v)] := by unfold stored; rw [hany, hmem]; rfl
      refine wpAny_setItem_pairs (strKind_is _ _ _ _) hd (fun h' hd' hs' => fin h' _ _ hd' hs' (by rw [hstn]; simp [hks]) (fun c hc => ?_) (by rw [hstn, List.map_append]; exact rdL_append hr₂ (by simp only [List.map_cons, List.map_nil, RdL]; exact ⟨v, [], rfl, r₁, rfl⟩))) (by rw [hkl]; show _ ≤ 2 ^ 24; omega)
      rcases List.mem_append.mp hc with hc | hc
      · exact hst c hc
      · simp at hc; subst hc; exact hstr
end Mine.MI
end
-- MiL
section
namespace Mine.MI
variable {C : Cx} {n : Nat} {T : St}

/-- a step that changes nothing but what WI says -/
structure Stp (C : Cx) (WI : Addr → Prop) (F : Fn) (s : Shared) (F' : Fn) (s' : Shared) : Prop where
  sub : Sub F F'
  hp : Hp C F' s'
  fok : ∀ a o, F' a = some o → F a = some o ∨ s.heap.get? a = none
  keep : ∀ b o, s.heap.get? b = some o → ¬ WI b → s'.heap.get? b = some o

/-- the iterator hands out these data one by one, for the target t -/
noncomputable def Nx (C : Cx) (A : Around) (t : Expr) (it : Value) (WI : Addr → Prop) : List V → Fn → Heap → Prop
  | [], F, h => ∀ (s : Shared) (F₁ : Fn) (Q : Option Value → Shared → Prop) (E : Value → Shared → Prop), Sub F F₁ → Hp C F₁ s → (∀ b, WI b → F₁ b = none) → (∀ b, WI b → s.heap.get? b = h.get? b) →
      (∀ s', Stp C WI F₁ s F₁ s' → Q none s') → wpAny C.M A (pyNext it) Q E s
  | d :: ds, F, h => ∀ (s : Shared) (F₁ : Fn) (Q : Option Value → Shared → Prop) (E : Value → Shared → Prop), Sub F F₁ → Hp C F₁ s → (∀ b, WI b → F₁ b = none) → (∀ b, WI b → s.heap.get? b = h.get? b) →
      (∀ v s', (∀ (Q' : Unit → Shared → Prop) (E' : Value → Shared → Prop), (∀ F₂ s'', Stp C WI F₁ s F₂ s'' → (∀ b, WI b → ∃ o, s''.heap.get? b = some o) → Rd C F₂ d v → Nx C A t it WI ds F₂ s''.heap → Q' () s'') →
        wpAny C.M A (letOwnedTupleGo t it v) Q' E' s') → Q (some v) s') → wpAny C.M A (pyNext it) Q E s
theorem Nx.same {A : Around} {t : Expr} {it : Value} {WI : Addr → Prop} {ds : List V} {F F' : Fn} {h h' : Heap} (x : Nx C A t it WI ds F h) (hs : Sub F F') (hw : ∀ b, WI b → h'.get? b = h.get? b) : Nx C A t it WI ds F' h' := by
  cases ds with
  | nil => exact fun s F₁ Q E q hh hf w => x s F₁ Q E (hs.trans q) hh hf fun b hi => (w b hi).trans (hw b hi)
  | cons d ds => exact fun s F₁ Q E q hh hf w => x s F₁ Q E (hs.trans q) hh hf fun b hi => (w b hi).trans (hw b hi)

/-- the iterator is its own iterator -/
noncomputable def Self (C : Cx) (A : Around) (it : Value) (WI : Addr → Prop) (F : Fn) (h : Heap) : Prop := ∀ (s : Shared) (F₁ : Fn) (Q : Value → Shared → Prop) (E : Value → Shared → Prop), Sub F F₁ → Hp C F₁ s → (∀ b, WI b → s.heap.get? b = h.get? b) → Q it s → wpAny C.M A (pyIter it) Q E s

structure Apart (env : Env) (F : Fn) (W : Addr → Prop) (WI : Addr → Prop) (s₀ s : Shared) : Prop where
  new : ∀ b, WI b → s₀.heap.get? b = none
  off : ∀ b, WI b → F b = none ∧ ¬ W b
  here : ∀ b, WI b → ∃ o, s.heap.get? b = some o
  cell : ∀ b, WI b → ∀ y c, env.cells.lookup y = some c → c ≠ b

theorem Inv.step {env : Env} {F F' : Fn} {W WI : Addr → Prop} {ρ : Rho} {s₀ s s' : Shared} (I : Inv C T env F W ρ s) (D : Apart env F W WI s₀ s) (e : Stp C WI F s F' s') : Inv C T env F' W ρ s' := by
  have nw : ∀ b, W b → ¬ WI b := fun b hw hi => (D.off b hi).2 hw
  have nc : ∀ y c, env.cells.lookup y = some c → ¬ WI c := fun y c hc hi => D.cell c hi y c hc rfl
  have var : ∀ y u, VarAt env s.heap y u → VarAt env s'.heap y u := fun y u v => by
    cases v with
    | loc m h1 h2 h3 =>
      obtain ⟨o, es, ep, q, r⟩ := h2
      exact .loc m h1 ⟨o, es, ep, e.keep _ _ q (nw _ I.wl), r⟩ h3
    | cell c h1 h2 h3 =>
      obtain ⟨o, q, r⟩ := h3
      exact .cell c h1 h2 ⟨o, e.keep _ _ q (nc _ _ h2), r⟩
  have ft : ∀ y a d, get y ρ = some (.own d) → VarAt env s.heap (T.nm y) (.ref a) → foot s'.heap a = foot s.heap a := fun y a d g va => by
    obtain ⟨_, a0, va0, ow, fo⟩ := I.vars y _ g
    cases va.unique va0
    obtain ⟨o, eo⟩ := Own.ex ow
    exact foot_keeps eo (e.keep _ _ eo (nw _ (fo a mem_foot).1))
  refine ⟨e.hp, I.nodup, I.kind, I.gl, I.bi, I.globs, fun a w => ?_, I.wl, fun y c hc => let ⟨o, ho⟩ := I.cal y c hc; ⟨o, e.keep _ _ ho (nc y c hc)⟩, ?_, fun x hx => ?_, fun x sl g => ?_, I.dist' fun x a ⟨d, g⟩ va => ⟨var _ _ va, ft x a d g va⟩, fun x a q => let ⟨p1, p2, p3⟩ := I.pin x a q; ⟨p1, p2, var _ _ p3⟩⟩
  · obtain ⟨h1, o₁, h2⟩ := I.off a w
    refine ⟨?_, o₁, e.keep _ _ h2 (nw a w)⟩
    cases q : F' a with
    | none => rfl
    | some o =>
      rcases e.fok a o q with z | z
      · rw [h1] at z; cases z
      · rw [h2] at z; cases z
  · obtain ⟨m, o, es, ep, q, r⟩ := I.ns; exact ⟨m, o, es, ep, e.keep _ _ q (nw _ I.wl), r⟩
  · obtain ⟨h1, h2⟩ := I.locs x hx
    refine ⟨h1, h2.imp id ?_⟩
    rintro ⟨k, c, c1, c2, c3, ⟨ov, o, q, r⟩, c5⟩
    exact ⟨k, c, c1, c2, c3, ⟨ov, o, e.keep _ _ q (nc _ _ c1), r⟩, c5⟩
  · obtain ⟨h1, h2⟩ := I.vars x sl g
    refine ⟨h1, ?_⟩
    cases sl with
    | val d => obtain ⟨v, k1, k2⟩ := h2; exact ⟨v, var _ _ k1, k2.mono e.sub⟩
    | own d =>
      obtain ⟨b, k1, k2, k3⟩ := h2
      exact ⟨b, var _ _ k1, Own.keeps k2 e.sub (fun c hc o q => e.keep _ _ q (nw _ (k3 c hc).1)), by rw [ft x b d g k1]; exact k3⟩
theorem Sp.step {F₀ F F' : Fn} {W₀ W WI : Addr → Prop} {s₀ s s' : Shared} (x : Sp F₀ W₀ s₀ F W s) (hn : ∀ b, WI b → s₀.heap.get? b = none) (e : Stp C WI F s F' s') : Sp F₀ W₀ s₀ F' W s' where
  sub := x.sub.trans e.sub
  wok := x.wok
  fok := fun a o h => by
    rcases e.fok a o h with h | h
    · exact x.fok a o h
    · exact .inr (x.gone h)
  keep := fun b o q hb => e.keep b o (x.keep b o q hb) fun hi => by rw [hn b hi] at q; cases q
theorem Apart.step {env : Env} {F F' : Fn} {W WI : Addr → Prop} {s₀ s s' : Shared} (D : Apart env F W WI s₀ s) (e : Stp C WI F s F' s') (hal : ∀ b, WI b → ∃ o, s'.heap.get? b = some o) : Apart env F' W WI s₀ s' where
  new := D.new
  off := fun b hi => by
    refine ⟨?_, (D.off b hi).2⟩
    cases q : F' b with
    | none => rfl
    | some o =>
      rcases e.fok b o q with z | z
      · rw [(D.off b hi).1] at z; cases z
      · obtain ⟨o', h⟩ := D.here b hi; rw [h] at z; cases z
  here := hal
  cell := D.cell
theorem Apart.sp {env : Env} {F F' : Fn} {W W' WI : Addr → Prop} {s₀ s s' : Shared} (D : Apart env F W WI s₀ s) (x : Sp F W s F' W' s') : Apart env F' W' WI s₀ s' where
  new := D.new
  off := fun b hi => by
    obtain ⟨o', h⟩ := D.here b hi
    refine ⟨?_, fun hw => ?_⟩
    · cases q : F' b with
      | none => rfl
      | some o =>
        rcases x.fok b o q with z | z | z
        · rw [(D.off b hi).1] at z; cases z
        · exact absurd z (D.off b hi).2
        · rw [h] at z; cases z
    · rcases x.wok b hw with z | z
      · exact (D.off b hi).2 z
      · rw [h] at z; cases z
  here := fun b hi => let ⟨o, h⟩ := D.here b hi; ⟨o, x.keep b o h (D.off b hi).2⟩
  cell := D.cell
theorem Sp.same {F F' : Fn} {W W' WI : Addr → Prop} {env : Env} {s₀ s s' : Shared} (x : Sp F W s F' W' s') (D : Apart env F W WI s₀ s) {b : Addr} (hi : WI b) : s'.heap.get? b = s.heap.get? b := by
  obtain ⟨o, h⟩ := D.here b hi
  rw [h]; exact x.keep b o h (D.off b hi).2

/-- the thing that a loop goes over -/
noncomputable def SemI (C : Cx) (n : Nat) (T : St) (t e : Expr) (f : DI) : Prop := ∀ (A : Around) (env : Env) (F : Fn) (W : Addr → Prop) (ρ : Rho) (s : Shared) (ds : List V),
  Room n A → Inv C T env F W ρ s → f ρ = some ds → wpAny C.M A (eval e env) (fun x s₁ => wpAny C.M A (pyIter x) (fun it s₂ => ∃ F' WI, Ev F s F' s₂ ∧ Hp C F' s₂ ∧ Nx C A t it WI ds F' s₂.heap ∧ Self C A it WI F' s₂.heap ∧
    ∀ b, WI b → s.heap.get? b = none ∧ F' b = none ∧ ∃ o, s₂.heap.get? b = some o) (fun _ _ => False) s₁) (fun _ _ => False) s
theorem apart_new {env : Env} {F F' : Fn} {W WI : Addr → Prop} {ρ : Rho} {s s' : Shared} (I : Inv C T env F W ρ s) (h : ∀ b, WI b → s.heap.get? b = none ∧ F' b = none ∧ ∃ o, s'.heap.get? b = some o) : Apart env F' W WI s s' where
  new := fun b hi => (h b hi).1
  off := fun b hi => ⟨(h b hi).2.1, fun hw => by obtain ⟨o, q⟩ := (I.off b hw).2; rw [(h b hi).1] at q; cases q⟩
  here := fun b hi => (h b hi).2.2
  cell := fun b hi y c hc e => by obtain ⟨o, q⟩ := I.cal y c hc; rw [e, (h b hi).1] at q; cases q

theorem semS_for {t it : Expr} {body : List Stmt} {p : Pos} {xs : List Nat} {fi : DI} {fb : DS} (ht : TgtOk T t xs) (hi : SemI C n T t it fi) (hb : SemSs C n T body fb) (hf : ∀ env x, foldedSetIterable it env x = pure x) :
    SemS C n T (.For t it body [] p) (forS xs fi fb) := fun A env F W ρ s ρ' fl R I z => by
  obtain ⟨ds, e1, z⟩ := ob_some z
  refine wpAny_For (wpAny_mono (hi A env F W ρ s ds R I e1) (fun x s₁ q => wpAny_mono q (fun i s₂ q => ?_) fun _ _ z => z) fun _ _ z => z) (hf env)
  obtain ⟨F₂, WI, v₂, h₂, nx, _, hw⟩ := q
  refine codeAny_forLoop_any (fun k s' => ∃ ds F' W' ρ₁, ds.length = k ∧ Nx C A t i WI ds F' s'.heap ∧ Inv C T env F' W' ρ₁ s' ∧ Sp F W s F' W' s' ∧ Apart env F' W' WI s s' ∧ forL xs fb ds ρ₁ = some (ρ', fl)) ?_ ds.length
    ⟨ds, F₂, W, ρ, rfl, nx, I.ev v₂ h₂, v₂.of_ev, apart_new I hw, z⟩
  rintro k s' ⟨ds, F', W', ρ₁, rfl, nx, I₁, x₁, D, e⟩
  cases ds with
  | nil =>
    cases e
    refine nx s' F' _ _ Sub.refl I₁.hp (fun b hi => (D.off b hi).1) (fun _ _ => rfl) fun s'' st => ?_
    exact wpAny_execs_nil ⟨F', W', x₁.step D.new st, I₁.step D st, trivial⟩
  | cons d ds =>
    obtain ⟨ρ₂, e2, e⟩ := ob_some e
    refine nx s' F' _ _ Sub.refl I₁.hp (fun b hi => (D.off b hi).1) (fun _ _ => rfl) fun v s₃' go => go _ _ fun F₃ s₃ st al r nx' => ?_
    have I₃ := I₁.step D st
    have D₃ := D.step st al
    have x₃ := x₁.step D.new st
    refine wp_target R I₃ ht r e2 fun s₄ I₄ x₄ => ?_
    have D₄ := D₃.sp x₄
    cases hbb : fb ρ₂ with
    | none => rw [hbb] at e; cases e
    | some y =>
      obtain ⟨ρ₅, f5⟩ := y
      rw [hbb] at e
      refine wpAny_mono (hb A env F₃ W' ρ₂ s₄ ρ₅ f5 R I₄ hbb) (fun fw s₅ q => ?_) fun _ _ z => z.elim
      obtain ⟨F₅, W₅, x₅, I₅, ok⟩ := q
      have x05 := (x₃.trans x₄).trans x₅
      cases f5 with
      | next =>
        cases fw <;> first | exact ok.elim | skip
        have nx5 := nx'.same (x₄.sub.trans x₅.sub) (h' := s₅.heap) fun b hi => (x₅.same D₄ hi).trans (x₄.same D₃ hi)
        exact ⟨ds.length, by simp, ds, F₅, W₅, ρ₅, rfl, nx5, I₅, x05, D₄.sp x₅, e⟩
      | brk =>
        cases fw <;> first | exact ok.elim | skip
        cases e
        exact ⟨F₅, W₅, x05, I₅, trivial⟩
      | ret dd =>
        cases fw <;> first | exact ok.elim | skip
        cases e
        exact ⟨F₅, W₅, x05, I₅, ok⟩

theorem semS_while {t : Expr} {body : List Stmt} {p : Pos} {ft : DB} {fb : DS} {k : Nat} (ht : SemB C n T t ft) (hb : SemSs C n T body fb) : SemS C n T (.While t body [] p) (whileN ft fb k) := fun A env F W ρ s ρ' fl R I z => by
  refine wpAny_While (codeAny_whileLoop (fun k s' => ∃ F' W' ρ₁, Inv C T env F' W' ρ₁ s' ∧ Sp F W s F' W' s' ∧ whileN ft fb k ρ₁ = some (ρ', fl)) ?_ k ⟨F, W, ρ, I, Sp.refl, z⟩)
  rintro k s' ⟨F', W', ρ₁, I₁, x₁, e⟩
  cases k with
  | zero => cases e
  | succ k =>
    unfold whileN at e
    cases hc : ft ρ₁ with
    | none => rw [hc] at e; cases e
    | some b =>
      rw [hc] at e
      refine wpAny_mono (ht A env F' W' ρ₁ s' b R I₁ hc) (fun c s₂ q => ?_) fun _ _ z => z.elim
      obtain ⟨rfl, F₂, v₂, h₂⟩ := q
      have I₂ := I₁.ev v₂ h₂
      have x₂ := x₁.trans v₂.of_ev
      cases c with
      | false =>
        cases e
        simp only [Bool.false_eq_true, if_false]
        exact wpAny_execs_nil ⟨F₂, W', x₂, I₂, trivial⟩
      | true =>
        simp only [if_true]
        cases hbb : fb ρ₁ with
        | none => simp only [hbb] at e; cases e
        | some y =>
          obtain ⟨ρ₅, f5⟩ := y
          simp only [hbb] at e
          refine wpAny_mono (hb A env F₂ W' ρ₁ s₂ ρ₅ f5 R I₂ hbb) (fun fw s₅ q => ?_) fun _ _ z => z.elim
          obtain ⟨F₅, W₅, x₅, I₅, ok⟩ := q
          cases f5 with
          | next =>
            cases fw <;> first | exact ok.elim | skip
            exact ⟨k, by omega, F₅, W₅, ρ₅, I₅, x₂.trans x₅, e⟩
          | brk =>
            cases fw <;> first | exact ok.elim | skip
            cases e
            exact ⟨F₅, W₅, x₂.trans x₅, I₅, trivial⟩
          | ret dd =>
            cases fw <;> first | exact ok.elim | skip
            cases e
            exact ⟨F₅, W₅, x₂.trans x₅, I₅, ok⟩
end Mine.MI
end
-- MiJ
section
namespace Mine.MI
variable {C : Cx} {n : Nat} {T : St}

theorem letGo_plain {A : Around} {E : Value → Shared → Prop} {target : Expr} {I : Addr} {o : Obj} {n : String} {v : Value} {Q' : Unit → Shared → Prop} {s' : Shared} (ho : s'.heap.get? I = some o) (hc : o.cls = .type n)
    (hn : (["enumerate", "zip", "dict_itemiterator", "dict_reverseitemiterator", "odict_iterator", "itertools.zip_longest", "itertools.pairwise"].contains n) = false) (h : Q' () s') : wpAny C.M A (letOwnedTupleGo target (.ref I) v) Q' E s' := by
  unfold letOwnedTupleGo
  cases target <;> first
    | exact wpAny_pure h
    | (cases v <;> first
        | exact wpAny_pure h
        | (refine wpAny_bind (wpAny_load ho ?_)
           rw [hc]
           cases o.data <;> first
             | exact wpAny_pure h
             | (dsimp only
                rw [if_neg (fun q => by rw [Bool.and_eq_true] at q; rw [hn] at q; exact absurd q.1 (by decide))]
                exact wpAny_pure h)))
theorem walk_frame {A : Around} {I : Addr} {fp wr : List Addr} {k : Nat} {P : Nat → Value → Prop} {St : Nat → Heap → Prop} (W : Walks pg C.w A I fp wr k P St) {i : Nat} {F F₁ : Fn} {h : Heap} {s : Shared} (st : St i h) (hf : ∀ b ∈ fp, b ∉ wr → ∃ o, F b = some o ∧ h.get? b = some o)
    (hs : Sub F F₁) (hh : Hp C F₁ s) (hw : ∀ b ∈ wr, s.heap.get? b = h.get? b) : St i s.heap := by
  refine W.frame i h _ st fun b hb o e => ?_
  by_cases q : b ∈ wr
  · rw [hw b q]; exact e
  · obtain ⟨o', e1, e2⟩ := hf b hb q
    rw [e2] at e; cases e
    exact hh.inn _ _ (hs _ _ e1)
/-- a walk of the library, as data handed out one by one -/
theorem nx_walk {t : Expr} {A : Around} {I : Addr} {fp wr : List Addr} {k : Nat} {P : Nat → Value → Prop} {St : Nat → Heap → Prop} (W : Walks pg C.w A I fp wr k P St) (hal : ∀ i h, St i h → ∀ b ∈ wr, ∃ o, h.get? b = some o)
    (hgo : ∀ i s v Q' E', St i s.heap → Q' () s → wpAny C.M A (letOwnedTupleGo t (.ref I) v) Q' E' s) :
    ∀ (ds : List V) (i : Nat) (F : Fn) (h : Heap), i + ds.length = k → St i h → (∀ b ∈ fp, b ∉ wr → ∃ o, F b = some o ∧ h.get? b = some o) → (∀ j d v, ds[j]? = some d → P (i + j) v → Rd C F d v) → Nx C A t (.ref I) (· ∈ wr) ds F h := by
  have stp : ∀ {F₁ : Fn} {s : Shared} {h' : Heap} {tk : Nat}, Hp C F₁ s → (∀ b ∈ wr, F₁ b = none) → (∀ b o, b ∉ wr → s.heap.get? b = some o → h'.get? b = some o) → Stp C (· ∈ wr) F₁ s F₁ { s with heap := h', toks := tk } := by
    intro F₁ s h' tk hh hf hk
    refine ⟨Sub.refl, ⟨fun a o e => hk a o (fun q => ?_) (hh.inn _ _ e), hh.base, hh.os, hh.gens⟩, fun _ _ e => .inl e, fun b o e q => hk b o q e⟩
    rw [hf a q] at e; cases e
  intro ds
  induction ds with
  | nil =>
    intro i F h hl st hfp hP s F₁ Q E hs hh hf hw hQ
    have hl : i = k := by simpa using hl
    subst hl
    exact W.done s Q E (walk_frame W st hfp hs hh hw) fun h' tk hk => hQ _ (stp hh hf hk)
  | cons d ds ih =>
    intro i F h hl st hfp hP s F₁ Q E hs hh hf hw hQ
    have hl : i + (ds.length + 1) = k := by simpa using hl
    refine W.item i s Q E (by omega) (walk_frame W st hfp hs hh hw) fun v h' tk hv st' hk => ?_
    refine hQ v _ fun Q' E' k' => hgo _ _ v Q' E' st' (k' F₁ _ (stp hh hf hk) (fun b hb => hal _ _ st' b hb) ((hP 0 d v (by simp) hv).mono hs) (ih (i + 1) F₁ h' (by omega) st' (fun b hb q => ?_) fun j d' v' e hv' => ?_))
    · obtain ⟨o, e1, e2⟩ := hfp b hb q
      exact ⟨o, hs _ _ e1, hk b o q (hh.inn _ _ (hs _ _ e1))⟩
    · exact (hP (j + 1) d' v' (by simpa using e) (by rw [show i + (j + 1) = i + 1 + j by omega]; exact hv')).mono hs

/-- the part of SemI behind the value -/
noncomputable abbrev ItOk (C : Cx) (A : Around) (t : Expr) (F : Fn) (s : Shared) (ds : List V) (it : Value) (s₂ : Shared) : Prop := ∃ F' WI, Ev F s F' s₂ ∧ Hp C F' s₂ ∧ Nx C A t it WI ds F' s₂.heap ∧ Self C A it WI F' s₂.heap ∧ ∀ b, WI b → s.heap.get? b = none ∧ F' b = none ∧ ∃ o, s₂.heap.get? b = some o
theorem it_push {t : Expr} {n : String} {A : Around} {F : Fn} {s : Shared} {o : Obj} {fp : List Addr} {k : Nat} {P : Nat → Value → Prop} {St : Nat → Heap → Prop} {ds : List V} (H : Hp C F s) (hof : o.isFreed = false)
    (hn : (["enumerate", "zip", "dict_itemiterator", "dict_reverseitemiterator", "odict_iterator", "itertools.zip_longest", "itertools.pairwise"].contains n) = false) (hty : ∀ i h, St i h → ∃ o, h.get? s.heap.objs.size = some o ∧ o.cls = .type n)
    (W : Walks pg C.w A s.heap.objs.size fp [s.heap.objs.size] k P St) (hl : ds.length = k) (st : St 0 (s.heap.push o)) (hfp : ∀ b ∈ fp, b ≠ s.heap.objs.size → ∃ o, F b = some o)
    (hP : ∀ j d v, ds[j]? = some d → P j v → Rd C F d v) : ItOk C A t F s ds (.ref s.heap.objs.size) { s with heap := s.heap.push o } := by
  have G := grown (s' := { s with heap := s.heap.push o }) H (fun _ _ e => Heap.get?_push_of_some _ e) rfl H.gens
  have fo : ∀ b ∈ fp, b ∉ [s.heap.objs.size] → ∃ o', F b = some o' ∧ (s.heap.push o).get? b = some o' := fun b hb q => by
    obtain ⟨o', e⟩ := hfp b hb (by simpa using q)
    exact ⟨o', e, G.2.inn _ _ e⟩
  refine ⟨F, (· ∈ [s.heap.objs.size]), G.1, G.2, nx_walk W (fun i h st b hb => ?_) (fun i s v Q' E' st q => let ⟨o, e1, e2⟩ := hty _ _ st; letGo_plain e1 e2 hn q) ds 0 F _ (by omega) st fo fun j d v e p => hP j d v e (by simpa using p),
    fun s' F₁ Q E hs hh hw hq => W.self 0 s' Q E (walk_frame W st fo hs hh hw) hq, fun b hb => ?_⟩
  · have := List.mem_singleton.mp hb; subst this; obtain ⟨o, e, _⟩ := hty i h st; exact ⟨o, e⟩
  · have := List.mem_singleton.mp hb; subst this
    exact ⟨get?_size _, H.none_of (get?_size _), _, Heap.get?_push_size _ hof⟩
theorem it_list {t : Expr} {A : Around} {F : Fn} {s : Shared} {l : List V} {v : Value} (hh : A.handled = none) (H : Hp C F s) (r : Rd C F (.lst l) v) : wpAny C.M A (pyIter v) (ItOk C A t F s l) (fun _ _ => False) s := by
  simp only [Rd] at r
  obtain ⟨a, o, vs, m, rfl, h1, h2, h3, h4⟩ := r
  have hL : s.heap.IsList a vs := ⟨o, H.inn _ _ h1, h2, m, h3⟩
  have hne : a ≠ s.heap.objs.size := Nat.ne_of_lt (Heap.lt_size (H.inn _ _ h1))
  refine wpAny_pyIter_list hL (it_push H rfl (n := "list_iterator") (by decide) (fun i h st => let ⟨o, e, c, _⟩ := st.1; ⟨o, e, c⟩) (Walks.list hh _ a hne vs) (by simpa using (length_of_rdL h4).symm) ⟨⟨_, Heap.get?_push_size _ rfl, rfl, rfl⟩, ?_⟩ (fun b hb q => ?_) fun j d v e p => ?_)
  · exact ⟨o, Heap.get?_push_of_some _ (H.inn _ _ h1), h2, m, h3⟩
  · simp only [List.mem_cons, List.not_mem_nil, or_false] at hb
    rcases hb with rfl | rfl
    · exact absurd rfl q
    · exact ⟨o, h1⟩
  · obtain ⟨v', g1, g2⟩ := rdL_get h4 e
    have p : vs[j]? = some v := p
    rw [← Array.getElem?_toList, g1] at p
    cases p
    exact g2
theorem it_str {t : Expr} {A : Around} {F : Fn} {s : Shared} {x : Str} {tk : Tok} {ds : List V} (hh : A.handled = none) (H : Hp C F s) (hl : ds.length = x.cps.size) (hP : ∀ (j : Nat) (d : V) (c : Nat) (u : Tok), ds[j]? = some d → x.cps[j]? = some c → Rd C F d (.str ⟨#[c]⟩ u)) :
    wpAny C.M A (pyIter (.str x tk)) (ItOk C A t F s ds) (fun _ _ => False) s := by
  cases ha : x.cps.all (· < 128)
  · refine wpAny_pyIter_wide ha (it_push H rfl (n := "str_iterator") (by decide) (fun i h st => let ⟨o, e, c, _⟩ := st; ⟨o, e, c⟩) (Walks.strWide hh _ x tk) hl ⟨_, Heap.get?_push_size _ rfl, rfl, rfl⟩ (fun b hb q => absurd (List.mem_singleton.mp hb) q) fun j d v e p => ?_)
    obtain ⟨c, u, e1, rfl⟩ := p
    exact hP j d c u e e1
  · refine wpAny_pyIter_ascii ha (it_push H rfl (n := "str_ascii_iterator") (by decide) (fun i h st => let ⟨o, e, c, _⟩ := st; ⟨o, e, c⟩) (Walks.strAscii hh _ x tk) hl ⟨_, Heap.get?_push_size _ rfl, rfl, rfl⟩ (fun b hb q => absurd (List.mem_singleton.mp hb) q) fun j d v e p => ?_)
    obtain ⟨c, u, e1, rfl⟩ := p
    exact hP j d c u e e1
theorem strL_get : ∀ {l : List Nat} {j : Nat} {d : V}, (strL l)[j]? = some d → ∃ c, l[j]? = some c ∧ d = .str [c]
  | [], _, _, e => by simp [strL] at e
  | c :: r, 0, d, e => by simp [strL] at e; subst e; exact ⟨c, by simp, rfl⟩
  | c :: r, j + 1, d, e => by simp [strL] at e; simpa using strL_get e
theorem strL_length : ∀ l : List Nat, (strL l).length = l.length
  | [] => rfl
  | c :: r => by simp [strL, strL_length r]
theorem keysL_get : ∀ {l : List (List Nat)} {j : Nat} {d : V}, (keysL l)[j]? = some d → ∃ c, l[j]? = some c ∧ d = .str c
  | [], _, _, e => by simp [keysL] at e
  | c :: r, 0, d, e => by simp [keysL] at e; subst e; exact ⟨c, by simp, rfl⟩
  | c :: r, j + 1, d, e => by simp [keysL] at e; simpa using keysL_get e
theorem keysL_length : ∀ l : List (List Nat), (keysL l).length = l.length
  | [] => rfl
  | c :: r => by simp [keysL, keysL_length r]
/-- `at'` gives one sign each for the numbers below 10: so ssL hands them out -/
theorem ssL_get : ∀ {l : List Nat} {ds : List V}, ssL l = some ds → ds.length = l.length ∧ ∀ (j : Nat) (d : V), ds[j]? = some d → ∃ c, l[j]? = some c ∧ c < 10 ∧ d = .ss [c]
  | [], ds, e => by cases e; exact ⟨rfl, fun j d e => by simp at e⟩
  | c :: r, ds, e => by
    obtain ⟨hc, e⟩ := chk_some (b := Nat.blt c 10) e
    obtain ⟨t, e1, e⟩ := ob_some (o := ssL r) e
    cases e
    obtain ⟨h1, h2⟩ := ssL_get e1
    refine ⟨by simp [h1], fun j d e => ?_⟩
    cases j with
    | zero => simp at e; subst e; exact ⟨c, by simp, Nat.le_of_ble_eq_true hc, rfl⟩
    | succ j => simpa using h2 j d (by simpa using e)
theorem it_dict {t : Expr} {A : Around} {F : Fn} {s : Shared} {ks : List (List Nat)} {xs : List V} {v : Value} (hh : A.handled = none) (H : Hp C F s) (r : Rd C F (.dct ks xs) v) : wpAny C.M A (pyIter v) (ItOk C A t F s (keysL ks)) (fun _ _ => False) s := by
  simp only [Rd] at r
  obtain ⟨a, o, kvs, rfl, h1, h2, ⟨es, ep, h3⟩, h4, h5, h6⟩ := r
  have hD : s.heap.DictAt C.knd a kvs ep := ⟨o, es, H.inn _ _ h1, h3⟩
  have hne : a ≠ s.heap.objs.size := Nat.ne_of_lt (Heap.lt_size (H.inn _ _ h1))
  have hkl : kvs.length = ks.length := by have := congrArg List.length h4; simpa using this
  refine wpAny_pyIter_dict h2 hD (it_push H rfl (n := "dict_keyiterator") (by decide) (fun i h st => let ⟨o, e, c, _⟩ := st.1; ⟨o, e, c⟩) (Walks.dictKeys hh _ a hne kvs ep) (by rw [keysL_length, hkl]) ⟨⟨_, Heap.get?_push_size _ rfl, rfl, rfl⟩, hD.push _⟩ (fun b hb q => ?_) fun j d v e p => ?_)
  · simp only [List.mem_cons, List.not_mem_nil, or_false] at hb
    rcases hb with rfl | rfl
    · exact absurd rfl q
    · exact ⟨o, h1⟩
  · obtain ⟨k, x, e1, e2⟩ := p
    obtain ⟨c, e3, rfl⟩ := keysL_get e
    have e4 : (kvs.map (·.1))[j]? = some k := by simp [e1]
    rw [h4] at e4
    simp [e3] at e4
    have e2 : (PySem.strKind pg C.w).is k v = true := e2
    obtain ⟨t, rfl⟩ : ∃ t, v = .str k t := by
      cases v with
      | str y t =>
        have : y = k := by simpa [PySem.strKind, Value.isStrOf] using e2
        exact ⟨t, by rw [this]⟩
      | _ => exact absurd e2 (by simp [PySem.strKind, Value.isStrOf])
    simp only [Rd]
    exact ⟨h5 c (List.mem_of_getElem? e3), t, by rw [e4]⟩
theorem semI_of {t e : Expr} {f : D} (h1 : ∀ j, j < 10 → (C.P.at' j).length = 1) (h : SemE C n T e f) : SemI C n T t e (ofI f) := fun A env F W ρ s ds R I z => by
  obtain ⟨d, e1, z⟩ := ob_some z
  refine wpAny_mono (h A env F W ρ s d R I e1) (fun v s₁ q => ?_) fun _ _ z => z
  obtain ⟨F₁, v₁, h₁, r₁⟩ := q
  have key : wpAny C.M A (pyIter v) (ItOk C A t F₁ s₁ ds) (fun _ _ => False) s₁ := by
    unfold items at z
    split at z
    · rename_i l
      obtain ⟨_, z⟩ := chk_some z
      cases z
      exact it_list R.handled h₁ r₁
    · rename_i l
      obtain ⟨_, z⟩ := chk_some z
      cases z
      simp only [Rd] at r₁
      obtain ⟨hs, t, rfl⟩ := r₁
      refine it_str R.handled h₁ (by rw [strL_length]; rfl) fun j d c u e1 e2 => ?_
      obtain ⟨c', g1, rfl⟩ := strL_get e1
      have e2 : l.toArray[j]? = some c := e2
      simp [g1] at e2
      subst e2
      simp only [Rd]
      exact ⟨fun x hx => by simp at hx; subst hx; exact hs _ (List.mem_of_getElem? g1), u, rfl⟩
    · rename_i l
      obtain ⟨_, z⟩ := chk_some z
      obtain ⟨g1, g2⟩ := ssL_get z
      simp only [Rd] at r₁
      obtain ⟨t, rfl⟩ := r₁
      have small : ∀ c ∈ l, (C.P.at' c).length = 1 := fun c hc => by
        obtain ⟨j, hj⟩ := List.getElem?_of_mem hc
        have hj' : j < ds.length := by rw [g1]; exact (List.getElem?_eq_some_iff.mp hj).1
        obtain ⟨c', q1, q2, _⟩ := g2 j ds[j] (List.getElem?_eq_getElem hj')
        rw [hj] at q1; cases q1
        exact h1 c q2
      have one : ∀ (l : List Nat) (j c : Nat), (∀ c ∈ l, (C.P.at' c).length = 1) → l[j]? = some c → (l.flatMap C.P.at')[j]? = (C.P.at' c)[0]? := by
        intro l
        induction l with
        | nil => intro j c _ e; simp at e
        | cons a r ih =>
          intro j c hs e
          have ha : (C.P.at' a).length = 1 := hs a (by simp)
          rw [List.flatMap_cons]
          cases j with
          | zero => simp at e; subst e; rw [List.getElem?_append_left (by omega)]
          | succ j =>
            rw [List.getElem?_append_right (by omega), ha]
            exact ih j c (fun c hc => hs c (by simp [hc])) (by simpa using e)
      have len : ∀ (l : List Nat), (∀ c ∈ l, (C.P.at' c).length = 1) → (l.flatMap C.P.at').length = l.length := by
        intro l
        induction l with
        | nil => intro _; rfl
        | cons a r ih => intro hs; rw [List.flatMap_cons, List.length_append, hs a (by simp), ih fun c hc => hs c (by simp [hc])]; simp [Nat.add_comm]
      refine it_str R.handled h₁ ?_ fun j d c u e1 e2 => ?_
      · rw [g1, ← len l small]; simp [toS]
      · obtain ⟨c', q1, q2, rfl⟩ := g2 j d e1
        have e2 : (l.flatMap C.P.at').toArray[j]? = some c := e2
        rw [List.getElem?_toArray, one l j c' small q1] at e2
        have h3 := small c' (List.mem_of_getElem? q1)
        simp only [Rd, List.flatMap_cons, List.flatMap_nil, List.append_nil]
        refine ⟨u, ?_⟩
        have : C.P.at' c' = [c] := by
          match hq : C.P.at' c', h3 with
          | [y], _ => rw [hq] at e2; simp at e2; rw [e2]
        rw [this]; rfl
    · rename_i ks xs
      obtain ⟨_, z⟩ := chk_some z
      cases z
      exact it_dict R.handled h₁ r₁
    · cases z
  refine wpAny_mono key (fun it s₂ q => ?_) fun _ _ z => z
  obtain ⟨F₂, WI, v₂, h₂, nx, sf, hw⟩ := q
  refine ⟨F₂, WI, Sp.trans v₁ v₂, h₂, nx, sf, fun b hb => ?_⟩
  obtain ⟨q1, q2⟩ := hw b hb
  refine ⟨?_, q2⟩
  rcases v₁.gone q1 with z | z
  · exact z.elim
  · exact z
end Mine.MI
end
-- MiW
section
namespace Mine.MI
variable {C : Cx} {n : Nat} {T : St}

theorem rangeL_get : ∀ {m a j : Nat} {d : V}, (rangeL a m)[j]? = some d → d = .int (.ofNat (a + j))
  | 0, _, _, _, e => by simp [rangeL] at e
  | m + 1, a, 0, d, e => by simp [rangeL] at e; simpa using e.symm
  | m + 1, a, j + 1, d, e => by simp only [rangeL, List.getElem?_cons_succ] at e; rw [rangeL_get e]; congr 2; omega
theorem rangeL_length : ∀ m a, (rangeL a m).length = m
  | 0, _ => rfl
  | m + 1, a => by simp [rangeL, rangeL_length m]
theorem ItOk.back {A : Around} {t : Expr} {F F₁ : Fn} {s s₁ s₂ : Shared} {ds : List V} {it : Value} (v₁ : Ev F s F₁ s₁) (q : ItOk C A t F₁ s₁ ds it s₂) : ItOk C A t F s ds it s₂ := by
  obtain ⟨F₂, WI, v₂, h₂, nx, sf, hw⟩ := q
  refine ⟨F₂, WI, Sp.trans v₁ v₂, h₂, nx, sf, fun b hb => ?_⟩
  obtain ⟨q1, q2⟩ := hw b hb
  refine ⟨?_, q2⟩
  rcases v₁.gone q1 with z | z
  · exact z.elim
  · exact z
theorem it_range {t : Expr} {A : Around} {F : Fn} {s : Shared} {a b : Int} {t1 t2 t3 : Tok} {r : Addr} {ds : List V} {k : Nat} (hh : A.handled = none) (H : Hp C F s) (hr : IsRange s.heap r a b 1 t1 t2 t3)
    (h1 : -(2 ^ 62) ≤ a) (h2 : a < 2 ^ 62) (h3 : -(2 ^ 62) ≤ b) (h4 : b < 2 ^ 62) (hk : (k : Int) = if a < b then b - a else 0) (hl : ds.length = k)
    (hP : ∀ (j : Nat) (d : V) (t : Tok), ds[j]? = some d → Rd C F d (.int (a + j) t)) : wpAny C.M A (pyIter (.ref r)) (ItOk C A t F s ds) (fun _ _ => False) s := by
  refine wpAny_pyIter_range hr (small_one h1 h2 h3 h4) ?_
  rw [rangeSize_one, ← hk]
  refine it_push H rfl (n := "range_iterator") (by decide) (fun i h st => ⟨_, st, rfl⟩) (Walks.range hh _ a 1 k) hl ?_ (fun b hb q => absurd (List.mem_singleton.mp hb) q) fun j d v e p => ?_
  · have := Heap.get?_push_size s.heap (o := { cls := .type "range_iterator", data := .fields #[rawInt a, rawInt (k : Int), rawInt 1] }) rfl
    simpa using this
  · obtain ⟨t, rfl⟩ := p
    simpa using hP j d t e
theorem semI_range1 {t e : Expr} {q p : Pos} {f : D} (hx : ("range" : Str) ∈ T.globs) (hg : ∀ P, nsIn (K P) mainGlobals ("range" : Str) = some none) (h : SemE C n T e f) (hs : ∀ env, starEach [e] env = (false, eval e env) :: starEach [] env) :
    SemI C n T t (.Call (.Name "range" q) [e] [] p) (range1 f) := fun A env F W ρ s ds R I z => by
  obtain ⟨i, ei, z⟩ : ∃ i, f ρ = some (.int i) ∧ ∃ k : Nat, k ≤ 10000 ∧ (k : Int) = (if 0 < i then i - 0 else 0) ∧ -(10000 + 1) ≤ i ∧ i ≤ 10000 ∧ ds = rangeL 0 k := by
    unfold range1 at z
    split at z
    · rename_i m em
      obtain ⟨hk, z⟩ := chk_some z
      cases z
      have hk := Nat.le_of_ble_eq_true hk
      refine ⟨_, em, m, hk, ?_, ?_, ?_, rfl⟩ <;> simp only [Int.ofNat_eq_natCast]
      · split <;> omega
      · omega
      · omega
    · rename_i m em
      obtain ⟨hk, z⟩ := chk_some z
      cases z
      have hk := Nat.le_of_ble_eq_true hk
      refine ⟨_, em, 0, by omega, ?_, ?_, ?_, rfl⟩
      · split <;> omega
      · omega
      · omega
    · cases z
  obtain ⟨k, hk1, hk2, hi1, hi2, rfl⟩ := z
  refine Call_Name rfl (wp_builtin hg (v := .type "range") (by rfl) (by decide) (by decide) I hx ?_)
  refine callWith_type1 (args_cons (wpAny_mono (h A env F W ρ s _ R I ei) (fun v s₁ q => args_nil ?_) fun _ _ z => z) (hs env)) (hs env) (by rfl)
  obtain ⟨F₁, v₁, h₁, r₁⟩ := q
  simp only [Rd] at r₁
  obtain ⟨tk, rfl⟩ := r₁
  refine call_range_1 ?_
  have G := grown (s' := { s₁ with heap := s₁.heap.push { cls := .type "range", data := .fields #[.int 0 s₁.toks, .int i tk, .int 1 (s₁.toks + 1)] }, toks := s₁.toks + 1 + 1 }) h₁ (fun _ _ e => Heap.get?_push_of_some _ e) rfl h₁.gens
  refine wpAny_mono (it_range (t := t) (ds := rangeL 0 k) (k := k) R.handled G.2 (IsRange.new _ _ _ _ _ _ _) (by decide) (by decide) (by omega) (by omega) hk2 (rangeL_length _ _) fun j d t e => ?_) (fun it s₂ q => ?_) fun _ _ z => z
  · rw [rangeL_get e]; simp only [Rd]; exact ⟨t, by simp⟩
  · exact ItOk.back (Sp.trans v₁ G.1) q
theorem semI_range2 {t e1 e2 : Expr} {q p : Pos} {f g : D} (hW : C.P.W < 2 ^ 62) (hx : ("range" : Str) ∈ T.globs) (hg : ∀ P, nsIn (K P) mainGlobals ("range" : Str) = some none) (h1 : SemE C n T e1 f) (h2 : SemE C n T e2 g)
    (hs : ∀ env, starEach [e1, e2] env = (false, eval e1 env) :: starEach [e2] env) (hs2 : ∀ env, starEach [e2] env = (false, eval e2 env) :: starEach [] env) :
    SemI C n T t (.Call (.Name "range" q) [e1, e2] [] p) (range2 f g) := fun A env F W ρ s ds R I z => by
  obtain ⟨x, ex, z⟩ := ob_some z
  obtain ⟨y, ey, z⟩ := ob_some z
  refine Call_Name rfl (wp_builtin hg (v := .type "range") (by rfl) (by decide) (by decide) I hx ?_)
  refine callWith_type1 (args_cons (wpAny_mono (h1 A env F W ρ s _ R I ex) (fun v s₁ q => ?_) fun _ _ z => z) (hs env)) (hs env) (by rw [hs2 env]; rfl)
  obtain ⟨F₁, v₁, H₁, r₁⟩ := q
  refine args_cons (wpAny_mono (h2 A env F₁ W ρ s₁ _ R (I.ev v₁ H₁) ey) (fun u s₂ q => args_nil ?_) fun _ _ z => z) (hs2 env)
  obtain ⟨F₂, v₂, H₂, r₂⟩ := q
  replace r₁ := r₁.mono v₂.sub
  obtain ⟨a, b, ta, tb, rfl, rfl, ha1, ha2, hb1, hb2, k, hk, rfl, hP⟩ : ∃ (a b : Int) (ta tb : Tok), v = .int a ta ∧ u = .int b tb ∧ -(2 ^ 62) ≤ a ∧ a < 2 ^ 62 ∧ -(2 ^ 62) ≤ b ∧ b < 2 ^ 62 ∧ ∃ k : Nat, (k : Int) = (if a < b then b - a else 0) ∧ ds.length = k ∧
      ∀ (j : Nat) (d : V) (t : Tok), ds[j]? = some d → Rd C F₂ d (.int (a + j) t) := by
    split at z
    · rename_i a b zz
      obtain ⟨hk, z⟩ := chk_some z
      cases z
      simp only [Bool.and_eq_true] at hk
      have k1 := Nat.le_of_ble_eq_true hk.1
      have k2 := Nat.le_of_ble_eq_true hk.2
      simp only [Rd] at r₁ r₂
      obtain ⟨ta, rfl⟩ := r₁
      obtain ⟨tb, rfl⟩ := r₂
      have : lim = 1048576 := rfl
      refine ⟨_, _, ta, tb, rfl, rfl, ?_, ?_, ?_, ?_, b - a, ?_, rangeL_length _ _, fun j d t e => ?_⟩ <;> simp only [Int.ofNat_eq_natCast]
      · omega
      · omega
      · omega
      · omega
      · split <;> omega
      · rw [rangeL_get e]; simp only [Rd]; exact ⟨t, by simp⟩
    · rename_i b zz
      obtain ⟨hk, z⟩ := chk_some z
      cases z
      have k1 := Nat.le_of_ble_eq_true hk
      simp only [Rd] at r₁ r₂
      obtain ⟨hw, ta, rfl⟩ := r₁
      obtain ⟨tb, rfl⟩ := r₂
      refine ⟨_, _, ta, tb, rfl, rfl, ?_, ?_, ?_, ?_, 0, ?_, rfl, fun j d t e => by simp at e⟩ <;> simp only [Int.ofNat_eq_natCast]
      · omega
      · omega
      · omega
      · omega
      · split <;> omega
    · cases z
  refine call_range_2 ?_
  have G := grown (s' := { s₂ with heap := s₂.heap.push { cls := .type "range", data := .fields #[.int a ta, .int b tb, .int 1 s₂.toks] }, toks := s₂.toks + 1 }) H₂ (fun _ _ e => Heap.get?_push_of_some _ e) rfl H₂.gens
  refine wpAny_mono (it_range (t := t) (ds := ds) (k := ds.length) R.handled G.2 (IsRange.new _ _ _ _ _ _ _) ha1 ha2 hb1 hb2 hk rfl fun j d t e => (hP j d t e).mono G.1.sub) (fun it s₃ q => ?_) fun _ _ z => z
  exact ItOk.back (Sp.trans (Sp.trans v₁ v₂) G.1) q
end Mine.MI
end
-- MiK
section
namespace Mine.MI
variable {C : Cx} {n : Nat} {T : St}

/-- one turn of a comprehension's loop -/
noncomputable def turnF (t : Expr) (ifs : List Expr) (p : Pos) (it : Value) (env : Env) (B : Sem Fin → Sem Fin) (c : Code) : Sem Fin := do
  standAt p
  match ← pyNext it with
  | none => pure (.done .next)
  | some v =>
    letOwnedTupleGo t it v
    assign t env v
    let mut ok := true
    for c in ifs do
      if ok then ok ← isTrue c env (eval c env)
    if ok then B (again c) else again c
noncomputable def leaf (elt : Expr) (acc : Value) (env : Env) (k : Sem Fin) : Sem Fin := (do let _ ← PySem.call (.builtin "list.append") [acc, ← eval elt env]) >>= fun _ => k
noncomputable def inner (e it2 : Expr) (acc : Value) (env : Env) (k : Sem Fin) : Sem Fin := do
  let x ← eval it2 env
  standAt it2.pos
  let x ← foldedSetIterable it2 env x
  let y ← holding [x] (pyIter x)
  let _ ← runOwn (.compStart e 1 y acc env) env
  k
theorem turn_one (elt t iter : Expr) (ifs : List Expr) (scope : Scope) (pos : Pos) (it acc : Value) (env : Env) :
    compTurn (.ListComp elt [⟨t, iter, ifs, 0⟩] scope pos) 0 it acc env = turnF t ifs iter.pos it env (leaf elt acc env) (.compLoop (.ListComp elt [⟨t, iter, ifs, 0⟩] scope pos) 0 it acc env) := by rfl
theorem turn_in (elt t iter t2 it2 : Expr) (ifs ifs2 : List Expr) (scope : Scope) (pos : Pos) (it acc : Value) (env : Env) :
    compTurn (.ListComp elt [⟨t, iter, ifs, 0⟩, ⟨t2, it2, ifs2, 0⟩] scope pos) 1 it acc env = turnF t2 ifs2 it2.pos it env (leaf elt acc env) (.compLoop (.ListComp elt [⟨t, iter, ifs, 0⟩, ⟨t2, it2, ifs2, 0⟩] scope pos) 1 it acc env) := by rfl
theorem turn_out (elt t iter t2 it2 : Expr) (ifs ifs2 : List Expr) (scope : Scope) (pos : Pos) (it acc : Value) (env : Env) :
    compTurn (.ListComp elt [⟨t, iter, ifs, 0⟩, ⟨t2, it2, ifs2, 0⟩] scope pos) 0 it acc env = turnF t ifs iter.pos it env (inner (.ListComp elt [⟨t, iter, ifs, 0⟩, ⟨t2, it2, ifs2, 0⟩] scope pos) it2 acc env) (.compLoop (.ListComp elt [⟨t, iter, ifs, 0⟩, ⟨t2, it2, ifs2, 0⟩] scope pos) 0 it acc env) := by rfl

/-- the state of a comprehension under way: D the list, env.locals its variables -/
structure CSt (C : Cx) (T : St) (env : Env) (D : Addr) (F₀ : Fn) (s₀ : Shared) (ys : List V) (F : Fn) (ρ : Rho) (s : Shared) : Prop where
  inv : Inv C T env F (· = env.locals) ρ s
  ev : Ev F₀ s₀ F s
  acc : ∃ vs m, s.heap.get? D = some { cls := .type "list", data := .seq vs m } ∧ RdL C F ys vs.toList
  off : F D = none
  ne : D ≠ env.locals
  cell : ∀ y c, env.cells.lookup y = some c → c ≠ D
  newD : s₀.heap.get? D = none
  newC : s₀.heap.get? env.locals = none
noncomputable abbrev DC (D : Addr) (env : Env) : Addr → Prop := fun b => b = D ∨ b = env.locals
noncomputable def Ext (ρ ρ' : Rho) : Prop := ∀ x sl, get x ρ = some sl → get x ρ' = some sl

theorem Stp.then {D : Addr} {env : Env} {Y : Addr → Prop} {F F₁ F₂ : Fn} {s s₁ s₂ : Shared} (a : Stp C (DC D env) F s F₁ s₁) (b : Stp C Y F₁ s₁ F₂ s₂) (h : ∀ c, Y c → DC D env c ∨ s.heap.get? c = none) (hD : F₂ D = none) (hC : F₂ env.locals = none) : Stp C (DC D env) F s F₂ s₂ where
  sub := a.sub.trans b.sub
  hp := b.hp
  fok := fun c o e => by
    rcases b.fok c o e with q | q
    · exact a.fok c o q
    · cases e2 : s.heap.get? c with
      | none => exact .inr rfl
      | some o' =>
        by_cases hc : DC D env c
        · rcases hc with rfl | rfl
          · rw [hD] at e; cases e
          · rw [hC] at e; cases e
        · rw [a.keep c o' e2 hc] at q; cases q
  keep := fun c o e hx => b.keep c o (a.keep c o e hx) fun hy => by
    rcases h c hy with q | q
    · exact hx q
    · rw [e] at q; cases q
theorem Stp.of_ev {X : Addr → Prop} {F F' : Fn} {s s' : Shared} (v : Ev F s F' s') (h : Hp C F' s') : Stp C X F s F' s' :=
  ⟨v.sub, h, fun a o e => by rcases v.fok a o e with q | q | q; exact .inl q; exact q.elim; exact .inr q, fun b o e _ => v.keep b o e id⟩
theorem Stp.refl {X : Addr → Prop} {F : Fn} {s : Shared} (h : Hp C F s) : Stp C X F s F s := ⟨Sub.refl, h, fun _ _ e => .inl e, fun _ _ e _ => e⟩

section
variable {env : Env} {D : Addr} {F₀ F F' : Fn} {s₀ s s' : Shared} {ys : List V} {ρ ρ' : Rho}
theorem CSt.stp {WX : Addr → Prop} (c : CSt C T env D F₀ s₀ ys F ρ s) (a : Apart env F (· = env.locals) WX s₀ s) (hD : ¬ WX D) (e : Stp C WX F s F' s') : CSt C T env D F₀ s₀ ys F' ρ s' where
  inv := c.inv.step a e
  ev := Sp.step c.ev a.new e
  acc := let ⟨vs, m, h1, h2⟩ := c.acc; ⟨vs, m, e.keep _ _ h1 hD, RdL.mono e.sub h2⟩
  off := by
    cases q : F' D with
    | none => rfl
    | some o =>
      obtain ⟨vs, m, h1, h2⟩ := c.acc
      rcases e.fok D o q with z | z
      · rw [c.off] at z; cases z
      · rw [h1] at z; cases z
  ne := c.ne
  cell := c.cell
  newD := c.newD
  newC := c.newC
theorem CSt.aEv {WX : Addr → Prop} (c : CSt C T env D F₀ s₀ ys F ρ s) (h : ∀ b, ¬ WX b) : Apart env F (· = env.locals) WX s₀ s := ⟨fun b hb => absurd hb (h b), fun b hb => absurd hb (h b), fun b hb => absurd hb (h b), fun b hb => absurd hb (h b)⟩
theorem CSt.evd (c : CSt C T env D F₀ s₀ ys F ρ s) (v : Ev F s F' s') (h : Hp C F' s') : CSt C T env D F₀ s₀ ys F' ρ s' := c.stp (WX := no) (c.aEv fun _ => id) id (Stp.of_ev v h)
theorem CSt.congr (c : CSt C T env D F₀ s₀ ys F ρ' s) (h : Ext ρ ρ') : CSt C T env D F₀ s₀ ys F ρ s := { c with inv := c.inv.congr h }
theorem CSt.offC (c : CSt C T env D F₀ s₀ ys F ρ s) : F env.locals = none := (c.inv.off _ rfl).1
theorem Stp.of_sp {W : Addr → Prop} (x : Sp F W s F W s') (h : Hp C F s') : Stp C W F s F s' := ⟨Sub.refl, h, fun _ _ e => .inl e, x.keep⟩
theorem CSt.put (c : CSt C T env D F₀ s₀ ys F ρ s) (I : Inv C T env F (· = env.locals) ρ' s') (x : Sp F (· = env.locals) s F (· = env.locals) s') : CSt C T env D F₀ s₀ ys F ρ' s' where
  inv := I
  ev := Sp.step c.ev (WI := (· = env.locals)) (fun b hb => by subst hb; exact c.newC) (Stp.of_sp x I.hp)
  acc := let ⟨vs, m, h1, h2⟩ := c.acc; ⟨vs, m, x.keep _ _ h1 c.ne, h2⟩
  off := c.off
  ne := c.ne
  cell := c.cell
  newD := c.newD
  newC := c.newC
theorem CSt.aD (c : CSt C T env D F₀ s₀ ys F ρ s) : Apart env F (· = env.locals) (· = D) s₀ s where
  new := fun b hb => by subst hb; exact c.newD
  off := fun b hb => by subst hb; exact ⟨c.off, c.ne⟩
  here := fun b hb => by subst hb; obtain ⟨vs, m, h1, _⟩ := c.acc; exact ⟨_, h1⟩
  cell := fun b hb => by subst hb; exact c.cell
theorem Apart.stp' {W WI WX : Addr → Prop} (a : Apart env F W WI s₀ s) (e : Stp C WX F s F' s') (h : ∀ b, WI b → ¬ WX b) : Apart env F' W WI s₀ s' where
  new := a.new
  off := fun b hi => by
    refine ⟨?_, (a.off b hi).2⟩
    cases q : F' b with
    | none => rfl
    | some o =>
      rcases e.fok b o q with z | z
      · rw [(a.off b hi).1] at z; cases z
      · obtain ⟨o', h⟩ := a.here b hi; rw [h] at z; cases z
  here := fun b hi => let ⟨o, e1⟩ := a.here b hi; ⟨o, e.keep b o e1 (h b hi)⟩
  cell := a.cell
/-- a value is appended to the list -/
theorem CSt.push {A : Around} {d : V} {v : Value} {Q : Value → Shared → Prop} {E : Value → Shared → Prop} (c : CSt C T env D F₀ s₀ ys F ρ s) (r : Rd C F d v) (hl : ys.length ≤ 20000)
    (h : ∀ s', CSt C T env D F₀ s₀ (ys ++ [d]) F ρ s' → Stp C (· = D) F s F s' → Q .none s') : wpAny C.M A (PySem.call (.builtin "list.append") [.ref D, v]) Q E s := by
  obtain ⟨vs, m, h1, h2⟩ := c.acc
  have hz : vs.size = ys.length := by simpa using length_of_rdL h2
  refine append_at h1 (fun h' hs' ho' => ?_) (by rw [hz]; show _ ≤ 2 ^ 24; omega)
  have e : Stp C (· = D) F s F { s with heap := h' } := ⟨Sub.refl, ⟨fun a o q => hs'.extBut a o (fun w => by rw [w, c.off] at q; cases q) (c.inv.hp.inn _ _ q), c.inv.hp.base, c.inv.hp.os, c.inv.hp.gens⟩, fun _ _ q => .inl q, fun b o q hb => hs'.extBut b o hb q⟩
  refine h _ ⟨c.inv.step c.aD e, Sp.step c.ev c.aD.new e, ⟨vs.push v, m + 1, ho', ?_⟩, c.off, c.ne, c.cell, c.newD, c.newC⟩ e
  rw [Array.toList_push]
  exact rdL_append h2 (by simp only [RdL]; exact ⟨v, [], rfl, r, rfl⟩)
end
/-- the tests of a comprehension -/
noncomputable def SemT (C : Cx) (n : Nat) (T : St) (ifs : List Expr) (fs : List DB) : Prop := ∀ (A : Around) (env : Env) (F : Fn) (W : Addr → Prop) (ρ : Rho) (s : Shared) (b : Bool),
  Room n A → Inv C T env F W ρ s → allB fs ρ = some b → wpAny C.M A (forIn ifs true fun c r => if r = true then do let ok ← isTrue c env (eval c env); pure (ForInStep.yield ok) else pure (ForInStep.yield r))
    (fun ok s' => ok = b ∧ ∃ F', Ev F s F' s' ∧ Hp C F' s') (fun _ _ => False) s
theorem semT_nil : SemT C n T [] [] := fun A env F W ρ s b R I e => by
  cases e
  exact wpAny_tests_nil ⟨rfl, F, Sp.refl, I.hp⟩
theorem semT_one {c : Expr} {f : DB} (h : SemB C n T c f) : SemT C n T [c] [f] := fun A env F W ρ s b R I e => by
  have e' : f ρ = some b := by
    unfold allB at e
    split at e
    · rename_i q; cases e; exact q
    · rename_i q; cases e; exact q
    · cases e
  exact wpAny_tests_one (wpAny_mono (h A env F W ρ s b R I e') (fun c s₁ q => q) fun _ _ z => z)
noncomputable def SemY (C : Cx) (A : Around) (T : St) (env : Env) (D : Addr) (F₀ : Fn) (s₀ : Shared) (B : Sem Fin → Sem Fin) (k : Rho → Option (List V)) (ρ : Rho) : Prop := ∀ (F : Fn) (s : Shared) (ys vs : List V) (kk : Sem Fin) (Q : Fin → Shared → Prop) (E : Value → Shared → Prop),
  CSt C T env D F₀ s₀ ys F ρ s → ys.length + vs.length ≤ 20000 → k ρ = some vs → (∀ F' ρ' s', CSt C T env D F₀ s₀ (ys ++ vs) F' ρ' s' → Ext ρ ρ' → Stp C (DC D env) F s F' s' → wpAny C.M A kk Q E s') → wpAny C.M A (B kk) Q E s
theorem semY_one {A : Around} {env : Env} {ρ : Rho} {D : Addr} {F₀ : Fn} {s₀ : Shared} {elt : Expr} {f : Mine.MI.D} (R : Room n A) (h : SemE C n T elt f) : SemY C A T env D F₀ s₀ (leaf elt (.ref D) env) (one f) ρ := fun F s ys vs kk Q E c hl e hk => by
  obtain ⟨d, e1, e⟩ := ob_some e
  cases e
  have hl : ys.length + 1 ≤ 20000 := hl
  refine wpAny_bind (wpAny_bind (wpAny_mono (h A env F _ ρ s d R c.inv e1) (fun v s₁ q => ?_) fun _ _ z => z.elim))
  obtain ⟨F₁, v₁, h₁, r₁⟩ := q
  have c₁ := c.evd v₁ h₁
  refine wpAny_bind (c₁.push r₁ (by omega) fun s₂ c₂ e₂ => wpAny_pure (hk F₁ ρ s₂ c₂ (fun _ _ q => q) ?_))
  exact Stp.then (Stp.of_ev v₁ h₁) e₂ (fun b hb => .inl (.inl hb)) c₂.off c₂.offC

theorem ext_puts : ∀ {xs : List Nat} {ds : List V} {ρ ρ' : Rho}, puts xs ds ρ = some ρ' → ∀ x sl, x ∉ xs → get x ρ = some sl → get x ρ' = some sl
  | [], [], _, _, e, x, sl, _, g => by cases e; exact g
  | [], _ :: _, _, _, e, _, _, _, _ => by cases e
  | _ :: _, [], _, _, e, _, _, _, _ => by cases e
  | y :: xs, d :: ds, ρ, ρ', e, x, sl, hx, g => by
    have hne : x ≠ y := fun q => hx (by simp [q])
    exact ext_puts (xs := xs) (ds := ds) (show puts xs ds (put y (.val d) ρ) = some ρ' from e) x sl (fun q => hx (by simp [q])) (by rw [get_put, if_neg hne]; exact g)
theorem ext_putT {xs : List Nat} {d : V} {ρ ρ' : Rho} (e : putT xs d ρ = some ρ') (h : ∀ x ∈ xs, get x ρ = none) : Ext ρ ρ' := fun x sl g => by
  have hx : x ∉ xs := fun q => by rw [h x q] at g; cases g
  unfold putT at e
  split at e
  · cases e
    rw [get_put, if_neg (fun q => hx (by simp [q]))]; exact g
  · split at e
    · exact ext_puts e x sl hx g
    · cases e

theorem comp_loop {A : Around} {env : Env} {D : Addr} {F₀ FB : Fn} {s₀ sB : Shared} {elt t : Expr} {gens : List Comprehension} {scope : Scope} {pos p : Pos} {dep : Nat} {ifs : List Expr} {it : Value} {B : Sem Fin → Sem Fin} {xs : List Nat} {fs : List DB} {k : Rho → Option (List V)}
    {WI : Addr → Prop} {ρ₀ : Rho} {R : Result → Shared → Prop} (RA : Room n A) (hturn : compTurn (.ListComp elt gens scope pos) dep it (.ref D) env = turnF t ifs p it env B (.compLoop (.ListComp elt gens scope pos) dep it (.ref D) env))
    (ht : TgtOk T t xs) (hifs : SemT C n T ifs fs) (hB : ∀ d ρ, putT xs d ρ₀ = some ρ → SemY C A T env D F₀ s₀ B k ρ) (hx : ∀ x ∈ xs, get x ρ₀ = none) (hWB : ∀ b, WI b → sB.heap.get? b = none) (hWD : ¬ WI D)
    {ds : List V} {F : Fn} {ρ : Rho} {s : Shared} {ys vs : List V} (c : CSt C T env D F₀ s₀ ys F ρ s) (hρ : Ext ρ₀ ρ) (nx : Nx C A t it WI ds F s.heap) (ap : Apart env F (· = env.locals) WI s₀ s) (st : Stp C (DC D env) FB sB F s) (e : compL xs fs k ρ₀ ds = some vs)
    (hl : ys.length + vs.length ≤ 20000) (hR : ∀ F' ρ' s', CSt C T env D F₀ s₀ (ys ++ vs) F' ρ' s' → Ext ρ₀ ρ' → Stp C (DC D env) FB sB F' s' → R (.ok .next) s') :
    codeAny C.M A (.compLoop (.ListComp elt gens scope pos) dep it (.ref D) env) R s := by
  refine codeAny_loop rfl (fun m s' => ∃ ds F ρ ys' vs', ds.length = m ∧ CSt C T env D F₀ s₀ ys' F ρ s' ∧ Ext ρ₀ ρ ∧ Nx C A t it WI ds F s'.heap ∧ Apart env F (· = env.locals) WI s₀ s' ∧ Stp C (DC D env) FB sB F s' ∧ compL xs fs k ρ₀ ds = some vs' ∧ ys' ++ vs' = ys ++ vs)
    (fun m s' h => ?_) ds.length ⟨ds, F, ρ, ys, vs, rfl, c, hρ, nx, ap, st, e, rfl⟩
  clear c hρ nx ap st e
  obtain ⟨ds, F, ρ, ys', vs', rfl, c, hρ, nx, ap, st, e, hys⟩ := h
  show wpAny C.M A ((compTurn (.ListComp elt gens scope pos) dep it (.ref D) env).onRaise (fun x => do noteFrame x env; theTreesLotGoes x)) _ _ s'
  refine wpAny_noted ?_
  rw [hturn]
  unfold turnF
  refine wpAny_bind (wpAny_standAt (wpAny_bind ?_))
  cases ds with
  | nil =>
    cases e
    simp only [List.append_nil] at hys
    subst hys
    refine nx s' F _ _ Sub.refl c.inv.hp (fun b hi => (ap.off b hi).1) (fun _ _ => rfl) fun s'' e₁ => ?_
    have c₁ := c.stp ap hWD e₁
    exact wpAny_pure (hR F ρ s'' c₁ hρ (st.then e₁ (fun b hb => .inr (hWB b hb)) c₁.off c₁.offC))
  | cons d ds =>
    obtain ⟨ρ₂, e2, e⟩ := ob_some e
    refine nx s' F _ _ Sub.refl c.inv.hp (fun b hi => (ap.off b hi).1) (fun _ _ => rfl) fun v s₃' go => wpAny_bind (go _ _ fun F₃ s₃ e₁ al r nx' => ?_)
    have c₃ := (c.stp ap hWD e₁).congr hρ
    have st₃ := st.then e₁ (fun b hb => .inr (hWB b hb)) c₃.off c₃.offC
    have ap₃ := ap.step e₁ al
    refine wpAny_bind (wp_target RA c₃.inv ht r e2 fun s₄ I₄ x₄ => ?_)
    have c₄ := c₃.put I₄ x₄
    have ap₄ := ap₃.sp x₄
    have st₄ := st₃.then (Stp.of_sp x₄ I₄.hp) (fun b hb => .inl (.inr hb)) c₄.off c₄.offC
    have hw₄ : ∀ b, WI b → s₄.heap.get? b = s₃.heap.get? b := fun b hi => x₄.same ap₃ hi
    have hρ₂ := ext_putT e2 hx
    cases hb : allB fs ρ₂ with
    | none => rw [hb] at e; cases e
    | some b =>
      rw [hb] at e
      refine wpAny_bind (wpAny_mono (hifs A env F₃ _ ρ₂ s₄ b RA I₄ hb) (fun ok s₅ q => ?_) fun _ _ z => z.elim)
      obtain ⟨rfl, F₅, v₅, h₅⟩ := q
      have c₅ := c₄.evd v₅ h₅
      have ap₅ := ap₄.stp' (WX := no) (Stp.of_ev v₅ h₅) fun _ _ => id
      have st₅ := st₄.then (Y := no) (Stp.of_ev v₅ h₅) (fun _ q => q.elim) c₅.off c₅.offC
      have hw₅ : ∀ b, WI b → s₅.heap.get? b = s₃.heap.get? b := fun b hi => by
        obtain ⟨o, ho⟩ := ap₄.here b hi
        rw [← hw₄ b hi, ho]; exact v₅.keep' _ _ ho
      cases ok with
      | false =>
        have nx5 := nx'.same v₅.sub (h' := s₅.heap) hw₅
        exact wpAny_pure ⟨rfl, ds.length, by simp, ds, F₅, ρ₂, ys', vs', rfl, c₅, hρ₂, nx5, ap₅, st₅, e, hys⟩
      | true =>
        obtain ⟨a, e3, e⟩ := ob_some e
        obtain ⟨b, e4, e⟩ := ob_some e
        cases e
        have hlen : ys'.length + (a ++ b).length = ys.length + vs.length := by rw [← List.length_append, ← List.length_append, hys]
        rw [List.length_append] at hlen
        refine hB d ρ₂ e2 F₅ s₅ ys' a _ _ _ c₅ (by omega) e3 fun F₆ ρ₆ s₆ c₆ hρ₆ e₆ => ?_
        have ap₆ := ap₅.stp' e₆ fun b hi hb => by
          rcases hb with rfl | rfl
          · exact hWD hi
          · exact (ap₅.off _ hi).2 rfl
        have st₆ := st₅.then e₆ (fun b hb => .inl hb) c₆.off c₆.offC
        have nx6 := nx'.same (v₅.sub.trans e₆.sub) (h' := s₆.heap) fun b hi => by
          rw [← hw₅ b hi]
          obtain ⟨o, ho⟩ := ap₅.here b hi
          rw [ho]
          refine e₆.keep _ _ ho fun hb => ?_
          rcases hb with rfl | rfl
          · exact hWD hi
          · exact (ap₅.off _ hi).2 rfl
        exact wpAny_pure ⟨rfl, ds.length, by simp, ds, F₆, ρ₆, ys' ++ a, b, rfl, c₆, fun x sl g => hρ₆ _ _ (hρ₂ _ _ g), nx6, ap₆, st₆, e4, by rw [List.append_assoc]; exact hys⟩
end Mine.MI
end
-- MiH
section
namespace Mine.MI
variable {C : Cx} {n : Nat} {T T' : St}

theorem relabel_lookup (env : Env) : ∀ (names : List (Str × NameKind)) (x : Str), (names.map fun (n, k) => if (k == NameKind.free && env.scope.kind == .function && env.kindOf n == some .cell) then (n, NameKind.cell) else (n, k)).lookup x =
    (names.lookup x).map fun k => if (k == NameKind.free && env.scope.kind == .function && env.kindOf x == some .cell) then NameKind.cell else k
  | [], _ => rfl
  | (n, k) :: r, x => by
    have ih := relabel_lookup env r x
    rw [List.map_cons]
    have e : (if (k == NameKind.free && env.scope.kind == .function && env.kindOf n == some .cell) = true then (n, NameKind.cell) else (n, k)) = (n, if (k == NameKind.free && env.scope.kind == .function && env.kindOf n == some .cell) = true then NameKind.cell else k) := by split <;> rfl
    show List.lookup x ((if (k == NameKind.free && env.scope.kind == .function && env.kindOf n == some .cell) = true then (n, NameKind.cell) else (n, k)) :: _) = _
    rw [e, List.lookup_cons, List.lookup_cons]
    cases hx : x == n with
    | true => have := beq_iff_eq.mp hx; subst this; rfl
    | false => exact ih
noncomputable def clF (env : Env) (x : Str × NameKind) (r : List (Str × Addr)) : Sem (ForInStep (List (Str × Addr))) := match x with | (name, kind) => if (kind == .free) = true then (do let a ← cellOf env name; pure (ForInStep.yield ((name, a) :: r))) else pure (ForInStep.yield r)
theorem closure_ex {scope : Scope} {env : Env} (h : ∀ x ∈ scope.names, x.2 = .free → ∃ c, env.cells.lookup x.1 = some c) :
    ∃ cl, closureFor scope env = pure cl ∧ (∀ x c, cl.lookup x = some c → env.cells.lookup x = some c) ∧ ∀ x ∈ scope.names, x.2 = .free → cl.lookup x.1 = env.cells.lookup x.1 := by
  have key : ∀ (names : List (Str × NameKind)) (cs : List (Str × Addr)), (∀ x ∈ names, x.2 = .free → ∃ c, env.cells.lookup x.1 = some c) → (∀ x c, cs.lookup x = some c → env.cells.lookup x = some c) →
      ∃ cl, (forIn names cs (clF env) : Sem (List (Str × Addr))) = pure cl ∧
        (∀ x c, cl.lookup x = some c → env.cells.lookup x = some c) ∧ (∀ x, (cs.lookup x).isSome → (cl.lookup x).isSome) ∧ ∀ x ∈ names, x.2 = .free → (cl.lookup x.1).isSome := by
    intro names
    induction names with
    | nil => intro cs _ h2; exact ⟨cs, rfl, h2, fun _ h => h, fun x hx => by simp at hx⟩
    | cons x r ih =>
      obtain ⟨name, kind⟩ := x
      intro cs h1 h2
      cases hk : (kind == NameKind.free) with
      | false =>
        have es : (forIn ((name, kind) :: r) cs (clF env) : Sem (List (Str × Addr))) = forIn r cs (clF env) := by
          rw [List.forIn_cons]
          have : clF env (name, kind) cs = pure (ForInStep.yield cs) := by unfold clF; simp only [hk]; rfl
          rw [this, pure_bind]
        rw [es]
        obtain ⟨cl, e1, e2, e3, e4⟩ := ih cs (fun x hx => h1 x (List.mem_cons_of_mem _ hx)) h2
        refine ⟨cl, e1, e2, e3, fun x hx hf => ?_⟩
        rcases List.mem_cons.mp hx with rfl | hx
        · simp only at hf; rw [hf] at hk; exact absurd hk (by decide)
        · exact e4 x hx hf
      | true =>
        have hk' : kind = .free := by simpa using hk
        obtain ⟨c, hc⟩ := h1 (name, kind) (by simp) hk'
        have hco : cellOf env name = pure c := by unfold cellOf; rw [hc]
        have es : (forIn ((name, kind) :: r) cs (clF env) : Sem (List (Str × Addr))) = forIn r ((name, c) :: cs) (clF env) := by
          rw [List.forIn_cons]
          have : clF env (name, kind) cs = pure (ForInStep.yield ((name, c) :: cs)) := by unfold clF; simp only [hk, hco, pure_bind]; rfl
          rw [this, pure_bind]
        rw [es]
        obtain ⟨cl, e1, e2, e3, e4⟩ := ih ((name, c) :: cs) (fun x hx => h1 x (List.mem_cons_of_mem _ hx)) fun x c' hx => by
          rw [List.lookup_cons] at hx
          split at hx
          · rename_i hb; have := beq_iff_eq.mp hb; subst this; cases hx; exact hc
          · exact h2 x c' hx
        refine ⟨cl, e1, e2, fun x hx => e3 x ?_, fun x hx hf => ?_⟩
        · rw [List.lookup_cons]; split <;> simp_all
        · rcases List.mem_cons.mp hx with rfl | hx
          · exact e3 name (by rw [List.lookup_cons]; simp)
          · exact e4 x hx hf
  obtain ⟨cl, e1, e2, _, e4⟩ := key scope.names [] h (fun x c hx => by simp at hx)
  refine ⟨cl, ?_, e2, fun x hx hf => ?_⟩
  · have : closureFor scope env = (forIn scope.names [] (clF env) >>= fun cs => pure cs) := by rfl
    rw [this, e1, pure_bind]
  · have := e4 x hx hf
    obtain ⟨c, hc⟩ := Option.isSome_iff_exists.mp this
    rw [hc, e2 _ _ hc]

theorem pick_get : ∀ {cap : List Nat} {ρ ρ' : Rho}, pick cap ρ = some ρ' → ∀ x sl, get x ρ' = some sl → x ∈ cap ∧ get x ρ = some sl ∧ ∃ d, sl = .val d
  | [], ρ, ρ', e, x, sl, g => by cases e; cases g
  | y :: cap, ρ, ρ', e, x, sl, g => by
    unfold pick at e
    split at e
    · rename_i d hd
      obtain ⟨t, e1, e2⟩ := ob_some e
      cases e2
      unfold get at g
      split at g
      · rename_i hb
        cases g
        have := Nat.eq_of_beq_eq_true hb
        subst this
        exact ⟨by simp, hd, d, rfl⟩
      · obtain ⟨h1, h2, h3⟩ := pick_get e1 x sl g
        exact ⟨List.mem_cons_of_mem _ h1, h2, h3⟩
    · cases e

theorem back_puts : ∀ {xs : List Nat} {ds : List V} {ρ ρ' : Rho}, puts xs ds ρ = some ρ' → ∀ x sl, get x ρ' = some sl → x ∈ xs ∨ get x ρ = some sl
  | [], [], _, _, e, x, sl, g => by cases e; exact .inr g
  | [], _ :: _, _, _, e, _, _, _ => by cases e
  | _ :: _, [], _, _, e, _, _, _ => by cases e
  | y :: xs, d :: ds, ρ, ρ', e, x, sl, g => by
    rcases back_puts (xs := xs) (ds := ds) (show puts xs ds (put y (.val d) ρ) = some ρ' from e) x sl g with q | q
    · exact .inl (List.mem_cons_of_mem _ q)
    · rw [get_put] at q
      split at q
      · rename_i h; exact .inl (by simp [h])
      · exact .inr q
theorem back_putT {xs : List Nat} {d : V} {ρ ρ' : Rho} (e : putT xs d ρ = some ρ') (x : Nat) (sl : Slot) (g : get x ρ' = some sl) : x ∈ xs ∨ get x ρ = some sl := by
  unfold putT at e
  split at e
  · cases e
    rw [get_put] at g
    split at g
    · rename_i h; exact .inl (by simp [h])
    · exact .inr g
  · split at e
    · exact back_puts e x sl g
    · cases e
/-- the scope of a comprehension fits its frame T' and the names it takes from without -/
structure ScOk (T T' : St) (cap : List Nat) (scope : Scope) : Prop where
  nms : T'.nms = T.nms
  kind : scope.kind = .function
  names : ∀ x ∈ scope.names, x.2 = .local → scope.names.lookup x.1 = some .local
  nocell : ∀ x ∈ scope.names, x.2 ≠ .cell
  free : ∀ x ∈ scope.names, x.2 = .free → ∃ y ∈ cap, x.1 = T.nm y
  cap : ∀ y ∈ cap, y ∈ T.cells ∧ (T.nm y, NameKind.free) ∈ scope.names ∧ scope.names.lookup (T.nm y) = some .free
  globs : ∀ g ∈ T'.globs, scope.names.lookup g = some .globalImplicit
  locs : ∀ x ∈ T'.locs, x < T.nms.length ∧ scope.names.lookup (T.nm x) = some .local
  nocells : T'.cells = []
  nopin : T'.pin = none

theorem SemY.mono {A : Around} {env : Env} {D : Addr} {F₀ : Fn} {s₀ : Shared} {B : Sem Fin → Sem Fin} {k : Rho → Option (List V)} {ρ : Rho} (h : SemY C A T env D F₀ s₀ B k ρ) : SemY C A T env D F₀ s₀ B k ρ := h

noncomputable def compG (cap xs : List Nat) (fi : DI) (fs : List DB) (k : Rho → Option (List V)) : Mine.MI.D := fun ρ => ob (fi ρ) fun ds => ob (pick cap ρ) fun ρ => ob (compL xs fs k ρ ds) fun l => chk (Nat.ble l.length 10000) (some (.lst l))

/-- what is so when a comprehension is through -/
structure CEnd (C : Cx) (F : Fn) (s : Shared) (l : List V) (D Cl : Addr) (F' : Fn) (s' : Shared) : Prop where
  ev : Ev F s F' s'
  hp : Hp C F' s'
  ns : ∃ m, s'.heap.Ns Cl m
  acc : ∃ vs m, s'.heap.get? D = some { cls := .type "list", data := .seq vs m } ∧ RdL C F' l vs.toList
  offD : F' D = none
  offC : F' Cl = none
  ne : D ≠ Cl
  newD : s.heap.get? D = none
  newC : s.heap.get? Cl = none

theorem start_loop {A : Around} {elt t iter : Expr} {ifs : List Expr} {rest : List Comprehension} {scope : Scope} {pos : Pos} {it acc : Value} {env : Env} {R : Result → Shared → Prop} {WI : Addr → Prop} {F : Fn} {s : Shared} (sf : Self C A it WI F s.heap) (H : Hp C F s)
    (h : codeAny C.M A (.compLoop (.ListComp elt (⟨t, iter, ifs, 0⟩ :: rest) scope pos) 0 it acc env) R s) : codeAny C.M A (.compStart (.ListComp elt (⟨t, iter, ifs, 0⟩ :: rest) scope pos) 0 it acc env) R s :=
  codeAny_compStart_list h (sf s F _ _ Sub.refl H (fun _ _ => rfl) h)
theorem start_loop1 {A : Around} {elt t iter : Expr} {ifs : List Expr} {g : Comprehension} {rest : List Comprehension} {scope : Scope} {pos : Pos} {it acc : Value} {env : Env} {R : Result → Shared → Prop} {WI : Addr → Prop} {F : Fn} {s : Shared} (sf : Self C A it WI F s.heap) (H : Hp C F s)
    (h : codeAny C.M A (.compLoop (.ListComp elt (g :: ⟨t, iter, ifs, 0⟩ :: rest) scope pos) 1 it acc env) R s) : codeAny C.M A (.compStart (.ListComp elt (g :: ⟨t, iter, ifs, 0⟩ :: rest) scope pos) 1 it acc env) R s := by
  refine codeAny_of_tree ?_
  show wpAny C.M A ((compStart (.ListComp elt (g :: ⟨t, iter, ifs, 0⟩ :: rest) scope pos) 1 it acc env).onRaise (fun x => do noteFrame x env; standAt theWindowsPlace)) _ _ s
  refine wpAny_notedAt ?_
  unfold compStart
  show wpAny _ _ (ask >>= _) _ _ s
  refine wpAny_bind (wpAny_askSetting (wpAny_ite ?_))
  split
  · first
      | exact wpAny_bind (wpAny_pure (wpAny_pure (And.intro rfl h)))
      | exact wpAny_pure (And.intro rfl h)
  · first
      | exact wpAny_bind (wpAny_rule (wpAny_bind (wpAny_standAt (wpAny_bind (sf s F _ _ Sub.refl H (fun _ _ => rfl) (wpAny_pure (And.intro rfl h)))))))
      | (refine wpAny_bind (wpAny_rule ?_); show wpAny _ _ (standAt iter.pos >>= _) _ _ s; exact wpAny_bind (wpAny_standAt (wpAny_bind (sf s F _ _ Sub.refl H (fun _ _ => rfl) (wpAny_pure (And.intro rfl h))))))

theorem comp_core {A : Around} {env : Env} {F : Fn} {W : Addr → Prop} {ρ : Rho} {s : Shared} {elt t iter : Expr} {ifs : List Expr} {rest : List Comprehension} {scope : Scope} {pos : Pos} {cap xs : List Nat} {fi : DI} {fs : List DB} {k : Rho → Option (List V)} {B : Value → Env → Sem Fin → Sem Fin} {l : List V} {cl : List (Str × Addr)}
    {RR : Value → Addr → Result → Shared → Prop} (R : Room n A) (I : Inv C T env F W ρ s) (sc : ScOk T T' cap scope) (hi : SemI C n T t iter fi) (ht : TgtOk T' t xs) (hifs : SemT C n T' ifs fs) (hxs : ∀ x ∈ xs, x ∉ cap)
    (hB : ∀ env D F₀ s₀ ρ, (∀ x sl, get x ρ = some sl → x ∈ xs ++ cap) → SemY C A T' env D F₀ s₀ (B (.ref D) env) k ρ)
    (hturn : ∀ it acc env, compTurn (.ListComp elt (⟨t, iter, ifs, 0⟩ :: rest) scope pos) 0 it acc env = turnF t ifs iter.pos it env (B acc env) (.compLoop (.ListComp elt (⟨t, iter, ifs, 0⟩ :: rest) scope pos) 0 it acc env))
    (hcl1 : ∀ x c, cl.lookup x = some c → env.cells.lookup x = some c) (hcl2 : ∀ x ∈ scope.names, x.2 = .free → cl.lookup x.1 = env.cells.lookup x.1)
    (e : compG cap xs fi fs k ρ = some (.lst l)) (hR : ∀ D Cl F' s', CEnd C F s l D Cl F' s' → RR (.ref D) Cl (.ok .next) s') :
    wpAny C.M A (eval iter env) (fun x s₁ => wpAny C.M A (pyIter x) (fun it s₂ => wpAny C.M A (newList []) (fun acc s₃ => wpAny C.M A (newFunctionEnv scope env.globals cl [] env.qual none .none (some env)) (fun cenv s₄ =>
      codeAny C.M A (.compStart (.ListComp elt (⟨t, iter, ifs, 0⟩ :: rest) scope pos) 0 it acc { cenv with scope := relabel scope env }) (RR acc cenv.locals) s₄) (fun _ _ => False) s₃) (fun _ _ => False) s₂) (fun _ _ => False) s₁) (fun _ _ => False) s := by
  obtain ⟨ds, e1, e⟩ := ob_some e
  obtain ⟨ρ₀, e2, e⟩ := ob_some e
  obtain ⟨l', e3, e⟩ := ob_some e
  obtain ⟨hl, e⟩ := chk_some (b := Nat.ble l'.length 10000) e
  cases e
  have hl := Nat.le_of_ble_eq_true hl
  refine wpAny_mono (hi A env F W ρ s ds R I e1) (fun x s₁ q => wpAny_mono q (fun it s₂ q => ?_) fun _ _ z => z) fun _ _ z => z
  obtain ⟨F₂, WI, v₂, h₂, nx, sf, hw⟩ := q
  have ap := apart_new I hw
  have I₂ := I.ev v₂ h₂
  refine wpAny_newObj_type (wpAny_newFunctionEnv sc.nocell (by intro y hy; simp at hy) (fun h₁ hns₁ hsb₁ => ?_) sc.kind)
  dsimp only at hns₁ hsb₁ ⊢
  generalize hH2 : s₂.heap.push { cls := .type "list", dict := none, data := .seq ([] : List Value).toArray } = H2 at hns₁ hsb₁ ⊢
  have hC : H2.objs.size = s₂.heap.objs.size + 1 := by rw [← hH2, Heap.size_push]
  have hDC : s₂.heap.objs.size ≠ H2.objs.size := by omega
  have fresh : ∀ a, s₂.heap.objs.size ≤ a → s₂.heap.get? a = none := fun a ha => by
    cases e : s₂.heap.get? a with
    | none => rfl
    | some o' => exact absurd (Heap.lt_size e) (Nat.not_lt.mpr ha)
  have old : ∀ b o, s₂.heap.get? b = some o → h₁.get? b = some o := fun b o e => hsb₁.extBut b o (by rw [hC]; exact Nat.ne_of_lt (Nat.lt_succ_of_lt (Heap.lt_size e))) (Heap.get?_push_of_some _ (hH2 ▸ Heap.get?_push_of_some _ e))
  have hnew : ∀ a, s₂.heap.get? a = none → s.heap.get? a = none := fun a ha => by
    rcases v₂.gone ha with z | z
    · exact z.elim
    · exact z
  generalize hD : s₂.heap.objs.size = D at *
  generalize hCl : H2.objs.size = Cl at *
  have fD : s₂.heap.get? D = none := fresh D (Nat.le_refl _)
  have fC : s₂.heap.get? Cl = none := fresh Cl (by omega)
  have hacc : h₁.get? D = some { cls := .type "list", data := .seq #[] } := hsb₁.extBut _ _ hDC (Heap.get?_push_of_some _ (by rw [← hH2, ← hD]; exact Heap.get?_push_size _ rfl))
  let s₄ : Shared := { s₂ with heap := h₁, toks := s₂.toks + ([] : List (Str × Value)).length }
  obtain ⟨G1, G2⟩ := grown (s' := s₄) h₂ old rfl h₂.gens
  let env' : Env := compEnvC scope cl Cl env
  have cells' : ∀ y c, env'.cells.lookup y = some c → ∃ o, s₂.heap.get? c = some o := fun y c hc => I₂.cal y c (hcl1 y c hc)
  have nD : ∀ y c, env'.cells.lookup y = some c → c ≠ D := fun y c hc q => by obtain ⟨o, ho⟩ := cells' y c hc; rw [q, fD] at ho; cases ho
  have hkf : ∀ x, env'.kindOf x = (scope.names.lookup x).map fun k => if (k == NameKind.free && env.scope.kind == .function && env.kindOf x == some .cell) then NameKind.cell else k := fun x => relabel_lookup env scope.names x
  have I' : Inv C T' env' F₂ (· = env'.locals) ρ₀ s₄ := by
    refine ⟨G2, by rw [sc.nms]; exact I.nodup, sc.kind, I.gl, I.bi, ⟨fun g hg => ?_, fun x hx => by rw [sc.nocells] at hx; cases hx⟩, fun a w => ?_, rfl, fun y c hc => let ⟨o, ho⟩ := cells' y c hc; ⟨o, old _ _ ho⟩, ⟨_, hns₁⟩, fun x hx => ?_, fun x sl g => ?_, fun x y dx dy a b hxy gx gy => ?_, fun x a q => by rw [sc.nopin] at q; cases q⟩
    · rw [hkf, sc.globs g hg]; rfl
    · have w : a = Cl := w
      subst w
      exact ⟨h₂.none_of fC, by obtain ⟨o, _, _, ho, _⟩ := hns₁; exact ⟨o, ho⟩⟩
    · obtain ⟨q1, q2⟩ := sc.locs x hx
      refine ⟨by rw [sc.nms]; exact q1, .inl ?_⟩
      rw [hkf, show T'.nm x = T.nm x by unfold St.nm; rw [sc.nms], q2]; rfl
    · obtain ⟨hc, g', d, rfl⟩ := pick_get e2 x sl g
      obtain ⟨q1, q2, q3⟩ := sc.cap x hc
      obtain ⟨p1, v, p2, p3⟩ := I₂.vars x _ g'
      rw [sc.nms, show T'.nm x = T.nm x by unfold St.nm; rw [sc.nms]]
      refine ⟨p1, v, ?_, p3⟩
      have kc := I₂.globs.2 x q1
      cases p2 with
      | loc m k1 k2 k3 => rw [kc] at k1; cases k1
      | cell c k1 k2 k3 =>
        refine .cell c (.inl ?_) ?_ (k3.keeps fun b o e => old b o e)
        · rw [hkf, q3, kc]; simp [I.kind]
        · show cl.lookup _ = _; rw [hcl2 _ q2 rfl]; exact k2
    · obtain ⟨_, _, d, q⟩ := pick_get e2 x _ gx; cases q
  have c : CSt C T' env' D F s [] F₂ ρ₀ s₄ := ⟨I', Sp.trans v₂ G1, ⟨#[], 0, hacc, by simp [RdL]⟩, h₂.none_of fD, hDC, nD, hnew _ fD, hnew _ fC⟩
  have wiNe : ∀ b, WI b → b ≠ D ∧ b ≠ Cl := fun b hb => by
    obtain ⟨_, _, o, ho⟩ := hw b hb
    exact ⟨fun w => (by rw [w, fD] at ho; cases ho), fun w => (by rw [w, fC] at ho; cases ho)⟩
  have same : ∀ b, WI b → s₄.heap.get? b = s₂.heap.get? b := fun b hb => by obtain ⟨_, _, o, ho⟩ := hw b hb; rw [ho]; exact old _ _ ho
  have ap' : Apart env' F₂ (· = env'.locals) WI s s₄ := ⟨ap.new, fun b hb => ⟨(ap.off b hb).1, (wiNe b hb).2⟩, fun b hb => let ⟨o, ho⟩ := ap.here b hb; ⟨o, old _ _ ho⟩, fun b hb y c hc q => by
    exact ap.cell b hb y c (hcl1 y c hc) q⟩
  have sf' : Self C A it WI F₂ s₄.heap := fun s F₁ Q E hs hh hw2 => sf s F₁ Q E hs hh fun b hb => (hw2 b hb).trans (same b hb)
  have loop : codeAny C.M A (.compLoop (.ListComp elt (⟨t, iter, ifs, 0⟩ :: rest) scope pos) 0 it (.ref D) env') (RR (.ref D) Cl) s₄ := by
    refine comp_loop (sB := s) (FB := F) R (hturn _ _ _) ht hifs (fun d ρ hp => hB _ _ _ _ ρ fun x sl g => ?_) (fun x hx => ?_) (WI := WI) ap.new (fun h => (wiNe _ h).1 rfl) c (fun _ _ g => g) (nx.same Sub.refl same) ap' (Stp.of_ev c.ev G2) e3 (by simp; omega) fun F' ρ' s' cc _ _ => ?_
    · rcases back_putT hp x sl g with q | q
      · exact List.mem_append_left _ q
      · exact List.mem_append_right _ (pick_get e2 x sl q).1
    · cases q : get x ρ₀ with
      | none => rfl
      | some sl => exact absurd (pick_get e2 x sl q).1 (hxs x hx)
    · simp only [List.nil_append] at cc
      exact hR D Cl F' s' ⟨cc.ev, cc.inv.hp, cc.inv.ns, cc.acc, cc.off, cc.offC, cc.ne, cc.newD, cc.newC⟩
  exact start_loop sf' G2 loop

/-- the second clause -/
theorem semY_two {A : Around} {env : Env} {D : Addr} {F₀ : Fn} {s₀ : Shared} {elt t t2 iter it2 : Expr} {ifs ifs2 : List Expr} {scope : Scope} {pos : Pos} {xs2 : List Nat} {fi2 : DI} {fs2 : List DB} {f : Mine.MI.D} {ρ : Rho} (R : Room n A) (h : SemE C n T elt f) (hi : SemI C n T t2 it2 fi2) (ht : TgtOk T t2 xs2) (hifs : SemT C n T ifs2 fs2)
    (hf : ∀ env x, foldedSetIterable it2 env x = pure x) (hx : ∀ x ∈ xs2, get x ρ = none) :
    SemY C A T env D F₀ s₀ (inner (.ListComp elt [⟨t, iter, ifs, 0⟩, ⟨t2, it2, ifs2, 0⟩] scope pos) it2 (.ref D) env) (fun ρ => ob (fi2 ρ) fun ys => compL xs2 fs2 (one f) ρ ys) ρ := fun F s ys vs kk Q E c hl e hk => by
  obtain ⟨ds, e1, e2⟩ := ob_some e
  unfold inner
  refine wpAny_bind (wpAny_mono (hi A env F _ ρ s ds R c.inv e1) (fun x s₁ q => wpAny_bind (wpAny_standAt (wpAny_bind (wpAny_of_eq (hf env x) (wpAny_bind (wpAny_holding (wpAny_mono q (fun i s₂ q => ?_) fun _ _ z => z.elim))))))) fun _ _ z => z.elim)
  obtain ⟨F₂, WI, v₂, h₂, nx, sf, hw⟩ := q
  have c₂ := c.evd v₂ h₂
  have ap := apart_new c.inv hw
  have hD : ¬ WI D := fun hb => by obtain ⟨vs, m, h1, _⟩ := c.acc; rw [(hw D hb).1] at h1; cases h1
  have hnw : ∀ b, WI b → s₀.heap.get? b = none := fun b hb => (c.ev.gone (ap.new b hb)).resolve_left id
  have ap' : Apart env F₂ (· = env.locals) WI s₀ s₂ := ⟨hnw, ap.off, ap.here, ap.cell⟩
  refine wpAny_bind (wpAny_runOwn (start_loop1 sf h₂ (comp_loop (sB := s) (FB := F) R (turn_in _ _ _ _ _ _ _ _ _ _ _ _) ht hifs (fun d ρ _ => semY_one R h) hx ap.new hD c₂ (fun _ _ g => g) nx ap' (Stp.of_ev v₂ h₂) e2 hl fun F' ρ' s' c' hρ' st' => ?_)))
  exact hk F' ρ' s' c' hρ' st'

/-- a comprehension of either kind -/
structure CompOk (C : Cx) (n : Nat) (T T' : St) (t iter : Expr) (ifs : List Expr) (rest : List Comprehension) (scope : Scope) (elt : Expr) (pos : Pos) (cap xs : List Nat) (fi : DI) (fs : List DB) (k : Rho → Option (List V)) : Prop where
  sc : ScOk T T' cap scope
  hi : SemI C n T t iter fi
  ht : TgtOk T' t xs
  hifs : SemT C n T' ifs fs
  hxs : ∀ x ∈ xs, x ∉ cap
  fold : ∀ env x, foldedSetIterable iter env x = pure x
  body : ∃ B : Value → Env → Sem Fin → Sem Fin, (∀ A env D F₀ s₀ ρ, Room n A → (∀ x sl, get x ρ = some sl → x ∈ xs ++ cap) → SemY C A T' env D F₀ s₀ (B (.ref D) env) k ρ) ∧
    ∀ it acc env, compTurn (.ListComp elt (⟨t, iter, ifs, 0⟩ :: rest) scope pos) 0 it acc env = turnF t ifs iter.pos it env (B acc env) (.compLoop (.ListComp elt (⟨t, iter, ifs, 0⟩ :: rest) scope pos) 0 it acc env)
theorem compOk_one {t iter elt : Expr} {ifs : List Expr} {scope : Scope} {pos : Pos} {cap xs : List Nat} {fi : DI} {fs : List DB} {f : Mine.MI.D} (sc : ScOk T T' cap scope) (hi : SemI C n T t iter fi) (ht : TgtOk T' t xs) (hifs : SemT C n T' ifs fs) (hxs : ∀ x ∈ xs, x ∉ cap)
    (fold : ∀ env x, foldedSetIterable iter env x = pure x) (he : SemE C n T' elt f) : CompOk C n T T' t iter ifs [] scope elt pos cap xs fi fs (one f) :=
  ⟨sc, hi, ht, hifs, hxs, fold, _, fun A env D F₀ s₀ ρ R _ => semY_one R he, fun it acc env => turn_one _ _ _ _ _ _ _ _ _⟩
theorem compOk_two {t iter t2 it2 elt : Expr} {ifs ifs2 : List Expr} {scope : Scope} {pos : Pos} {cap xs xs2 : List Nat} {fi fi2 : DI} {fs fs2 : List DB} {f : Mine.MI.D} (sc : ScOk T T' cap scope) (hi : SemI C n T t iter fi) (ht : TgtOk T' t xs) (hifs : SemT C n T' ifs fs) (hxs : ∀ x ∈ xs, x ∉ cap)
    (fold : ∀ env x, foldedSetIterable iter env x = pure x) (hi2 : SemI C n T' t2 it2 fi2) (ht2 : TgtOk T' t2 xs2) (hifs2 : SemT C n T' ifs2 fs2) (fold2 : ∀ env x, foldedSetIterable it2 env x = pure x) (hx2 : ∀ x ∈ xs2, x ∉ xs ++ cap) (he : SemE C n T' elt f) :
    CompOk C n T T' t iter ifs [⟨t2, it2, ifs2, 0⟩] scope elt pos cap xs fi fs (fun ρ => ob (fi2 ρ) fun ys => compL xs2 fs2 (one f) ρ ys) :=
  ⟨sc, hi, ht, hifs, hxs, fold, _, fun A env D F₀ s₀ ρ R hd => semY_two R he hi2 ht2 hifs2 fold2 fun x hx => by
    cases q : get x ρ with
    | none => rfl
    | some sl => exact absurd (hd x sl q) (hx2 x hx), fun it acc env => turn_out _ _ _ _ _ _ _ _ _ _ _ _⟩

theorem CEnd.take {F : Fn} {s s' : Shared} {l : List V} {D Cl : Addr} {F' : Fn} (c : CEnd C F s l D Cl F' s') : ∃ F₂, Ev F s F₂ s' ∧ Hp C F₂ s' ∧ Rd C F₂ (.lst l) (.ref D) ∧ F₂ Cl = none := by
  obtain ⟨vs, m, h1, h2⟩ := c.acc
  have hs : Sub F' (F'.put D { cls := .type "list", data := .seq vs m }) := Sub.put c.offD
  refine ⟨F'.put D { cls := .type "list", data := .seq vs m }, ⟨c.ev.sub.trans hs, fun _ h => h.elim, fun a o e => ?_, c.ev.keep⟩, ⟨fun a o e => ?_, fun a o e => hs _ _ (c.hp.base a o e), c.hp.os, c.hp.gens⟩, ?_, by rw [Fn.put_ne (Ne.symm c.ne)]; exact c.offC⟩
  · by_cases q : a = D
    · subst q; exact .inr (.inr c.newD)
    · rw [Fn.put_ne q] at e; exact c.ev.fok a o e
  · by_cases q : a = D
    · subst q; rw [Fn.put_self] at e; cases e; exact h1
    · rw [Fn.put_ne q] at e; exact c.hp.inn a o e
  · simp only [Rd]
    exact ⟨D, _, vs, m, rfl, Fn.put_self, rfl, rfl, RdL.mono hs h2⟩
theorem closed {env : Env} {F : Fn} {W : Addr → Prop} {ρ : Rho} {s : Shared} {cap : List Nat} {scope : Scope} {xs : List Nat} {fi : DI} {fs : List DB} {k : Rho → Option (List V)} {d : V} (I : Inv C T env F W ρ s) (sc : ScOk T T' cap scope) (e : compG cap xs fi fs k ρ = some d) :
    ∃ cl, closureFor scope env = pure cl ∧ (∀ x c, cl.lookup x = some c → env.cells.lookup x = some c) ∧ ∀ x ∈ scope.names, x.2 = .free → cl.lookup x.1 = env.cells.lookup x.1 := by
  obtain ⟨ds, e1, e⟩ := ob_some e
  obtain ⟨ρ₀, e2, e⟩ := ob_some e
  refine closure_ex fun x hx hf => ?_
  obtain ⟨y, hy, q⟩ := sc.free x hx hf
  have key : ∀ {cap : List Nat} {ρ₀ : Rho}, pick cap ρ = some ρ₀ → y ∈ cap → ∃ d, get y ρ = some (.val d) := by
    intro cap
    induction cap with
    | nil => intro _ _ h; simp at h
    | cons z cap ih =>
      intro ρ₀ e h
      unfold pick at e
      split at e
      · rename_i d hd
        obtain ⟨t, e1, e2⟩ := ob_some e
        rcases List.mem_cons.mp h with rfl | h
        · exact ⟨d, hd⟩
        · exact ih e1 h
      · cases e
  obtain ⟨d, g⟩ := key e2 hy
  obtain ⟨_, v, p2, _⟩ := I.vars y _ g
  have kc := I.globs.2 y (sc.cap y hy).1
  rw [q]
  cases p2 with
  | loc m k1 k2 k3 => rw [kc] at k1; cases k1
  | cell c k1 k2 k3 => exact ⟨c, k2⟩
theorem compG_lst {cap xs : List Nat} {fi : DI} {fs : List DB} {k : Rho → Option (List V)} {ρ : Rho} {d : V} (e : compG cap xs fi fs k ρ = some d) : ∃ l, d = .lst l := by
  obtain ⟨ds, e1, e⟩ := ob_some e
  obtain ⟨ρ₀, e2, e⟩ := ob_some e
  obtain ⟨l', e3, e⟩ := ob_some e
  obtain ⟨hl, e⟩ := chk_some (b := Nat.ble l'.length 10000) e
  cases e
  exact ⟨_, rfl⟩
theorem sem_comp {t iter elt : Expr} {ifs : List Expr} {rest : List Comprehension} {scope : Scope} {pos : Pos} {cap xs : List Nat} {fi : DI} {fs : List DB} {k : Rho → Option (List V)} (h : CompOk C n T T' t iter ifs rest scope elt pos cap xs fi fs k) :
    SemE C n T (.ListComp elt (⟨t, iter, ifs, 0⟩ :: rest) scope pos) (compG cap xs fi fs k) := fun A env F W ρ s d R I e => by
  obtain ⟨l, rfl⟩ := compG_lst e
  obtain ⟨cl, hc, hc1, hc2⟩ := closed I h.sc e
  obtain ⟨B, hB, hturn⟩ := h.body
  rw [eval_ListComp]
  refine wpAny_comprehension_free (use := none) rfl (h.fold env) hc h.sc.kind h.sc.names (comp_core (RR := fun acc C' => compPost C.M A (fun _ _ => False) none (Ret C F s (.lst l)) acc C') R I h.sc h.hi h.ht h.hifs h.hxs (fun env D F₀ s₀ ρ hd => hB A env D F₀ s₀ ρ R hd) hturn hc1 hc2 e fun D Cl F' s' c => ?_)
  obtain ⟨m, hm⟩ := c.ns
  refine ⟨m, hm, fun h' hs => ?_⟩
  obtain ⟨F₂, v₂, h₂, r₂, o₂⟩ := c.take
  refine ⟨F₂, ⟨v₂.sub, fun _ h => h.elim, v₂.fok, fun b o q hb => hs.extBut b o (fun w => by rw [w, c.newC] at q; cases q) (v₂.keep b o q hb)⟩, ⟨fun a o q => hs.extBut a o (fun w => by rw [w, o₂] at q; cases q) (h₂.inn a o q), h₂.base, h₂.os, h₂.gens⟩, r₂⟩
theorem semS_asgComp {x : Str} {i : Nat} {q p : Pos} {t iter elt : Expr} {ifs : List Expr} {rest : List Comprehension} {scope : Scope} {pos : Pos} {cap xs : List Nat} {fi : DI} {fs : List DB} {k : Rho → Option (List V)} (hx : x = T.nm i) (hi : i ∈ T.locs) (h : CompOk C n T T' t iter ifs rest scope elt pos cap xs fi fs k) :
    SemS C n T (.Assign [.Name x q] (.ListComp elt (⟨t, iter, ifs, 0⟩ :: rest) scope pos) p) (asg i (compG cap xs fi fs k)) := fun A env F W ρ s ρ' fl R I z => by
  obtain ⟨d, e1, e2⟩ := ob_some z
  cases e2
  obtain ⟨b, hs⟩ : ∃ b : Bool, swapsWith (.ListComp elt (⟨t, iter, ifs, 0⟩ :: rest) scope pos) (some (.Name x q)) p.line env = pure b := ⟨_, rfl⟩
  cases b with
  | false =>
    refine wpAny_Assign_Name (wpAny_mono (sem_comp h A env F W ρ s d R I e1) (fun v s₁ w => ?_) fun _ _ z => z) hs
    obtain ⟨F₁, v₁, h₁, r₁⟩ := w
    subst hx
    exact (I.ev v₁ h₁).store_val hi r₁ fun s₂ I₂ x₂ => ⟨F₁, W, v₁.of_ev.trans x₂, I₂, trivial⟩
  | true =>
    obtain ⟨l, rfl⟩ := compG_lst e1
    obtain ⟨cl, hc, hc1, hc2⟩ := closed I h.sc e1
    obtain ⟨B, hB, hturn⟩ := h.body
    rw [exec_Assign_Name_used _ _ _ _ hs]
    refine wpAny_bind (wpAny_standAt (wpAny_bind ?_))
    show wpAny _ A (do let _ ← comprehension (.ListComp elt (⟨t, iter, ifs, 0⟩ :: rest) scope pos) scope env _ (newList []) false (eval iter env) (some (assign (.Name x q) env))) _ _ s
    refine wpAny_bind (wpAny_mono (wpAny_comprehension_free (use := some (assign (.Name x q) env)) (Q := fun _ s' => RetS C T env F W s (put i (.val (.lst l)) ρ) .next .next s') rfl (h.fold env) hc h.sc.kind h.sc.names
      (comp_core (RR := fun acc C' => compPost C.M A (fun _ _ => False) (some (assign (.Name x q) env)) (fun _ s' => RetS C T env F W s (put i (.val (.lst l)) ρ) .next .next s') acc C') R I h.sc h.hi h.ht h.hifs h.hxs (fun env D F₀ s₀ ρ hd => hB A env D F₀ s₀ ρ R hd) hturn hc1 hc2 e1 fun D Cl F' s' c => ?_)) (fun _ s' hq => wpAny_pure (wpAny_pure hq)) fun _ _ e => e)
    obtain ⟨F₂, v₂, h₂, r₂, o₂⟩ := c.take
    obtain ⟨m, hm⟩ := c.ns
    subst hx
    have I₁ := I.ev v₂ h₂
    have nW : ∀ b, W b → b ≠ Cl := fun b hb w => by obtain ⟨o, ho⟩ := (I.off b hb).2; rw [w, c.newC] at ho; cases ho
    show wpAny _ A (assign (.Name (T.nm i) q) env (.ref D)) _ _ _
    refine wpAny_assign_Name (I₁.store_val hi r₂ fun s₂ I₂ x₂ => ?_)
    have nC : ¬ W Cl := fun hb => nW Cl hb rfl
    have hm₂ : s₂.heap.Ns Cl m := by
      obtain ⟨o, es, ep, q1, q2⟩ := hm
      exact ⟨o, es, ep, x₂.keep _ _ q1 nC, q2⟩
    refine ⟨m, hm₂, fun h' hs' => ?_⟩
    have st : Stp C (· = Cl) F₂ s₂ F₂ { s₂ with heap := h' } := ⟨Sub.refl, ⟨fun a o q => hs'.extBut a o (fun w => by rw [w, o₂] at q; cases q) (I₂.hp.inn a o q), I₂.hp.base, I₂.hp.os, I₂.hp.gens⟩, fun _ _ e => .inl e, fun b o q hb => hs'.extBut b o hb q⟩
    have ap : Apart env F₂ W (· = Cl) s s₂ := ⟨fun b hb => by subst hb; exact c.newC, fun b hb => by subst hb; exact ⟨o₂, nC⟩, fun b hb => by subst hb; obtain ⟨o, _, _, q, _⟩ := hm₂; exact ⟨o, q⟩, fun b hb y cc hc w => by
      obtain ⟨o, ho⟩ := I.cal y cc hc
      rw [w, hb, c.newC] at ho; cases ho⟩
    exact ⟨F₂, W, (v₂.of_ev.trans x₂).step ap.new st, I₂.step ap st, trivial⟩
end Mine.MI
end
-- MiF
section
namespace Mine.MI
variable {C : Cx} {n : Nat} {T T' : St}

/-- a container of one's own is read for a flat result -/
theorem rd_flat {F F' : Fn} {d : V} {v : Value} (h : flat d = true) (r : Rd C F d v) : Rd C F' d v := by
  cases d <;> first | (simp only [Rd] at r ⊢; exact r) | (simp [flat] at h)
theorem sem_peek {e : Expr} {x : Nat} {f : D} (h : SemE C n T e f) : SemE C n T e (peek x f) := fun A env F W ρ s d R I z => by
  unfold peek at z
  split at z
  · rename_i c g
    split at z
    · rename_i v ev
      obtain ⟨hfl, z⟩ := chk_some z
      cases z
      obtain ⟨F₁, W₁, I₁, x₁⟩ := I.freeze g
      refine wpAny_mono (h A env F₁ W₁ _ s d R I₁ ev) (fun u s₁ q => ?_) fun _ _ z => z
      obtain ⟨F₂, v₂, h₂, r₂⟩ := q
      exact ⟨F, ⟨Sub.refl, fun _ h => h.elim, fun _ _ e => .inl e, v₂.keep⟩, ⟨fun a o e => v₂.keep' _ _ (I.hp.inn a o e), I.hp.base, h₂.os, h₂.gens⟩, rd_flat hfl r₂⟩
    · cases z
  · cases z

theorem bindL_get {kindOf : Str → Option NameKind} {x : Str} {v : Value} : ∀ {binds : List (Str × Value)} {m : Str → Option Value}, kindOf x = some .local → (binds.map (·.1)).Nodup → (x, v) ∈ binds → bindL kindOf binds m x = some v := by
  have stay : ∀ (binds : List (Str × Value)) (m : Str → Option Value), x ∉ binds.map (·.1) → bindL kindOf binds m x = m x := by
    intro binds
    induction binds with
    | nil => intro m _; rfl
    | cons b r ih =>
      obtain ⟨y, w⟩ := b
      intro m hx
      simp only [List.map_cons, List.mem_cons, not_or] at hx
      show bindL kindOf r _ x = _
      rw [ih _ hx.2]
      split
      · simp [hx.1]
      · rfl
  intro binds
  induction binds with
  | nil => intro m _ _ h; simp at h
  | cons b r ih =>
    obtain ⟨y, w⟩ := b
    intro m hk hn hm
    simp only [List.map_cons, List.nodup_cons] at hn
    rcases List.mem_cons.mp hm with e | e
    · cases e
      show bindL kindOf r _ x = _
      rw [stay _ _ hn.1, if_pos hk]; simp
    · exact ih hk hn.2 e
theorem bindC_get {kindOf : Str → Option NameKind} {x : Str} {v : Value} : ∀ {binds : List (Str × Value)} {m : Str → Option Value}, kindOf x ≠ some .local → (binds.map (·.1)).Nodup → (x, v) ∈ binds → bindC kindOf binds m x = some v := by
  have stay : ∀ (binds : List (Str × Value)) (m : Str → Option Value), x ∉ binds.map (·.1) → bindC kindOf binds m x = m x := by
    intro binds
    induction binds with
    | nil => intro m _; rfl
    | cons b r ih =>
      obtain ⟨y, w⟩ := b
      intro m hx
      simp only [List.map_cons, List.mem_cons, not_or] at hx
      show bindC kindOf r _ x = _
      rw [ih _ hx.2]
      split
      · rfl
      · simp [hx.1]
  intro binds
  induction binds with
  | nil => intro m _ _ h; simp at h
  | cons b r ih =>
    obtain ⟨y, w⟩ := b
    intro m hk hn hm
    simp only [List.map_cons, List.nodup_cons] at hn
    rcases List.mem_cons.mp hm with e | e
    · cases e
      show bindC kindOf r _ x = _
      rw [stay _ _ hn.1, if_neg hk]; simp
    · exact ih hk hn.2 e

/-- the frame of a function -/
structure FrOk (T : St) (scope : Scope) : Prop where
  nodup : T.nms.Nodup
  kind : scope.kind = .function
  gen : scope.isGenerator = false
  co : scope.isCoroutine = false
  globs : ∀ g ∈ T.globs, scope.names.lookup g = some .globalImplicit
  cells : ∀ x ∈ T.cells, scope.names.lookup (T.nm x) = some .cell
  locs : ∀ x ∈ T.locs, x < T.nms.length ∧ (scope.names.lookup (T.nm x) = some .local ∨ scope.names.lookup (T.nm x) = some .cell)
structure FuncAt (fa : Addr) (T : St) (ps : List Nat) (body : List Stmt) (scope : Scope) : Prop where
  data : ∀ P, ∃ o fd, (K P).lookup fa = some o ∧ o.data = .func fd ∧ fd.scope = scope ∧ fd.globals = mainGlobals ∧ fd.closure = [] ∧ fd.body = .stmts body ∧ fd.builtins = builtinsNs ∧ codeIn (K P) fd.code fd.qualname = true ∧
    ∀ vs : List Value, vs.length = ps.length → bindArgs fd ⟨vs, []⟩ = pure ((ps.map T.nm).zip vs)

theorem mem_zip_map {xs : List Nat} {vs : List Value} {x : Nat} {v : Value} (f : Nat → Str) : (x, v) ∈ xs.zip vs → (f x, v) ∈ (xs.map f).zip vs := by
  intro h
  rw [List.zip_map_left]
  exact List.mem_map.mpr ⟨(x, v), h, rfl⟩
theorem rdL_zip {F : Fn} : ∀ {xs : List Nat} {ds : List V} {vs : List Value} {x : Nat} {d : V}, RdL C F ds vs → (x, d) ∈ xs.zip ds → ∃ v, (x, v) ∈ xs.zip vs ∧ Rd C F d v
  | [], _, _, _, _, _, h => by simp at h
  | _ :: _, [], _, _, _, _, h => by simp at h
  | y :: xs, d :: ds, vs, x, d', r, h => by
    simp only [RdL] at r
    obtain ⟨v, vs', rfl, r1, r2⟩ := r
    rw [List.zip_cons_cons] at h ⊢
    rcases List.mem_cons.mp h with e | e
    · cases e; exact ⟨v, by simp, r1⟩
    · obtain ⟨v', h1, h2⟩ := rdL_zip r2 e
      exact ⟨v', List.mem_cons_of_mem _ h1, h2⟩
theorem lookup_mem {α : Type} : ∀ {l : List (Str × α)} {x : Str} {a : α}, l.lookup x = some a → (x, a) ∈ l
  | [], _, _, h => by cases h
  | (y, b) :: r, x, a, h => by
    rw [List.lookup_cons] at h
    split at h
    · rename_i q; have := beq_iff_eq.mp q; subst this; cases h; simp
    · exact List.mem_cons_of_mem _ (lookup_mem h)
theorem cells_apart {cs : List (Str × Addr)} (h : cs.Pairwise fun x y => x.2 ≠ y.2) {x y : Str} {c : Addr} (hx : cs.lookup x = some c) (hy : cs.lookup y = some c) : x = y := by
  have mx := lookup_mem hx
  have my := lookup_mem hy
  clear hx hy
  induction cs with
  | nil => simp at mx
  | cons a r ih =>
    have h' := List.pairwise_cons.mp h
    rcases List.mem_cons.mp mx with e | e
    · rcases List.mem_cons.mp my with e' | e'
      · rw [← e] at e'; cases e'; rfl
      · exact absurd (by rw [← e]) (h'.1 _ e')
    · rcases List.mem_cons.mp my with e' | e'
      · exact absurd (by rw [← e']) (h'.1 _ e)
      · exact ih h'.2 e e'

/-- a frame new made, with its arguments -/
theorem inv_new {F : Fn} {s s' : Shared} {scope : Scope} {env : Env} {bs : List (Str × Value)} {ρ : Rho} (fr : FrOk T scope) (H : Hp C F s) (hnd : (bs.map (·.1)).Nodup)
    (hv : ∀ y sl, get y ρ = some sl → y < T.nms.length ∧ (scope.names.lookup (T.nm y) = some .local ∨ scope.names.lookup (T.nm y) = some .cell) ∧ ∃ d v, sl = .val d ∧ (T.nm y, v) ∈ bs ∧ Rd C F d v)
    (hpin : ∀ x a, T.pin = some (x, a) → x ∉ T.locs ∧ x < T.nms.length ∧ (scope.names.lookup (T.nm x) = some .local ∨ scope.names.lookup (T.nm x) = some .cell) ∧ (T.nm x, Value.ref a) ∈ bs)
    (hsc : env.scope = scope) (hgl : env.globals = mainGlobals) (hbi : env.builtins = builtinsNs) (hL : env.locals = s.heap.objs.size) (hcs : env.cells = cellsFrom (s.heap.objs.size + 1) scope.names [])
    (x : InCallC s env.locals (bindL env.kindOf bs fun _ => none) env.cells (bindC env.kindOf bs fun _ => none) s') :
    Inv C T env F (fun a => a = env.locals ∨ ∃ y, env.cells.lookup y = some a) ρ s' ∧ Ev F s F s' ∧ ∀ a, (a = env.locals ∨ ∃ y, env.cells.lookup y = some a) → s.heap.get? a = none := by
  obtain ⟨h', tk, rfl, hk⟩ := x.done
  have fresh : ∀ a, s.heap.objs.size ≤ a → s.heap.get? a = none := fun a ha => by
    cases e : s.heap.get? a with
    | none => rfl
    | some o' => exact absurd (Heap.lt_size e) (Nat.not_lt.mpr ha)
  have nw : ∀ a, (a = env.locals ∨ ∃ y, env.cells.lookup y = some a) → s.heap.get? a = none := fun a ha => by
    rcases ha with rfl | ⟨y, hy⟩
    · exact fresh _ (Nat.le_of_eq hL.symm)
    · have := x.above y a (lookup_mem hy)
      rw [hL] at this
      exact fresh _ (Nat.le_of_lt this)
  obtain ⟨G1, G2⟩ := grown (s' := { s with heap := h', toks := tk }) H hk rfl H.gens
  have hkind : ∀ y, env.kindOf y = scope.names.lookup y := fun y => by show env.scope.names.lookup y = _; rw [hsc]
  have var : ∀ nm v, (nm, v) ∈ bs → (scope.names.lookup nm = some .local ∨ scope.names.lookup nm = some .cell) → VarAt env h' nm v := fun nm v hb q => by
    rcases q with q | q
    · exact .loc _ (by rw [hkind]; exact q) x.toInCall.ns (bindL_get (by rw [hkind]; exact q) hnd hb)
    · obtain ⟨c, hc⟩ := Option.isSome_iff_exists.mp (cellsFrom_some scope.names (s.heap.objs.size + 1) [] (.inl q))
      rw [← hcs] at hc
      have := x.cell _ c hc
      rw [bindC_get (by rw [hkind, q]; decide) hnd hb] at this
      exact .cell c (.inl (by rw [hkind]; exact q)) hc this
  refine ⟨⟨G2, fr.nodup, by rw [hsc]; exact fr.kind, hgl, hbi, ⟨fun g hg => by rw [hkind]; exact fr.globs g hg, fun y hy => by rw [hkind]; exact fr.cells y hy⟩, fun a w => ⟨H.none_of (nw a w), ?_⟩, .inl rfl, fun y c hc => ?_, ⟨_, x.toInCall.ns⟩, fun y hy => ?_, fun y sl g => ?_,
    fun y z dy dz a b _ gy _ => ?_, fun y a q => let ⟨p1, p2, p3, p4⟩ := hpin y a q; ⟨p1, p2, var _ _ p4 p3⟩⟩, G1, nw⟩
  · rcases w with rfl | ⟨y, hy⟩
    · obtain ⟨o, _, _, q, _⟩ := x.toInCall.ns; exact ⟨o, q⟩
    · obtain ⟨o, q, _⟩ := x.cell y a hy; exact ⟨o, q⟩
  · obtain ⟨o, q, _⟩ := x.cell y c hc; exact ⟨o, q⟩
  · obtain ⟨q1, q2⟩ := fr.locs y hy
    refine ⟨q1, q2.imp (fun q => by rw [hkind]; exact q) fun q => ⟨by rw [hkind]; exact q, ?_⟩⟩
    obtain ⟨c, hc⟩ := Option.isSome_iff_exists.mp (cellsFrom_some scope.names (s.heap.objs.size + 1) [] (.inl q))
    rw [← hcs] at hc
    exact ⟨c, hc, .inr ⟨_, hc⟩, fun w => absurd (x.above _ c (lookup_mem hc)) (by rw [w]; exact Nat.lt_irrefl _), ⟨_, x.cell _ c hc⟩, fun z hz w => hz (cells_apart x.apart w hc)⟩
  · obtain ⟨q1, q2, d, v, rfl, hb, rv⟩ := hv y sl g
    exact ⟨q1, v, var _ _ hb q2, rv⟩
  · obtain ⟨q1, q2, d, v, q, _⟩ := hv y _ gy
    cases q
theorem binds_nodup {ps : List Nat} {vs : List Value} (hn : T.nms.Nodup) (hps : ∀ x ∈ ps, x < T.nms.length) (hpn : ps.Nodup) (hlen : vs.length = ps.length) : (((ps.map T.nm).zip vs).map (·.1)).Nodup := by
  rw [List.map_fst_zip (by simp [hlen])]
  exact List.pairwise_map.mpr (List.Pairwise.imp_of_mem (fun {a b} ha hb' hne => nm_inj hn (hps a ha) (hps b hb') hne) hpn)
theorem semF_of {fa : Addr} {ps : List Nat} {body : List Stmt} {scope : Scope} {b : DS} (hpin : T.pin = none) (fr : FrOk T scope) (fn' : FuncAt fa T ps body scope) (psl : ∀ x ∈ ps, x ∈ T.locs) (psn : ps.Nodup) (hb : SemSs C n T body b) : SemF C (n + 1) fa (fn ps b) := fun A F s ds vs d R H r e => by
  obtain ⟨ρ, e1, e⟩ := ob_some e
  have hlen : vs.length = ps.length := by rw [length_of_rdL r, puts_length e1]
  obtain ⟨o, fd, h1, h2, hsc, hgl, hcl, hbo, hbi, hcd, hbind⟩ := fn'.data C.w.params
  have ho := H.K fa o h1
  refine wpAny_call (codeAny_call_function R.limit ho h2 (by rw [hsc]; exact fr.co) (by rw [hsc]; exact fr.gen) hbo (codeRec_of H.K hcd) (BindsTo.of_eq (hbind vs hlen) _ _ _ _ ?_))
  rw [hcl]
  refine wpAny_newFunctionEnv_cells (by rw [hsc]; exact fr.kind) (fun x hx => ?_) fun env he s' x => ?_
  · obtain ⟨nm, v⟩ := x
    have hm := (List.of_mem_zip hx).1
    obtain ⟨y, hy, rfl⟩ := List.mem_map.mp hm
    rw [hsc]
    rcases (fr.locs y (psl y hy)).2 with q | q
    · exact .inl q
    · exact .inr ⟨q, cellsFrom_some _ _ _ (.inl q)⟩
  have hen : env.scope = scope ∧ env.globals = mainGlobals ∧ env.builtins = builtinsNs ∧ env.locals = s.heap.objs.size ∧ env.cells = cellsFrom (s.heap.objs.size + 1) scope.names [] := by
    rw [he]; exact ⟨hsc, hgl, hbi, rfl, by rw [hsc]; rfl⟩
  obtain ⟨I, v₁, nw⟩ := inv_new (ρ := ρ) fr H (binds_nodup fr.nodup (fun x hx => (fr.locs x (psl x hx)).1) psn hlen) (fun y sl g => by
    rw [get_puts psn e1] at g
    rcases g with ⟨d, hd, rfl⟩ | ⟨_, g⟩
    · obtain ⟨v, hv, rv⟩ := rdL_zip r hd
      have hy : y ∈ ps := (List.of_mem_zip hd).1
      obtain ⟨q1, q2⟩ := fr.locs y (psl y hy)
      exact ⟨q1, q2, d, v, rfl, mem_zip_map T.nm hv, rv⟩
    · cases g) (fun x a q => by rw [hpin] at q; cases q) hen.1 hen.2.1 hen.2.2.1 hen.2.2.2.1 hen.2.2.2.2 x
  refine ⟨C.T.nolimit.keeps fun b o e => x.toInCall.keep b o (H.inn _ _ (H.base _ _ e)), codeAny_func ?_⟩
  split at e
  · rename_i ρ' d' hbb
    cases e
    refine wpAny_mono (hb (A.deeper env) env F _ ρ s' ρ' (.ret d) (R.deeper env) I hbb) (fun fl s₂ q => ?_) fun _ _ z => z.elim
    obtain ⟨F', W', x₂, I₂, ok⟩ := q
    cases fl <;> first | exact ok.elim | skip
    refine ⟨F', ⟨x₂.sub, fun _ h => h.elim, fun a o q => ?_, fun b o q _ => x₂.keep b o (v₁.keep' _ _ q) fun w => by rw [nw b w] at q; cases q⟩, I₂.hp, ok⟩
    rcases x₂.fok a o q with z | z | z
    · exact .inl z
    · exact .inr (.inr (nw a z))
    · rcases v₁.gone z with z | z
      · exact z.elim
      · exact .inr (.inr z)
  · cases e
end Mine.MI
end
-- MiAt
section
open Builtin Builtin.ObjectAttr
namespace Mine.MI
variable {C : Cx} {n : Nat} {T T' : St}

theorem fieldKeys_snoc {e : DictEntry} : ∀ {i : Nat} {es : List DictEntry}, FieldKeys i es → (∃ t, e.key = .str (fieldNm (i + es.length)) t) → FieldKeys i (es ++ [e])
  | i, [], _, h => ⟨by simpa using h, trivial⟩
  | i, a :: es, hk, h => ⟨hk.1, fieldKeys_snoc hk.2 (by obtain ⟨t, h⟩ := h; exact ⟨t, by rw [h]; congr 2; simp; omega⟩)⟩
theorem fieldKeys_off {nm : Str} : ∀ {i : Nat} {es : List DictEntry}, FieldKeys i es → (∀ j, i ≤ j → j < i + es.length → (fieldNm j == nm) = false) → (es.any (·.key.isStr nm) = false) ∧ (es.any (·.refKey) = false)
  | i, [], _, _ => ⟨rfl, rfl⟩
  | i, a :: es, hk, h => by
    obtain ⟨t, ht⟩ := hk.1
    obtain ⟨h1, h2⟩ := fieldKeys_off hk.2 fun j q1 q2 => h j (by omega) (by simp; omega)
    have ha : a.key.isStr nm = false := by rw [ht]; exact h i (Nat.le_refl _) (by simp)
    have hr : a.refKey = false := by unfold DictEntry.refKey; rw [ht]
    exact ⟨by rw [List.any_cons, ha, h1]; rfl, by rw [List.any_cons, hr, h2]; rfl⟩
theorem putL_off {nm : Str} {hs : Int} {k v : Value} : ∀ {es : List DictEntry}, es.any (·.key.isStr nm) = false → putL nm hs k v es = es ++ [⟨hs, k, v⟩]
  | [], _ => rfl
  | a :: es, h => by
    rw [List.any_cons, Bool.or_eq_false_iff] at h
    unfold putL
    rw [h.1]
    simp only [Bool.false_eq_true, if_false, List.cons_append, putL_off h.2]
theorem k_over : ∀ P, plainOver (K P) 76 = true := fun P => by kernel_rfl
theorem k_seta : ∀ P, findIn (K P) (.ref 76) "__setattr__" = some (some (.builtin "object.__setattr__")) := fun P => by kernel_rfl
theorem k_taker : ∀ P, ([0, 1, 2, 3, 4].all fun i => takerIn (K P) 76 (fieldNm i) == some none) = true := fun P => by kernel_rfl
theorem k_hasd : ∀ P, (clsIn (K P) 76).any (·.hasDict) = true := fun P => by kernel_rfl

/-- one's own object gets a new field -/
theorem set_field {A : Around} {E : Value → Shared → Prop} {s : Shared} {x dx : Addr} {ox : Obj} {es : List DictEntry} {m : Nat} {nm : Str} {v : Value} {Q : Unit → Shared → Prop} (X : (K C.w.params).In s.heap) (I : InstAt s.heap x ox 76 (some (dictOf es m))) (hd : ox.dict = some dx)
    (D : s.heap.get? dx = some (dictOf es m)) (ht : takerIn (K C.w.params) 76 nm = some none) (h1 : es.any (·.key.isStr nm) = false) (h2 : es.any (·.refKey) = false) (hz : es.length ≤ 900)
    (h : ∀ h' e, (∃ t, e.key = .str nm t) → e.val = v → Heap.SameBut dx s.heap h' → h'.get? dx = some (dictOf (es ++ [e]) (m + 1)) → Q () { s with heap := h', toks := s.toks + 2 }) :
    wpAny C.M A (setAttr (.ref x) nm v) Q E s := by
  refine set_plain X I (k_seta _) (osa_open (s := { s with toks := s.toks + 1 }) X I (k_over _) ht fun b => ?_)
  obtain ⟨cd, hc, hd'⟩ := any_some (k_hasd C.w.params)
  obtain ⟨hx, hcl, hn, -⟩ := I
  obtain ⟨oc, odi, oda, osl⟩ := ox
  dsimp only at hcl hd
  subst hcl hd
  have ep : Obj.putName nm (PyData.keyHash C.w.params nm) (.str nm (s.toks + 1)) v (dictOf es m) = dictOf (es ++ [⟨PyData.keyHash C.w.params nm, .str nm (s.toks + 1), v⟩]) (m + 1) := by
    rw [putName_dict, putL_off h1]; unfold putN; rw [h1]; rfl
  have D' : (s.heap.update dx (Obj.putName nm (PyData.keyHash C.w.params nm) (.str nm (s.toks + 1)) v)).get? dx = some (dictOf (es ++ [⟨PyData.keyHash C.w.params nm, .str nm (s.toks + 1), v⟩]) (m + 1)) := by
    rw [Heap.get?_update_self _ D (by rw [ep]; rfl), ep]
  refine wpAny_bind (wpAny_pure (wpAny_bind (wpAny_bind (wpAny_loadPart hx (wpAny_bind (looks_clsIn X hc _ _ _ _ (fun _ _ e => e) ?_))))))
  rw [hd']
  refine wpAny_pure (a := some dx) (wpAny_bind (wpAny_pure (wpAny_bind ?_)))
  unfold nsSet
  refine wpAny_bind (wpAny_bind (wpAny_askSetting (wpAny_pure (wpAny_bind (wpAny_mkText (wpAny_bind (wpAny_loadPart D ?_)))))))
  dsimp only
  have c : (!es.toArray.any (·.key.isStr nm) && es.toArray.any (·.refKey)) = false := by
    rw [← Array.any_toList, ← Array.any_toList]; simp only [List.toList_toArray, h2, Bool.and_false]
  rw [aRefKeyMayBeTheName_at, c]
  refine wpAny_updatePart D ?_
  refine wpAny_bind (wpAny_lookBehind D' (pastItsLine_dict (by rw [List.size_toArray, sizeLine_eq]; simp; omega)) ?_)
  exact wpAny_pure (h _ _ ⟨_, rfl⟩ rfl (Heap.SameBut.update ..) D')

theorem semS_setattr {x nm : Str} {i f : Nat} {e : Expr} {q apos p : Pos} {g : D} (hx : x = T.nm i) (h1 : (x == ("__debug__" : Str)) = false) (h2 : (x == ("__classdict__" : Str)) = false) (hn : nm = fieldNm f) (hf : f < 5) (he : SemE C n T e g)
    (hs : ∀ env, swapsWith e (some (.Attribute (.Name x q) nm apos)) p.line env = pure false) : SemS C n T (.Assign [.Attribute (.Name x q) nm apos] e p) (setattr i f g) := fun A env F W ρ s ρ' fl R I z => by
  obtain ⟨d, e1, z⟩ := ob_some z
  obtain ⟨xs, g0⟩ : ∃ xs, get i ρ = some (.own (.obj xs)) := by
    split at z
    · rename_i xs g0; exact ⟨xs, g0⟩
    · cases z
  rw [g0] at z
  obtain ⟨hk, z⟩ := chk_some (b := Nat.beq xs.length f) z
  cases z
  have hk := Nat.eq_of_beq_eq_true hk
  subst hx hn
  obtain ⟨a, va, ow⟩ := I.own_at g0
  refine plainObj_wpAny_Assign_Attribute (wpAny_mono (he A env F W ρ s d R I e1) (fun v s₁ w => ?_) fun _ _ z => z) (hs env)
  obtain ⟨F₁, v₁, h₁, r₁⟩ := w
  have I₁ := I.ev v₁ h₁
  obtain ⟨ox, dx, es, m, o1, o2, o3, o4, o5, o6, o7, o8⟩ := ow
  have hxs : es.length = xs.length := by have := length_of_rdL o8; simpa using this
  have a1 := v₁.keep' _ _ o1
  have a6 := v₁.keep' _ _ o6
  obtain ⟨q1, q2⟩ := fieldKeys_off (nm := fieldNm f) o7 fun j _ q => fields_apart j (by omega) f hf (by omega)
  have tk : takerIn (K C.w.params) 76 (fieldNm f) = some none := by
    have := List.all_eq_true.mp (k_taker C.w.params) f (by
      have : f = 0 ∨ f = 1 ∨ f = 2 ∨ f = 3 ∨ f = 4 := by omega
      rcases this with h | h | h | h | h <;> subst h <;> decide)
    exact beq_iff_eq.mp this
  refine wpAny_Name (wp_load I₁.kind (va.keeps v₁.keep') (set_field h₁.K ⟨a1, o2, o3, by rw [o4]; exact a6⟩ o4 a6 tk q1 q2 (by omega) fun h' en k1 k2 hs' hd' => ?_) h2) h1
  obtain ⟨t, k1⟩ := k1
  have hne : a ≠ dx := Ne.symm o5
  have fa : h'.get? a = some ox := hs'.extBut a ox hne a1
  have f1 : foot s₁.heap a = [a, dx] := by unfold foot; rw [a1]; simp [o4]
  have f2 : foot h' a = [a, dx] := by unfold foot; rw [fa]; simp [o4]
  obtain ⟨I₂, x₂⟩ := I₁.mutate (s' := { s₁ with heap := h', toks := s₁.toks + 2 }) (d' := .obj (xs ++ [d])) (p := dx) g0 (va.keeps v₁.keep') (by rw [f1]; simp) hs' (by rw [f1]; exact f2)
    ⟨ox, dx, es ++ [en], m + 1, fa, o2, o3, o4, o5, hd', fieldKeys_snoc o7 ⟨t, by rw [k1, Nat.zero_add, hxs, hk]⟩, by
      rw [List.map_append]; exact rdL_append (RdL.mono v₁.sub o8) (by simp only [List.map_cons, List.map_nil, RdL]; exact ⟨v, [], by rw [k2], r₁, rfl⟩)⟩ ⟨_, hd'⟩ rfl rfl
  exact ⟨F₁, W, v₁.of_ev.trans x₂, I₂, trivial⟩

/-- a container of one's own is taken into the frame -/
theorem Inv.add_own {env : Env} {F : Fn} {W : Addr → Prop} {ρ : Rho} {s : Shared} {x : Nat} {d : V} {a : Addr} (I : Inv C T env F W ρ s) (hx : x < T.nms.length) (va : VarAt env s.heap (T.nm x) (.ref a)) (ow : Own C F s.heap a d)
    (hf : ∀ b ∈ foot s.heap a, F b = none ∧ (∃ o, s.heap.get? b = some o) ∧ ¬ W b ∧ b ≠ env.locals ∧ ∀ y c, env.cells.lookup y = some c → c ≠ b) (hg : get x ρ = none) :
    Inv C T env F (fun b => W b ∨ b ∈ foot s.heap a) (put x (.own d) ρ) s := by
  have I₁ := I.widen (foot s.heap a) fun b hb => ⟨(hf b hb).1, (hf b hb).2.1⟩
  have apart : ∀ y dy b, get y ρ = some (.own dy) → VarAt env s.heap (T.nm y) (.ref b) → ∀ c ∈ foot s.heap b, c ∉ foot s.heap a := fun y dy b gy vb c hc hc' => by
    obtain ⟨_, b0, vb0, _, k⟩ := I.vars y _ gy
    cases vb.unique vb0
    exact (hf c hc').2.2.1 (k c hc).1
  refine ⟨I₁.hp, I₁.nodup, I₁.kind, I₁.gl, I₁.bi, I₁.globs, I₁.off, I₁.wl, I₁.cal, I₁.ns, I₁.locs, fun y sl g => ?_, fun y z dy dz b c hyz gy gz vb vc => ?_, I₁.pin⟩
  · rw [get_put] at g
    by_cases hyx : y = x
    · subst hyx
      rw [if_pos rfl] at g; cases g
      exact ⟨hx, a, va, ow, fun b hb => ⟨.inr hb, (hf b hb).2.2.2.1, (hf b hb).2.2.2.2⟩⟩
    · rw [if_neg hyx] at g; exact I₁.vars y sl g
  · rw [get_put] at gy gz
    by_cases hyx : y = x
    · subst hyx
      rw [if_neg (Ne.symm hyz)] at gz
      cases vb.unique va
      exact fun c' hc hc' => apart z dz c gz vc c' hc' hc
    · rw [if_neg hyx] at gy
      by_cases hzx : z = x
      · subst hzx
        cases vc.unique va
        exact apart y dy b gy vb
      · rw [if_neg hzx] at gz
        exact I.dist y z dy dz b c hyz gy gz vb vc

theorem k_makes : ∀ P, makesIn (K P) 76 = true := fun P => by kernel_rfl
theorem k_init : ∀ P, findIn (K P) (.ref 76) "__init__" = some (some (.ref 31)) := fun P => by kernel_rfl
theorem k_initfn : ∀ P, typeIn (K P) (.ref 31) = some (.type "function") := fun P => by kernel_rfl
theorem tcl_weight (vs : List Value) : (Code.builtin "type.__call__" ⟨.ref 76 :: vs, []⟩).weight = 1 := by kernel_rfl
theorem tcl_units (vs : List Value) : (Code.builtin "type.__call__" ⟨.ref 76 :: vs, []⟩).cUnits = 1 := by kernel_rfl
theorem Room.make {n : Nat} {A : Around} (h : Room (n + 1) A) (vs : List Value) : Room n (A.under (.builtin "type.__call__" ⟨.ref 76 :: vs, []⟩)) :=
  ⟨h.handled, by have := h.depth; show A.depth + (Code.builtin "type.__call__" ⟨.ref 76 :: vs, []⟩).weight + 20 * n ≤ 600; rw [tcl_weight]; omega, by have := h.units; show A.units + (Code.builtin "type.__call__" ⟨.ref 76 :: vs, []⟩).cUnits + 100 * n ≤ 2000; rw [tcl_units]; omega⟩

noncomputable def St.pinned (T : St) (x : Nat) (a : Addr) : St := { T with pin := some (x, a) }
/-- a new object of the class -/
theorem semF_new {ps : List Nat} {self : Nat} {body : List Stmt} {scope : Scope} {b : DS} (hself : self ∉ T.locs) (hsl : self < T.nms.length) (hsk : scope.names.lookup (T.nm self) = some .local) (fr : ∀ a, FrOk (T.pinned self a) scope) (fn' : FuncAt 31 T (self :: ps) body scope)
    (hpl : ∀ x ∈ ps, x ∈ T.locs) (hpn : ps.Nodup) (hb : ∀ a, SemSs C n (T.pinned self a) body b) : SemF C (n + 2) 76 (newObj b ps self) := fun A F s ds vs d R H r e => by
  obtain ⟨ρ, e1, e⟩ := ob_some e
  have hlen : vs.length = ps.length := by rw [length_of_rdL r, puts_length e1]
  have hsp : self ∉ ps := fun q => hself (hpl _ q)
  obtain ⟨o, fd, h1, h2, hsc, hgl, hcl, hbo, hbi, hcd, hbind⟩ := fn'.data C.w.params
  obtain ⟨hh, g, dr, t, os⟩ := s
  have X := H.K
  refine wpAny_call (make_core (makes_of X (k_makes _)) (looks_findIn X (k_init _)) (fun self => bind_fn X self (k_initfn _)) (.inl rfl) ?_)
  have R1 := R.make vs
  generalize A.under (.builtin "type.__call__" ⟨.ref 76 :: vs, []⟩) = A' at R1 ⊢
  have old : ∀ b o, hh.get? b = some o → ((hh.push emptyDict).push (instObj 76 hh.objs.size)).get? b = some o := fun b o e => Heap.get?_push_of_some _ (Heap.get?_push_of_some _ e)
  let s₁ : Shared := ⟨(hh.push emptyDict).push (instObj 76 hh.objs.size), g, dr, t, os⟩
  obtain ⟨v₁, H₁⟩ := grown (s' := s₁) H old rfl H.gens
  have ox : s₁.heap.get? (hh.objs.size + 1) = some (instObj 76 hh.objs.size) := by
    have := Heap.get?_push_size (hh.push emptyDict) (o := instObj 76 hh.objs.size) rfl
    rw [Heap.size_push] at this; exact this
  have od : s₁.heap.get? hh.objs.size = some emptyDict := Heap.get?_push_of_some _ (Heap.get?_push_size _ rfl)
  refine codeAny_call_function (s := s₁) R1.limit (H₁.K 31 o h1) h2 (by rw [hsc]; exact (fr 0).co) (by rw [hsc]; exact (fr 0).gen) hbo (codeRec_of H₁.K hcd) (BindsTo.of_eq (hbind (.ref (hh.objs.size + 1) :: vs) (by simp [hlen])) _ _ _ _ ?_)
  rw [hcl]
  refine wpAny_newFunctionEnv_cells (by rw [hsc]; exact (fr 0).kind) (fun x hx => ?_) fun env he s' x => ?_
  · obtain ⟨nm, v⟩ := x
    have hm := (List.of_mem_zip hx).1
    obtain ⟨y, hy, rfl⟩ := List.mem_map.mp hm
    rw [hsc]
    rcases List.mem_cons.mp hy with rfl | hy
    · exact .inl hsk
    · rcases ((fr 0).locs y (hpl y hy)).2 with q | q
      · exact .inl q
      · exact .inr ⟨q, cellsFrom_some _ _ _ (.inl q)⟩
  have hen : env.scope = scope ∧ env.globals = mainGlobals ∧ env.builtins = builtinsNs ∧ env.locals = s₁.heap.objs.size ∧ env.cells = cellsFrom (s₁.heap.objs.size + 1) scope.names [] := by
    rw [he]; exact ⟨hsc, hgl, hbi, rfl, by rw [hsc]; rfl⟩
  obtain ⟨ρ₁, e2⟩ := puts_some (xs := ps) (ds := ds) (ρ := []) (puts_length e1)
  have len : ∀ y ∈ self :: ps, y < T.nms.length := fun y hy => by
    rcases List.mem_cons.mp hy with rfl | hy
    · exact hsl
    · exact ((fr 0).locs y (hpl y hy)).1
  obtain ⟨I, v₂, nw⟩ := inv_new (C := C) (ρ := ρ₁) (T := T.pinned self (hh.objs.size + 1)) (fr _) H₁ (binds_nodup (T := T) (fr 0).nodup len (List.nodup_cons.mpr ⟨hsp, hpn⟩) (by simp [hlen])) (fun y sl gy => by
    rw [get_puts hpn e2] at gy
    rcases gy with ⟨d, hd, rfl⟩ | ⟨_, gy⟩
    · obtain ⟨v, hv, rv⟩ := rdL_zip r hd
      have hy : y ∈ ps := (List.of_mem_zip hd).1
      obtain ⟨q1, q2⟩ := (fr 0).locs y (hpl y hy)
      exact ⟨q1, q2, d, v, rfl, List.mem_cons_of_mem _ (mem_zip_map T.nm hv), rv⟩
    · cases gy) (fun y a q => by
      cases q
      exact ⟨hself, hsl, .inl hsk, List.mem_cons_self ..⟩) hen.1 hen.2.1 hen.2.2.1 hen.2.2.2.1 hen.2.2.2.2 x
  have kp := v₂.keep'
  have ox' := kp _ _ ox
  have od' := kp _ _ od
  have ft : foot s'.heap (hh.objs.size + 1) = [hh.objs.size + 1, hh.objs.size] := by unfold foot; rw [ox']; rfl
  have hno : ∀ b, b = hh.objs.size + 1 ∨ b = hh.objs.size → (∃ o, s₁.heap.get? b = some o) ∧ hh.get? b = none := fun b hb => by
    rcases hb with rfl | rfl
    · refine ⟨⟨_, ox⟩, ?_⟩
      cases q : hh.get? (hh.objs.size + 1) with
      | none => rfl
      | some o => exact absurd (Heap.lt_size q) (Nat.not_lt.mpr (Nat.le_succ _))
    · exact ⟨⟨_, od⟩, get?_size hh⟩
  have va : VarAt env s'.heap (T.nm self) (.ref (hh.objs.size + 1)) := (I.pin self _ rfl).2.2
  have I₂ := I.add_own (x := self) (d := .obj []) (a := hh.objs.size + 1) hsl va ⟨instObj 76 hh.objs.size, hh.objs.size, [], 0, ox', rfl, rfl, rfl, Nat.ne_of_lt (Nat.lt_succ_self _), od', trivial, by simp [RdL]⟩ (fun b hb => by
    rw [ft] at hb
    have hb' : b = hh.objs.size + 1 ∨ b = hh.objs.size := by simpa using hb
    obtain ⟨⟨o', q1⟩, q2⟩ := hno b hb'
    refine ⟨H.none_of q2, ⟨o', kp _ _ q1⟩, fun w => ?_, fun w => ?_, fun y c hc w => ?_⟩
    · rw [nw b w] at q1; cases q1
    · rw [nw b (.inl w)] at q1; cases q1
    · rw [nw b (.inr ⟨y, w ▸ hc⟩)] at q1; cases q1) (by
    cases q : get self ρ₁ with
    | none => rfl
    | some sl =>
      rcases (get_puts hpn e2 self sl).mp q with ⟨d, hd, _⟩ | ⟨_, q⟩
      · exact absurd (List.of_mem_zip hd).1 hsp
      · cases q)
  have I₃ := I₂.congr (ρ' := ρ) fun y sl gy => by
    rw [get_put]
    rcases (get_puts hpn e1 y sl).mp gy with ⟨d, hd, rfl⟩ | ⟨hy, q⟩
    · rw [if_neg (fun w => hsp (by rw [← w]; exact (List.of_mem_zip hd).1))]
      exact (get_puts hpn e2 y _).mpr (.inl ⟨d, hd, rfl⟩)
    · unfold get at q
      split at q
      · rename_i w; cases q; rw [if_pos (Nat.eq_of_beq_eq_true w)]
      · cases q
  refine ⟨C.T.nolimit.keeps fun b o e => kp b o (H₁.inn _ _ (H₁.base _ _ e)), codeAny_func ?_⟩
  split at e
  · rename_i ρ' hbb
    split at e
    · rename_i d' gs
      cases e
      refine wpAny_mono (hb _ (A'.deeper env) env F _ ρ s' ρ' .next (R1.deeper env) I₃ hbb) (fun fl s₂ q => ?_) fun _ _ z => z.elim
      obtain ⟨F', W', x₂, I₄, ok⟩ := q
      cases fl <;> first | exact ok.elim | skip
      obtain ⟨F₅, W₅, I₅, x₅⟩ := I₄.freeze gs
      obtain ⟨_, v, vb, rd⟩ := I₅.vars self (.val d) (by rw [get_put, if_pos rfl])
      cases vb.unique (I₅.pin self _ rfl).2.2
      have x₃ := x₂.trans x₅
      have nwx : ∀ a, ((a = env.locals ∨ ∃ y, env.cells.lookup y = some a) ∨ a ∈ foot s'.heap (hh.objs.size + 1)) → hh.get? a = none := fun a ha => by
        rcases ha with ha | ha
        · rcases v₁.gone (nw a ha) with z | z
          · exact z.elim
          · exact z
        · rw [ft] at ha
          exact (hno a (by simpa using ha)).2
      refine ⟨rfl, F₅, ⟨x₃.sub, fun _ h => h.elim, fun a o q => ?_, fun b o q _ => x₃.keep b o (kp _ _ (old _ _ q)) fun w => by rw [nwx b w] at q; cases q⟩, I₅.hp, rd⟩
      rcases x₃.fok a o q with z | z | z
      · exact .inl z
      · exact .inr (.inr (nwx a z))
      · rcases (Sp.trans v₁ v₂).gone z with z | z
        · exact z.elim
        · exact .inr (.inr z)
    · cases e
  · cases e
end Mine.MI
end
-- MiDc
section
namespace Mine.MI
variable {C : Cx} {n : Nat} {T T' : St}

/-- the pairs of a dict display -/
noncomputable def SemKV (C : Cx) (n : Nat) (T : St) (keys : List (Option Expr)) (values : List Expr) (kvs : List (D × D)) : Prop := ∀ (pos : Pos) (A : Around) (env : Env) (F : Fn) (W : Addr → Prop) (ρ : Rho) (s : Shared) (t : List V × List V),
  Room n A → Inv C T env F W ρ s → kvE kvs ρ = some t → wpAny C.M A (evalPairs (pairTrees keys values env pos)) (fun vs s' => ∃ F', Ev F s F' s' ∧ Hp C F' s' ∧ RdL C F' t.1 (vs.map (·.1)) ∧ RdL C F' t.2 (vs.map (·.2))) (fun _ _ => False) s
theorem kv_nil : SemKV C n T [] [] [] := fun pos A env F W ρ s t R I e => by
  cases e
  exact evalPairs_nil ⟨F, Sp.refl, I.hp, by simp [RdL], by simp [RdL]⟩
theorem kv_cons {k v : Expr} {ks : List (Option Expr)} {vs : List Expr} {f g : D} {r : List (D × D)} (hk : SemE C n T k f) (hv : SemE C n T v g) (hr : SemKV C n T ks vs r) : SemKV C n T (some k :: ks) (v :: vs) ((f, g) :: r) := fun pos A env F W ρ s t R I e => by
  obtain ⟨kd, e1, e⟩ := ob_some e
  obtain ⟨vd, e2, e⟩ := ob_some e
  obtain ⟨td, e3, e⟩ := ob_some e
  cases e
  refine pairTrees_cons_walk (wpAny_mono (hk A env F W ρ s kd R I e1) (fun kv s₁ q => ?_) fun _ _ z => z)
  obtain ⟨F₁, v₁, h₁, r₁⟩ := q
  refine wpAny_mono (hv A env F₁ W ρ s₁ vd R (I.ev v₁ h₁) e2) (fun vv s₂ q => ?_) fun _ _ z => z
  obtain ⟨F₂, v₂, h₂, r₂⟩ := q
  refine wpAny_mono (hr pos A env F₂ W ρ s₂ td R ((I.ev v₁ h₁).ev v₂ h₂) e3) (fun l s₃ q => ?_) fun _ _ z => z
  obtain ⟨F₃, v₃, h₃, r₃, r₄⟩ := q
  refine ⟨F₃, Sp.trans v₁ (Sp.trans v₂ v₃), h₃, ?_, ?_⟩
  · simp only [List.map_cons, RdL]; exact ⟨kv, _, rfl, (r₁.mono v₂.sub).mono v₃.sub, r₃⟩
  · simp only [List.map_cons, RdL]; exact ⟨vv, _, rfl, r₂.mono v₃.sub, r₄⟩
theorem carries_of {F : Fn} : ∀ {ds : List V} {ks : List (List Nat)} {vs : List (Value × Value)}, strKeys ds = some ks → RdL C F ds (vs.map (·.1)) → Carries C.knd vs ((ks.map toS).zip (vs.map (·.2))) ∧ (∀ k ∈ ks, strV k) ∧ vs.length = ks.length
  | [], ks, vs, e, r => by
    cases e
    simp only [RdL] at r
    have : vs = [] := by simpa using r
    subst this
    exact ⟨trivial, fun k h => by simp at h, rfl⟩
  | d :: ds, ks, [], e, r => by simp [RdL] at r
  | d :: ds, ks, v :: vs, e, r => by
    simp only [List.map_cons, RdL] at r
    obtain ⟨u, w, q, r1, r2⟩ := r
    injection q with q1 q2
    subst q1 q2
    unfold strKeys at e
    split at e
    · rename_i h; cases h
    · rename_i k r h
      cases h
      obtain ⟨t, e1, e2⟩ := ob_some e
      cases e2
      obtain ⟨h1, h2, h3⟩ := carries_of e1 r2
      simp only [Rd] at r1
      obtain ⟨s1, tk, s2⟩ := r1
      obtain ⟨v1, v2⟩ := v
      simp only at s2
      subst s2
      refine ⟨⟨strKind_is _ _ _ _, rfl, h1⟩, fun c hc => ?_, by simp [h3]⟩
      rcases List.mem_cons.mp hc with rfl | hc
      · exact s1
      · exact h2 c hc
    · cases e
theorem nodupK_iff : ∀ {ks : List (List Nat)}, nodupK ks = true → ks.Nodup
  | [], _ => List.nodup_nil
  | k :: r, h => by
    unfold nodupK at h
    rw [memK_iff] at h
    split at h
    · cases h
    · rename_i q
      exact List.nodup_cons.mpr ⟨of_decide_eq_false q, nodupK_iff h⟩
theorem keys_nodup {ks : List (List Nat)} (h : ks.Nodup) : (ks.map toS).Nodup := List.pairwise_map.mpr (h.imp fun q w => q (toS_inj w))
theorem big {F : Fn} {s : Shared} (H : Hp C F s) : (s.heap.objs.size == sysModules) = false := by
  obtain ⟨o, ho⟩ : ∃ o, (K C.w.params).lookup 3 = some o := ⟨_, rfl⟩
  have := Heap.lt_size (H.K 3 o ho)
  refine beq_eq_false_iff_ne.mpr fun q => ?_
  rw [q] at this
  exact absurd this (by decide)
/-- a dict display, not yet taken up -/
theorem dct_core {keys : List (Option Expr)} {values : List Expr} {pos : Pos} {kvs : List (D × D)} {A : Around} {env : Env} {F : Fn} {W : Addr → Prop} {ρ : Rho} {s : Shared} {d : V} (h : SemKV C n T keys values kvs) (hall : keys.all (·.isSome) = true) (hl : keys.length = values.length) (h0 : keys ≠ []) (hlen : keys.length ≤ 15)
    (R : Room n A) (I : Inv C T env F W ρ s) (e : dctE kvs ρ = some d) : wpAny C.M A (eval (.Dict keys values pos) env) (fun v s' => ∃ F' ks xs, d = .dct ks xs ∧ v = .ref s.heap.objs.size ∧ Ev F s F' s' ∧ Hp C F' s' ∧ F' s.heap.objs.size = none ∧ Own C F' s'.heap s.heap.objs.size d ∧
      foot s'.heap s.heap.objs.size = [s.heap.objs.size] ∧ ∃ o, s'.heap.get? s.heap.objs.size = some o) (fun _ _ => False) s := by
  obtain ⟨t, e1, e⟩ := ob_some e
  obtain ⟨ks, e2, e⟩ := ob_some e
  obtain ⟨hn, e⟩ := chk_some e
  cases e
  obtain ⟨G1, G2⟩ := grown (s' := { s with heap := s.heap.push { cls := .type "dict", data := .dict #[] } }) I.hp (fun _ _ e => Heap.get?_push_of_some _ e) rfl I.hp.gens
  refine wpAny_Dict_walk (knd := C.knd) hall hl h0 hlen (wpAny_mono (h pos A env F W ρ _ t R (I.ev G1 G2) e1) (fun vs s₁ q => ?_) fun _ _ z => z)
  obtain ⟨F₁, v₁, h₁, r₁, r₂⟩ := q
  obtain ⟨c1, c2, c3⟩ := carries_of e2 r₁
  have hb := big I.hp
  have ne := get?_size s.heap
  have hF := I.hp.none_of ne
  generalize hD : s.heap.objs.size = Dd at *
  have hD0 : ({ s with heap := s.heap.push { cls := .type "dict", data := .dict #[] } } : Shared).heap.get? Dd = some { cls := .type "dict", data := .dict #[] } := by rw [← hD]; exact Heap.get?_push_size _ rfl
  have hF₁ : F₁ Dd = none := by
    cases q : F₁ Dd with
    | none => rfl
    | some o =>
      rcases v₁.fok _ o q with z | z | z
      · rw [hF] at z; cases z
      · exact z.elim
      · rw [hD0] at z; cases z
  have hd0 : s₁.heap.DictOf C.knd Dd [] := by
    refine ⟨_, #[], 0, v₁.keep' _ _ hD0, ⟨rfl, rfl, rfl⟩, rfl, ?_, ?_, ?_⟩
    · intro e he; simp at he
    · exact .nil
    · exact List.nodup_nil
  have hnd : (((ks.map toS).zip (vs.map (·.2))).map (·.1)).Nodup := by
    rw [List.map_fst_zip (by simp [c3])]
    exact keys_nodup (nodupK_iff hn)
  refine ⟨_, c1, hd0, fun h' hd' hs' => ?_⟩
  rw [merged_nil_of_nodup _ hnd] at hd'
  obtain ⟨o, es, ep, ho, q⟩ := id hd'
  obtain ⟨o1, ho1, hdn⟩ := hd'.mapOf.noDict Dd rfl
  rw [ho] at ho1; cases ho1
  have keep : ∀ b o, s.heap.get? b = some o → h'.get? b = some o := fun b o q => hs'.extBut b o (fun w => by rw [w, ne] at q; cases q) (v₁.keep' _ _ (Heap.get?_push_of_some _ q))
  refine ⟨F₁, ks, t.2, rfl, rfl, ⟨fun a o q => v₁.sub _ _ q, fun _ h => h.elim, fun a o q => ?_, fun b o q _ => keep b o q⟩, ⟨fun a o q => hs'.extBut a o (fun w => by rw [w, hF₁] at q; cases q) (h₁.inn _ _ q), h₁.base, h₁.os, h₁.gens⟩, hF₁,
    ⟨o, _, ho, hdn, hb, ⟨es, ep, q⟩, ?_, c2, ?_⟩, foot_plain ho hdn, o, ho⟩
  · rcases v₁.fok a o q with z | z | z
    · exact .inl z
    · exact z.elim
    · refine .inr (.inr ?_)
      cases w : s.heap.get? a with
      | none => rfl
      | some o' => have := Heap.get?_push_of_some { cls := .type "dict", data := .dict #[] } w; rw [this] at z; cases z
  · rw [List.map_fst_zip (by simp [c3])]
  · rw [List.map_snd_zip (by simp [c3])]; exact r₂
theorem sem_dct {keys : List (Option Expr)} {values : List Expr} {pos : Pos} {kvs : List (D × D)} (h : SemKV C n T keys values kvs) (hall : keys.all (·.isSome) = true) (hl : keys.length = values.length) (h0 : keys ≠ []) (hlen : keys.length ≤ 15) : SemE C n T (.Dict keys values pos) (dctE kvs) := fun A env F W ρ s d R I e => by
  refine wpAny_mono (dct_core h hall hl h0 hlen R I e) (fun v s' q => ?_) fun _ _ z => z
  obtain ⟨F', ks, xs, rfl, rfl, v₁, h₁, hF, ow, ft, o, ho⟩ := q
  obtain ⟨o', kvs', g1, g2, g3, g4, g5, g6, g7⟩ := ow
  have hs : Sub F' (F'.put s.heap.objs.size o') := Sub.put hF
  have ne := get?_size s.heap
  refine ⟨F'.put s.heap.objs.size o', ⟨v₁.sub.trans hs, fun _ h => h.elim, fun a p q => ?_, v₁.keep⟩, ⟨fun a p q => ?_, fun a p q => hs _ _ (h₁.base a p q), h₁.os, h₁.gens⟩, ?_⟩
  · by_cases w : a = s.heap.objs.size
    · subst w; exact .inr (.inr ne)
    · rw [Fn.put_ne w] at q; exact v₁.fok a p q
  · by_cases w : a = s.heap.objs.size
    · subst w; rw [Fn.put_self] at q; cases q; exact g1
    · rw [Fn.put_ne w] at q; exact h₁.inn a p q
  · simp only [Rd]
    exact ⟨_, o', kvs', rfl, Fn.put_self, g3, g4, g5, g6, RdL.mono hs g7⟩
theorem semN_dct {keys : List (Option Expr)} {values : List Expr} {pos : Pos} {kvs : List (D × D)} (h : SemKV C n T keys values kvs) (hall : keys.all (·.isSome) = true) (hl : keys.length = values.length) (h0 : keys ≠ []) (hlen : keys.length ≤ 15) : SemN C n T (.Dict keys values pos) (dctE kvs) := fun A env F W ρ s d R I e => by
  refine wpAny_mono (dct_core h hall hl h0 hlen R I e) (fun v s' q => ?_) fun _ _ z => z
  obtain ⟨F', ks, xs, rfl, rfl, v₁, h₁, hF, ow, ft, o, ho⟩ := q
  refine ⟨F', _, rfl, v₁, h₁, ow, fun b hb => ?_⟩
  rw [ft] at hb
  have hb := List.mem_singleton.mp hb
  subst hb
  exact ⟨get?_size _, hF, o, ho⟩
theorem dict0 {h : Heap} {a : Addr} (ho : h.get? a = some { cls := .type "dict", data := .dict #[] }) : h.DictOf C.knd a [] := by
  refine ⟨_, #[], 0, ho, ⟨rfl, rfl, rfl⟩, rfl, ?_, ?_, ?_⟩
  · intro e he; simp at he
  · exact .nil
  · exact List.nodup_nil
theorem semN_dct0 {pos : Pos} : SemN C n T (.Dict [] [] pos) (dctE []) := fun A env F W ρ s d R I e => by
  cases e
  refine wpAny_Dict_empty ?_
  obtain ⟨G1, G2⟩ := grown (s' := { s with heap := s.heap.push { cls := .type "dict", data := .dict #[] } }) I.hp (fun _ _ e => Heap.get?_push_of_some _ e) rfl I.hp.gens
  have ho := Heap.get?_push_size s.heap (o := { cls := .type "dict", data := .dict #[] }) rfl
  obtain ⟨o, es, ep, q1, q⟩ := id (dict0 (C := C) ho)
  rw [ho] at q1; cases q1
  refine ⟨F, _, rfl, G1, G2, ⟨_, [], ho, rfl, big I.hp, ⟨es, ep, q⟩, rfl, fun k h => by simp at h, by simp [RdL]⟩, fun b hb => ?_⟩
  rw [foot_plain ho rfl] at hb
  have hb := List.mem_singleton.mp hb
  subst hb
  exact ⟨get?_size _, I.hp.none_of (get?_size _), _, ho⟩
/-- ways != {} -/
theorem semB_neD {l : Expr} {pos p : Pos} {f : D} (hl : SemE C n T l f) (hm : behindInMarks .NotEq (.Dict [] [] pos) = false) : SemB C n T (.Compare l [.NotEq] [.Dict [] [] pos] p) (toB neD f (dctE [])) := fun A env F W ρ s b R I e1 => by
  obtain ⟨x, ex, e3⟩ := ob_some e1
  obtain ⟨y, ey, e4⟩ := ob_some e3
  cases ey
  refine wpAny_isTrue_Compare1 (wpAny_mono (hl A env F W ρ s x R I ex) (fun a s₁ q => ?_) fun _ _ z => z) hm
  obtain ⟨F₁, e₁, h₁, r₁⟩ := q
  obtain ⟨ks, xs, rfl⟩ : ∃ ks xs, x = .dct ks xs := by
    cases x <;> first | exact ⟨_, _, rfl⟩ | cases e4
  refine wpAny_Dict_empty ?_
  obtain ⟨G1, G2⟩ := grown (s' := { s₁ with heap := s₁.heap.push { cls := .type "dict", data := .dict #[] } }) h₁ (fun _ _ e => Heap.get?_push_of_some _ e) rfl h₁.gens
  obtain ⟨ad, kvs, rfl, q1, q2, q3, q4⟩ := dictAt G2 (r₁.mono G1.sub)
  have hkl : kvs.length = ks.length := by have := congrArg List.length q3; simpa using this
  have hu := R.line
  refine keq_ne (knd := C.knd) (ka := kvs) (kb := []) (r := true) q1 (big h₁) q2 (dict0 (Heap.get?_push_size s₁.heap (o := { cls := .type "dict", data := .dict #[] }) rfl)) (by omega) (fun hz => ?_) (wpAny_truthy_bool ⟨?_, F₁, Sp.trans e₁ G1, G2⟩)
  · have : kvs = [] := by simpa using hz
    subst this
    exact .nil
  · rw [hkl]
    cases ks with
    | nil => cases e4; rfl
    | cons k r => cases e4; rfl

/-- a field of the class -/
theorem k_reads : ∀ P, readsIn (K P) 76 (.type "type") = true := fun P => by kernel_rfl
theorem sem_cls {nm : Str} {q p : Pos} {st : List Nat} (hx : ("Whitespace" : Str) ∈ T.globs) (hg : ∀ P, nsIn (K P) mainGlobals ("Whitespace" : Str) = some (some (.ref 76))) (he : ∀ P, ∃ tk, findCls (K P) (.ref 76) (.type "type") nm = some (.val (.str (toS st) tk)))
    (hst : (st.all fun c => Nat.blt c 0x110000) = true) (hev : ∀ env M A Q E s, wpAny M A (eval (.Name ("Whitespace" : Str) q) env) (fun o s₁ => wpAny M A (getAttr o nm true) Q E s₁) E s → wpAny M A (eval (.Attribute (.Name ("Whitespace" : Str) q) nm p) env) Q E s) :
    SemE C n T (.Attribute (.Name ("Whitespace" : Str) q) nm p) (cStr st) := fun A env F W ρ s d R I e => by
  cases e
  obtain ⟨tk, hf⟩ := he C.w.params
  refine hev _ _ _ _ _ _ (wp_glob hg (by decide) I hx (cls_value I.hp.K (k_reads _) hf rfl ?_))
  refine Ret.tok I.hp ?_ _
  simp only [Rd]
  exact ⟨fun c hc => Nat.le_of_ble_eq_true (List.all_eq_true.mp hst c hc), tk, rfl⟩

/-- an own container, made since s₀, is stored to a name -/
theorem Inv.store_own2 {env : Env} {F₀ F : Fn} {W₀ W : Addr → Prop} {ρ : Rho} {s₀ s : Shared} {A : Around} {E : Value → Shared → Prop} {x : Nat} {a : Addr} {d : V} {Q : Unit → Shared → Prop}
    (I : Inv C T env F W ρ s) (X : Sp F₀ W₀ s₀ F W s) (hloc : ∃ o, s₀.heap.get? env.locals = some o) (hcal : ∀ y c, env.cells.lookup y = some c → ∃ o, s₀.heap.get? c = some o) (hx : x ∈ T.locs) (ow : Own C F s.heap a d)
    (hf : ∀ b ∈ foot s.heap a, s₀.heap.get? b = none ∧ F b = none ∧ ¬ W b ∧ ∃ o, s.heap.get? b = some o)
    (h : ∀ s₂ W₂, Inv C T env F W₂ (put x (.own d) ρ) s₂ → Sp F₀ W₀ s₀ F W₂ s₂ → Q () s₂) : wpAny C.M A (storeName env (T.nm x) (.ref a)) Q E s := by
  have I₂ := I.widen (foot s.heap a) fun b hb => ⟨(hf b hb).2.1, (hf b hb).2.2.2⟩
  refine wp_store I₂ hx fun s₂ S => ?_
  obtain ⟨p, wp, hpl, hs⟩ := S.place
  have hpa : p ∉ foot s.heap a := fun hm => by
    rcases hpl with e | ⟨y, e⟩
    · obtain ⟨o, ho⟩ := hloc
      rw [← e, (hf _ hm).1] at ho; cases ho
    · obtain ⟨o, ho⟩ := hcal y p e
      rw [(hf _ hm).1] at ho; cases ho
  have ft : foot s₂.heap a = foot s.heap a := foot_same hs hpa
  have ow₂ : Own C F s₂.heap a d := Own.keeps ow Sub.refl fun b hb o e => hs.extBut b o (fun q => hpa (q ▸ hb)) e
  obtain ⟨I₃, x₃⟩ := I₂.stored (sl := .own d) hx (I.locs x hx).1 S ⟨a, S.here, ow₂, fun b hb => by
      rw [ft] at hb
      refine ⟨.inr hb, fun e => ?_, fun y c hyc e => ?_⟩
      · obtain ⟨o, ho⟩ := hloc
        rw [← e, (hf _ hb).1] at ho; cases ho
      · obtain ⟨o, ho⟩ := hcal y c hyc
        rw [e, (hf _ hb).1] at ho; cases ho⟩ fun d' a' q va y dy b hyx gy vb c hc1 hc2 => by
    cases va.unique S.here
    rw [ft] at hc1
    obtain ⟨hy, b0, vb0, owb, w2⟩ := I.vars y _ gy
    have vb1 : VarAt env s₂.heap (T.nm y) (.ref b0) := S.other _ _ (nm_inj I.nodup hy (I.locs x hx).1 hyx) vb0
    cases vb.unique vb1
    have hpb : p ∉ foot s.heap b := fun hm => by
      obtain ⟨_, k2, k3⟩ := w2 p hm
      rcases hpl with e | ⟨z, e⟩
      · exact k2 e
      · exact k3 z p e rfl
    rw [foot_same hs hpb] at hc2
    exact (hf c hc1).2.2.1 (w2 c hc2).1
  refine h s₂ _ I₃ ⟨X.sub, fun b hb => ?_, fun b o e => X.fok b o e, fun b o e hb => ?_⟩
  · rcases hb with hb | hb
    · exact X.wok b hb
    · exact .inr (hf b hb).1
  · refine x₃.keep b o (X.keep b o e hb) fun hw => ?_
    rcases hw with hw | hw
    · rcases X.wok b hw with z | z
      · exact hb z
      · rw [e] at z; cases z
    · rw [(hf b hw).1] at e; cases e
end Mine.MI
end
-- MiMo
section
namespace Mine.MI
variable {C : Cx} {n : Nat} {T T' : St}

/-- a tuple whose first item is a container of one's own -/
theorem tup_own {e0 e1 e2 : Expr} {k : Nat} {q : Pos} {f0 f1 f2 : D} {A : Around} {env : Env} {F : Fn} {W : Addr → Prop} {ρ : Rho} {s : Shared} {d0 d1 d2 : V} (h0 : SemN C n T e0 f0) (h1 : SemE C n T e1 f1) (h2 : SemE C n T e2 f2)
    (s0 : ∀ env, starEach [e0, e1, e2] env = (false, eval e0 env) :: starEach [e1, e2] env) (s1 : ∀ env, starEach [e1, e2] env = (false, eval e1 env) :: starEach [e2] env) (s2 : ∀ env, starEach [e2] env = (false, eval e2 env) :: starEach [] env)
    (R : Room n A) (I : Inv C T env F W ρ s) (q0 : f0 ρ = some d0) (q1 : f1 ρ = some d1) (q2 : f2 ρ = some d2) :
    wpAny C.M A (eval (.Tuple [e0, e1, e2] k q) env) (fun v s' => ∃ F' a v1 v2 t, v = .ref t ∧ s'.heap.IsTuple t #[.ref a, v1, v2] ∧ Ev F s F' s' ∧ Hp C F' s' ∧ Own C F' s'.heap a d0 ∧ (∀ b ∈ foot s'.heap a, s.heap.get? b = none ∧ F' b = none ∧ ∃ o, s'.heap.get? b = some o) ∧
      Rd C F' d1 v1 ∧ Rd C F' d2 v2) (fun _ _ => False) s := by
  refine wpAny_Tuple (args_cons (wpAny_mono (h0 A env F W ρ s d0 R I q0) (fun v s₁ w => ?_) fun _ _ z => z) (s0 env))
  obtain ⟨F₁, a, rfl, v₁, g₁, ow, hf⟩ := w
  have I₁ := I.ev v₁ g₁
  refine args_cons (wpAny_mono (h1 A env F₁ W ρ s₁ d1 R I₁ q1) (fun u s₂ w => ?_) fun _ _ z => z) (s1 env)
  obtain ⟨F₂, v₂, g₂, r₂⟩ := w
  have I₂ := I₁.ev v₂ g₂
  refine args_cons (wpAny_mono (h2 A env F₂ W ρ s₂ d2 R I₂ q2) (fun x s₃ w => ?_) fun _ _ z => z) (s2 env)
  obtain ⟨F₃, v₃, g₃, r₃⟩ := w
  refine args_nil ⟨(by show 3 ≤ 2 ^ 24; decide), ?_⟩
  have G := grown (s' := { s₃ with heap := s₃.heap.push { cls := .type "tuple", data := .seq [Value.ref a, u, x].toArray } }) g₃ (fun _ _ e => Heap.get?_push_of_some _ e) rfl g₃.gens
  have v₁₃ := Sp.trans v₂ (Sp.trans v₃ G.1)
  obtain ⟨oa, ha⟩ := Own.ex ow
  have fe := foot_keeps ha (v₁₃.keep' _ _ ha)
  refine ⟨F₃, a, u, x, _, rfl, ⟨_, Heap.get?_push_size _ rfl, rfl, _, rfl⟩, Sp.trans v₁ v₁₃, G.2, Own.keeps ow (v₂.sub.trans v₃.sub) (fun c _ o e => v₁₃.keep' c o e), fun b hb => ?_, r₂.mono v₃.sub, r₃⟩
  rw [fe] at hb
  obtain ⟨p1, p2, o, p3⟩ := hf b hb
  refine ⟨p1, ?_, o, v₁₃.keep' _ _ p3⟩
  cases w : F₃ b with
  | none => rfl
  | some o' =>
    rcases v₁₃.fok b o' w with z | z | z
    · rw [p2] at z; cases z
    · exact z.elim
    · rw [p3] at z; cases z
theorem own_here {env : Env} {F F' : Fn} {W : Addr → Prop} {ρ : Rho} {s s' : Shared} {b : Addr} (I : Inv C T env F W ρ s) (h : s.heap.get? b = none) : ¬ W b := fun w => by
  obtain ⟨o, ho⟩ := (I.off b w).2
  rw [h] at ho; cases ho
theorem semS_multiOwn {e0 e1 e2 : Expr} {na nb nc : Str} {pa pb pc : Pos} {k k' : Nat} {q q' p : Pos} {x y z : Nat} {f0 f1 f2 : D} (hx : na = T.nm x) (hy : nb = T.nm y) (hz : nc = T.nm z) (lx : x ∈ T.locs) (ly : y ∈ T.locs) (lz : z ∈ T.locs) (nxy : x ≠ y) (nxz : x ≠ z) (nyz : y ≠ z)
    (h0 : SemN C n T e0 f0) (h1 : SemE C n T e1 f1) (h2 : SemE C n T e2 f2)
    (s0 : ∀ env, starEach [e0, e1, e2] env = (false, eval e0 env) :: starEach [e1, e2] env) (s1 : ∀ env, starEach [e1, e2] env = (false, eval e1 env) :: starEach [e2] env) (s2 : ∀ env, starEach [e2] env = (false, eval e2 env) :: starEach [] env)
    (hs : ∀ env, swapsWithSole [.Tuple [.Name na pa, .Name nb pb, .Name nc pc] k q] (.Tuple [e0, e1, e2] k' q') p.line env = pure false)
    (hw : ∀ env, swappedStores [.Tuple [.Name na pa, .Name nb pb, .Name nc pc] k q] (.Tuple [e0, e1, e2] k' q') env = pure none ∨ swappedStores [.Tuple [.Name na pa, .Name nb pb, .Name nc pc] k q] (.Tuple [e0, e1, e2] k' q') env = pure (some [na, nb, nc])) :
    SemS C n T (.Assign [.Tuple [.Name na pa, .Name nb pb, .Name nc pc] k q] (.Tuple [e0, e1, e2] k' q') p) (multi [(x, true), (y, false), (z, false)] [f0, f1, f2]) := fun A env F W ρ s ρ' fl R I w => by
  obtain ⟨ds, w1, w⟩ := ob_some w
  obtain ⟨d0, q0, w1⟩ := ob_some w1
  obtain ⟨ds1, w2, w1⟩ := ob_some w1
  obtain ⟨d1, q1, w2⟩ := ob_some w2
  obtain ⟨ds2, w3, w2⟩ := ob_some w2
  obtain ⟨d2, q2, w3⟩ := ob_some w3
  cases w3
  cases w2
  cases w1
  obtain ⟨ρ₁, w4, w⟩ := ob_some w
  cases w4
  cases w
  subst hx hy hz
  have hloc : ∃ o, s.heap.get? env.locals = some o := (I.off _ I.wl).2
  have hcal := I.cal
  rcases hw env with hw | hw
  · refine Assign_Tuple (wpAny_mono (tup_own h0 h1 h2 s0 s1 s2 R I q0 q1 q2) (fun v s₁ w => ?_) fun _ _ z => z) (hs env) hw
    obtain ⟨F₁, a, v1, v2, t, rfl, ht, e₁, g₁, ow, hf, r1, r2⟩ := w
    have I₁ := I.ev e₁ g₁
    refine wpAny_assign_Tuple R.handled ht rfl rfl fun h' hx => ?_
    obtain ⟨G1, G2⟩ := grown (s' := { s₁ with heap := h' }) g₁ (extBut_keep hx) rfl g₁.gens
    obtain ⟨oa, ha⟩ := Own.ex ow
    have fe := foot_keeps ha (G1.keep' _ _ ha)
    have I₂ := I₁.ev G1 G2
    have ow₂ := Own.keeps ow Sub.refl fun c _ o e => G1.keep' c o e
    show wpAny C.M A (holding _ (assign (.Name (T.nm x) pa) env (.ref a)) >>= fun _ => assignInOrder _ _) _ _ _
    refine wpAny_bind (wpAny_holding (wpAny_assign_Name (I₂.store_own2 (e₁.of_ev.trans G1.of_ev) hloc hcal lx ow₂ (fun b hb => ?_) fun s₃ W₃ I₃ x₃ => ?_)))
    · rw [fe] at hb
      obtain ⟨p1, p2, o, p3⟩ := hf b hb
      exact ⟨p1, p2, own_here (F' := F) (s' := s) I p1, o, G1.keep' _ _ p3⟩
    · show wpAny C.M A (holding _ (assign (.Name (T.nm y) pb) env v1) >>= fun _ => assignInOrder _ _) _ _ _
      refine wpAny_bind (wpAny_holding (wpAny_assign_Name (I₃.store_val ly r1 fun s₄ I₄ x₄ => ?_)))
      show wpAny C.M A (holding _ (assign (.Name (T.nm z) pc) env v2) >>= fun _ => assignInOrder _ _) _ _ _
      refine wpAny_bind (wpAny_holding (wpAny_assign_Name (I₄.store_val lz r2 fun s₅ I₅ x₅ => ?_)))
      exact wpAny_pure ⟨F₁, W₃, x₃.trans (x₄.trans x₅), I₅, trivial⟩
  · refine Assign_Tuple_swapped (wpAny_mono (tup_own h0 h1 h2 s0 s1 s2 R I q0 q1 q2) (fun v s₁ w => ?_) fun _ _ z => z) (hs env) hw
    obtain ⟨F₁, a, v1, v2, t, rfl, ht, e₁, g₁, ow, hf, r1, r2⟩ := w
    have I₁ := I.ev e₁ g₁
    rw [show ([T.nm x, T.nm y, T.nm z] : List Str).length = (#[Value.ref a, v1, v2] : Array Value).size from rfl]
    refine wpAny_unpackItems_tuple R.handled ht fun h' hx => ?_
    obtain ⟨G1, G2⟩ := grown (s' := { s₁ with heap := h' }) g₁ (extBut_keep hx) rfl g₁.gens
    obtain ⟨oa, ha⟩ := Own.ex ow
    have fe := foot_keeps ha (G1.keep' _ _ ha)
    have I₂ := I₁.ev G1 G2
    show wpAny C.M A (holding _ (bindName env (T.nm z) v2) >>= fun _ => assignInOrder _ _) _ _ _
    refine wpAny_bind (wpAny_holding (wpAny_bindName (I₂.store_val lz r2 fun s₃ I₃ x₃ => ?_)))
    show wpAny C.M A (holding _ (bindName env (T.nm y) v1) >>= fun _ => assignInOrder _ _) _ _ _
    refine wpAny_bind (wpAny_holding (wpAny_bindName (I₃.store_val ly r1 fun s₄ I₄ x₄ => ?_)))
    have x₃₄ := x₃.trans x₄
    have nw : ∀ b ∈ foot h' a, ¬ W b := fun b hb w => by
      rw [fe] at hb
      obtain ⟨o, ho⟩ := (I.off b w).2
      rw [(hf b hb).1] at ho; cases ho
    have kp : ∀ b ∈ foot h' a, ∀ o, h'.get? b = some o → s₄.heap.get? b = some o := fun b hb o e => x₃₄.keep b o e (nw b hb)
    have ha' := G1.keep' _ _ ha
    have fe4 : foot s₄.heap a = foot h' a := foot_keeps ha' (kp a mem_foot _ ha')
    have ow₄ : Own C F₁ s₄.heap a d0 := Own.keeps (Own.keeps ow Sub.refl fun c _ o e => G1.keep' c o e) Sub.refl fun b hb o e => kp b hb o e
    show wpAny C.M A (holding _ (bindName env (T.nm x) (.ref a)) >>= fun _ => assignInOrder _ _) _ _ _
    refine wpAny_bind (wpAny_holding (wpAny_bindName (I₄.store_own2 ((e₁.of_ev.trans G1.of_ev).trans x₃₄) hloc hcal lx ow₄ (fun b hb => ?_) fun s₅ W₅ I₅ x₅ => ?_)))
    · rw [fe4] at hb
      have nb := nw b hb
      rw [fe] at hb
      obtain ⟨p1, p2, o, p3⟩ := hf b hb
      exact ⟨p1, p2, nb, o, kp b (by rw [fe]; exact hb) _ (G1.keep' _ _ p3)⟩
    · refine wpAny_pure ⟨F₁, W₅, x₅, I₅.congr fun u sl g => ?_, trivial⟩
      rw [get_put, get_put, get_put] at g
      rw [get_put, get_put, get_put]
      by_cases hux : u = x
      · subst hux; rw [if_neg nxz, if_neg nxy, if_pos rfl] at g; rw [if_pos rfl]; exact g
      · rw [if_neg hux]
        by_cases huz : u = z
        · subst huz; rw [if_pos rfl] at g; rw [if_neg (Ne.symm nyz), if_pos rfl]; exact g
        · rw [if_neg huz] at g
          by_cases huy : u = y
          · subst huy; rw [if_pos rfl] at g; rw [if_pos rfl]; exact g
          · rw [if_neg huy, if_neg hux] at g; rw [if_neg huy, if_neg huz]; exact g
end Mine.MI
end
-- MiLb
section
namespace Mine.MI
variable {C : Cx} {n : Nat} {T T' : St}

theorem mem_ok {α : Type} [BEq α] [LawfulBEq α] {a : α} {l : List α} (h : l.contains a = true) : a ∈ l := List.contains_iff_mem.mp h
theorem inter_ok : ∀ env : Env, env.scope.kind = .function → interactive env = false := fun env h => by unfold interactive; rw [h]; rfl
theorem e_var {x : Str} {i : Nat} {p : Pos} (h : (x == T.nm i && !(x == ("__debug__" : Str)) && !(x == ("__classdict__" : Str))) = true) : SemE C n T (.Name x p) (var i) := by
  simp only [Bool.and_eq_true, Bool.not_eq_true'] at h
  exact sem_var (beq_iff_eq.mp h.1.1) h.1.2 h.2
theorem e_str {x : Str} {l : List Nat} {k : Nat} {p : Pos} (h : (x == toS l && l.all fun c => Nat.blt c 0x110000) = true) : SemE C n T (.Constant (.str x) k p) (cStr l) := by
  simp only [Bool.and_eq_true] at h
  exact sem_str (beq_iff_eq.mp h.1) h.2
theorem g_len : ∀ P, nsIn (K P) mainGlobals ("len" : Str) = some none := fun P => by kernel_rfl
theorem g_sum : ∀ P, nsIn (K P) mainGlobals ("sum" : Str) = some none := fun P => by kernel_rfl
theorem g_max : ∀ P, nsIn (K P) mainGlobals ("max" : Str) = some none := fun P => by kernel_rfl
theorem g_tuple : ∀ P, nsIn (K P) mainGlobals ("tuple" : Str) = some none := fun P => by kernel_rfl
theorem g_range : ∀ P, nsIn (K P) mainGlobals ("range" : Str) = some none := fun P => by kernel_rfl
theorem e_len {e : Expr} {q p : Pos} {f : D} (hx : ("len" : Str) ∈ T.globs) (h : SemE C n T e f) (hs : ∀ env, starEach [e] env = (false, eval e env) :: starEach [] env) : SemE C n T (.Call (.Name "len" q) [e] [] p) (un lenV f) :=
  sem_builtin1 (by kernel_rfl) g_len (by decide) (by decide) hx op_len h hs
theorem e_sum {e : Expr} {q p : Pos} {f : D} (hx : ("sum" : Str) ∈ T.globs) (h : SemE C n T e f) (hs : ∀ env, starEach [e] env = (false, eval e env) :: starEach [] env) : SemE C n T (.Call (.Name "sum" q) [e] [] p) (un sumV f) :=
  sem_builtin1 (by kernel_rfl) g_sum (by decide) (by decide) hx op_sum h hs
theorem e_max1 {e : Expr} {q p : Pos} {f : D} (hx : ("max" : Str) ∈ T.globs) (h : SemE C n T e f) (hs : ∀ env, starEach [e] env = (false, eval e env) :: starEach [] env) : SemE C n T (.Call (.Name "max" q) [e] [] p) (un max1 f) :=
  sem_builtin1 (by kernel_rfl) g_max (by decide) (by decide) hx op_max1 h hs
theorem e_max2 {e1 e2 : Expr} {q p : Pos} {f g : D} (hx : ("max" : Str) ∈ T.globs) (h1 : SemE C n T e1 f) (h2 : SemE C n T e2 g) (hs : ∀ env, starEach [e1, e2] env = (false, eval e1 env) :: starEach [e2] env) (hs2 : ∀ env, starEach [e2] env = (false, eval e2 env) :: starEach [] env) :
    SemE C n T (.Call (.Name "max" q) [e1, e2] [] p) (bop max2 f g) := sem_max2 (by kernel_rfl) g_max hx h1 h2 hs hs2
theorem e_tuple {e : Expr} {q p : Pos} {f : D} (hx : ("tuple" : Str) ∈ T.globs) (h : SemE C n T e f) (hs : ∀ env, starEach [e] env = (false, eval e env) :: starEach [] env) : SemE C n T (.Call (.Name "tuple" q) [e] [] p) (un tupV f) :=
  sem_type1 (by kernel_rfl) g_tuple (by decide) (by decide) hx op_tuple h hs
theorem i_range1 {t e : Expr} {q p : Pos} {f : D} (hx : ("range" : Str) ∈ T.globs) (h : SemE C n T e f) (hs : ∀ env, starEach [e] env = (false, eval e env) :: starEach [] env) : SemI C n T t (.Call (.Name "range" q) [e] [] p) (range1 f) := semI_range1 hx g_range h hs
theorem i_range2 {t e1 e2 : Expr} {q p : Pos} {f g : D} (hW : C.P.W < 2 ^ 62) (hx : ("range" : Str) ∈ T.globs) (h1 : SemE C n T e1 f) (h2 : SemE C n T e2 g)
    (hs : ∀ env, starEach [e1, e2] env = (false, eval e1 env) :: starEach [e2] env) (hs2 : ∀ env, starEach [e2] env = (false, eval e2 env) :: starEach [] env) : SemI C n T t (.Call (.Name "range" q) [e1, e2] [] p) (range2 f g) := semI_range2 hW hx g_range h1 h2 hs hs2
theorem e_attr {x nm : Str} {f : Nat} {q p : Pos} {g : D} (hn : nm = fieldNm f) (hf : f < 5) (ho : SemE C n T (.Name x q) g) : SemE C n T (.Attribute (.Name x q) nm p) (attr g f) :=
  sem_attr hn hf ho fun env M A Q E s h => Attribute_name h
theorem g_cls : ∀ P, nsIn (K P) mainGlobals ("Whitespace" : Str) = some (some (.ref 76)) := fun P => by kernel_rfl
theorem e_clsS {q p : Pos} (hx : ("Whitespace" : Str) ∈ T.globs) : SemE C n T (.Attribute (.Name ("Whitespace" : Str) q) "S" p) (cStr [32]) :=
  sem_cls hx g_cls (fun P => ⟨202, by kernel_rfl⟩) rfl fun env M A Q E s h => Attribute_name h
theorem e_clsT {q p : Pos} (hx : ("Whitespace" : Str) ∈ T.globs) : SemE C n T (.Attribute (.Name ("Whitespace" : Str) q) "T" p) (cStr [9]) :=
  sem_cls hx g_cls (fun P => ⟨203, by kernel_rfl⟩) rfl fun env M A Q E s h => Attribute_name h

noncomputable def frB (T : St) (scope : Scope) : Bool :=
  decide T.nms.Nodup && scope.kind == .function && !scope.isGenerator && !scope.isCoroutine && (T.globs.all fun g => scope.names.lookup g == some .globalImplicit) && (T.cells.all fun x => scope.names.lookup (T.nm x) == some .cell) &&
  (T.locs.all fun x => decide (x < T.nms.length) && (scope.names.lookup (T.nm x) == some .local || scope.names.lookup (T.nm x) == some .cell))
theorem frOk {scope : Scope} (h : frB T scope = true) : FrOk T scope := by
  simp only [frB, Bool.and_eq_true, List.all_eq_true, Bool.or_eq_true, decide_eq_true_eq, beq_iff_eq, Bool.not_eq_true'] at h
  obtain ⟨⟨⟨⟨⟨⟨h1, h2⟩, h3⟩, h4⟩, h5⟩, h6⟩, h7⟩ := h
  exact ⟨h1, h2, h3, h4, h5, h6, h7⟩
theorem FrOk.pinned {scope : Scope} {x : Nat} {a : Addr} (h : FrOk T scope) : FrOk (T.pinned x a) scope := ⟨h.1, h.2, h.3, h.4, h.5, h.6, h.7⟩
noncomputable def scB (T T' : St) (cap : List Nat) (scope : Scope) : Bool :=
  T'.nms == T.nms && scope.kind == .function && (scope.names.all fun x => (x.2 != .local || scope.names.lookup x.1 == some .local) && x.2 != .cell && (x.2 != .free || cap.any fun y => x.1 == T.nm y)) &&
  (cap.all fun y => T.cells.contains y && scope.names.contains (T.nm y, NameKind.free) && scope.names.lookup (T.nm y) == some .free) && (T'.globs.all fun g => scope.names.lookup g == some .globalImplicit) &&
  (T'.locs.all fun x => decide (x < T.nms.length) && scope.names.lookup (T.nm x) == some .local) && T'.cells == []
theorem scOk {cap : List Nat} {scope : Scope} (h : scB T T' cap scope = true) (hp : T'.pin = none) : ScOk T T' cap scope := by
  simp only [scB, Bool.and_eq_true, List.all_eq_true, Bool.or_eq_true, decide_eq_true_eq, beq_iff_eq, List.any_eq_true, List.contains_iff_mem, bne_iff_ne, ne_eq] at h
  obtain ⟨⟨⟨⟨⟨⟨h1, h2⟩, h3⟩, h4⟩, h5⟩, h6⟩, h7⟩ := h
  refine ⟨h1, h2, fun x hx hl => ?_, fun x hx => (h3 x hx).1.2, fun x hx hf => ?_, fun y hy => let ⟨⟨a, b⟩, c⟩ := h4 y hy; ⟨a, b, c⟩, h5, h6, h7, hp⟩
  · exact (h3 x hx).1.1.resolve_left fun q => q hl
  · obtain ⟨y, hy, e⟩ := (h3 x hx).2.resolve_left fun q => q hf
    exact ⟨y, hy, e⟩
theorem sem_meth0 {m : Nat} {o : Expr} {nm : Str} {fa : Addr} {apos p : Pos} {fo : D} {g : List V → Option V} (hmn : m ≤ n) (hf : SemF C m fa g) (hm : MForm o nm apos [] p) (hg : ∀ P, findIn (K P) (.ref 76) nm = some (some (.ref fa)))
    (ht : ∀ P, isFn (K P) (.ref fa) = true) (hk : ∀ P, keepIn (K P) (.ref fa) = true) (hn : ([0, 1, 2, 3, 4].all fun i => !(fieldNm i == nm)) = true)
    (ho : SemE C n T o fo) : SemE C n T (.Call (.Attribute o nm apos) [] [] p) (callM g fo []) := fun A env F W ρ s d R I z => by
  unfold callM at z
  split at z
  rotate_left
  · cases z
  rename_i xs ex
  obtain ⟨ds', e2, z⟩ := ob_some z
  cases e2
  refine wp_meth hm ho R I ex fun pl ov F₁ s₁ e₁ h₁ r₁ => ?_
  obtain ⟨a, ox, es', k, rfl, X, hk', hr⟩ := instAt h₁ r₁
  refine method_fn h₁.K X (plainGet_of (k_get _)).1 (plainGet_of (k_get _)).2 (hg _) (beq_iff_eq.mp (ht _)) (by show (lookIn nm (dictOf es' k)).map _ = _; rw [lookIn_dict, noShadow (F := F₁) nm hn hk']; rfl) ?_
  refine callWith_K0 h₁.K (hk _) ?_
  exact wpAny_mono (hf A F₁ s₁ [.obj xs] [.ref a] d (R.mono hmn) h₁ (by simp only [RdL]; exact ⟨_, _, rfl, r₁, rfl⟩) z) (fun v s₃ w => Ret.trans e₁ w) fun _ _ z => z
end Mine.MI
end
-- MiOr
section
namespace Mine.MI
variable {C : Cx} {n : Nat} {T T' : St}

theorem SemE.conv {e : Expr} {f g : D} (h : SemE C n T e f) (hc : ∀ ρ d, g ρ = some d → ∃ d', f ρ = some d' ∧ ∀ F v, Rd C F d' v → Rd C F d v) : SemE C n T e g := fun A env F W ρ s d R I e => by
  obtain ⟨d', e', hr⟩ := hc ρ d e
  exact wpAny_mono (h A env F W ρ s d' R I e') (fun v s' q => let ⟨F', v', h', r'⟩ := q; ⟨F', v', h', hr F' v r'⟩) fun _ _ z => z

noncomputable def md : V → V → Option V
  | .int a, .int (.ofNat b) => chk (Nat.blt 0 b) (some (.int (a % Int.ofNat b)))
  | _, _ => none
theorem op_mod : OpS C n (binaryOp .Mod) md := fun A F s x y a b d R H rx ry e => by
  unfold md at e
  split at e
  · obtain ⟨hk, e⟩ := chk_some e
    cases e
    have hk := Nat.le_of_ble_eq_true hk
    simp only [Rd] at rx ry
    obtain ⟨t, rfl⟩ := rx
    obtain ⟨u, rfl⟩ := ry
    refine PyProof.Rows.mod_int' (by simp; omega) ?_
    rw [Int.fmod_eq_emod_of_nonneg _ (by simp)]
    exact Ret.tok H (rd_int _ _) _
  · cases e
noncomputable def chrV : V → Option V
  | .int (.ofNat c) => chk (Nat.blt c 0x110000) (some (.str [c]))
  | _ => none
theorem op_chr : OpU C n (fun v => PySem.call (.builtin "chr") [v]) chrV := fun A F s x a d R H rx e => by
  unfold chrV at e
  split at e
  · rename_i c
    obtain ⟨hk, e⟩ := chk_some e
    cases e
    have hk := Nat.le_of_ble_eq_true hk
    simp only [Rd] at rx
    obtain ⟨t, rfl⟩ := rx
    refine P.chr_of_int (by simp; omega) ?_
    exact Ret.tok H (by simp only [Rd]; exact ⟨fun x hx => by simp at hx; omega, s.toks, rfl⟩) _
  · cases e
theorem g_chr : ∀ P, nsIn (K P) mainGlobals ("chr" : Str) = some none := fun P => by kernel_rfl
theorem g_list : ∀ P, nsIn (K P) mainGlobals ("list" : Str) = some none := fun P => by kernel_rfl
theorem e_chr {e : Expr} {q p : Pos} {f : D} (hx : ("chr" : Str) ∈ T.globs) (h : SemE C n T e f) (hs : ∀ env, starEach [e] env = (false, eval e env) :: starEach [] env) : SemE C n T (.Call (.Name "chr" q) [e] [] p) (un chrV f) :=
  sem_builtin1 (by kernel_rfl) g_chr (by decide) (by decide) hx op_chr h hs
noncomputable def rangeLst : V → V → Option V
  | .int (.ofNat a), .int (.ofNat b) => chk (Nat.ble a lim && Nat.ble b lim && Nat.ble b (a + 1000)) (some (.lst (rangeL a (b - a))))
  | _, _ => none
theorem rdL_of_get {F : Fn} : ∀ {xs : List V} {vs : List Value}, vs.length = xs.length → (∀ (j : Nat) x v, xs[j]? = some x → vs[j]? = some v → Rd C F x v) → RdL C F xs vs
  | [], [], _, _ => by simp [RdL]
  | [], _ :: _, h, _ => by simp at h
  | _ :: _, [], h, _ => by simp at h
  | x :: xs, v :: vs, h, hr => by
    simp only [RdL]
    exact ⟨v, vs, rfl, hr 0 x v rfl rfl, rdL_of_get (by simpa using h) fun j x v e1 e2 => hr (j + 1) x v (by simpa using e1) (by simpa using e2)⟩
theorem e_listrange {e1 e2 : Expr} {q q' p p' : Pos} {f g : D} (hl : ("list" : Str) ∈ T.globs) (hx : ("range" : Str) ∈ T.globs) (h1 : SemE C n T e1 f) (h2 : SemE C n T e2 g)
    (hs : ∀ env, starEach [e1, e2] env = (false, eval e1 env) :: starEach [e2] env) (hs2 : ∀ env, starEach [e2] env = (false, eval e2 env) :: starEach [] env)
    (hs3 : ∀ env, starEach [.Call (.Name "range" q') [e1, e2] [] p'] env = (false, eval (.Call (.Name "range" q') [e1, e2] [] p') env) :: starEach [] env) :
    SemE C n T (.Call (.Name "list" q) [.Call (.Name "range" q') [e1, e2] [] p'] [] p) (bop rangeLst f g) := fun A env F W ρ s d R I z => by
  obtain ⟨x, ex, z⟩ := ob_some z
  obtain ⟨y, ey, z⟩ := ob_some z
  obtain ⟨a, rfl⟩ : ∃ a, x = .int (.ofNat a) := by unfold rangeLst at z; split at z <;> first | exact ⟨_, rfl⟩ | cases z
  obtain ⟨b, rfl⟩ : ∃ b, y = .int (.ofNat b) := by unfold rangeLst at z; split at z <;> first | exact ⟨_, rfl⟩ | cases z
  obtain ⟨hk, z⟩ := chk_some (b := Nat.ble a lim && Nat.ble b lim && Nat.ble b (a + 1000)) z
  cases z
  simp only [Bool.and_eq_true] at hk
  have k1 := Nat.le_of_ble_eq_true hk.1.1
  have k2 := Nat.le_of_ble_eq_true hk.1.2
  have k3 := Nat.le_of_ble_eq_true hk.2
  have hlim : lim = 1048576 := rfl
  refine Call_Name rfl (wp_builtin g_list (v := .type "list") (by rfl) (by decide) (by decide) I hl ?_)
  refine callWith_type1 (args_cons (Call_Name rfl (wp_builtin g_range (v := .type "range") (by rfl) (by decide) (by decide) I hx ?_)) (hs3 env)) (hs3 env) (by rfl)
  refine callWith_type1 (args_cons (wpAny_mono (h1 A env F W ρ s _ R I ex) (fun v s₁ q => ?_) fun _ _ z => z) (hs env)) (hs env) (by rw [hs2 env]; rfl)
  obtain ⟨F₁, v₁, H₁, r₁⟩ := q
  refine args_cons (wpAny_mono (h2 A env F₁ W ρ s₁ _ R (I.ev v₁ H₁) ey) (fun u s₂ q => args_nil ?_) fun _ _ z => z) (hs2 env)
  obtain ⟨F₂, v₂, H₂, r₂⟩ := q
  simp only [Rd] at r₁ r₂
  obtain ⟨ta, rfl⟩ := r₁
  obtain ⟨tb, rfl⟩ := r₂
  refine call_range_2 (args_nil ?_)
  have G := grown (s' := { s₂ with heap := s₂.heap.push { cls := .type "range", data := .fields #[.int (.ofNat a) ta, .int (.ofNat b) tb, .int 1 s₂.toks] }, toks := s₂.toks + 1 }) H₂ (fun _ _ e => Heap.get?_push_of_some _ e) rfl H₂.gens
  refine call_list_range (n := b - a) R.handled (IsRange.new _ _ _ _ _ _ _) (small_one (by simp only [Int.ofNat_eq_natCast]; omega) (by simp only [Int.ofNat_eq_natCast]; omega) (by simp only [Int.ofNat_eq_natCast]; omega) (by simp only [Int.ofNat_eq_natCast]; omega))
    (by rw [rangeSize_one]; simp only [Int.ofNat_eq_natCast]; split <;> omega) (by omega) fun h' tk acc' c' hk' ho hi => ?_
  have T3 := take_up (s' := { s₂ with heap := h', toks := tk }) G.2 (get?_size _) ho hk' rfl H₂.gens
  refine ⟨_, Sp.trans (Sp.trans v₁ v₂) (Sp.trans G.1 T3.1), T3.2, rd_list_new (xs := rangeL a (b - a)) (vs := acc'.toList) (k := c') (by rw [Array.toArray_toList]; exact Fn.put_self) (rdL_of_get ?_ fun j x v e1 e2 => ?_)⟩
  · rw [rangeL_length]; simpa using hi.1
  · rw [rangeL_get e1]
    obtain ⟨t, rfl⟩ := hi.2 j v (by rw [← Array.getElem?_toList]; exact e2)
    simp only [Rd]
    exact ⟨t, by simp⟩

/-- the script, as a list of numbers -/
noncomputable def scrL (l : List Int) (i : Nat) : D := fun ρ => match get i ρ with | some (.val .scr) => some (.lst (l.map .int)) | _ => none
theorem rdL_ints {F : Fn} : ∀ {vs : List Value} {l : List Int}, IntsAre vs l → RdL C F (l.map V.int) vs
  | _, _, .nil => by simp [RdL]
  | _, _, .cons k t h => by simp only [List.map_cons, RdL]; exact ⟨_, _, rfl, rd_int _ _, rdL_ints h⟩
theorem e_scr {x : Str} {i : Nat} {p : Pos} (h : (x == T.nm i && !(x == ("__debug__" : Str)) && !(x == ("__classdict__" : Str))) = true) : SemE C n T (.Name x p) (scrL C.P.script i) := fun A env F W ρ s d R I e => by
  unfold scrL at e
  split at e
  · rename_i g
    cases e
    refine wpAny_mono (e_var h A env F W ρ s .scr R I (by unfold var; rw [g])) (fun v s' q => ?_) fun _ _ z => z
    obtain ⟨F', v', h', r'⟩ := q
    refine ⟨F', v', h', ?_⟩
    simp only [Rd] at r' ⊢
    obtain ⟨a, o, vs, m, h1, h2, h3, h4, h5⟩ := r'
    exact ⟨a, o, vs, m, h1, h2, h3, h4, rdL_ints h5⟩
  · cases e
/-- script[k::3] -/
noncomputable def scrStep (l : List Int) (i k : Nat) : D := fun ρ => match get i ρ, get k ρ with
  | some (.val .scr), some (.val (.int k)) => some (.lst ((pickNums l (some k) none (some 3)).map .int))
  | _, _ => none
theorem e_step {x y : Str} {i k : Nat} {p p' q q' : Pos} {z : Nat} (hl : C.P.script.length ≤ 10000) (h : (x == T.nm i && !(x == ("__debug__" : Str)) && !(x == ("__classdict__" : Str))) = true) (h' : (y == T.nm k && !(y == ("__debug__" : Str)) && !(y == ("__classdict__" : Str))) = true) :
    SemE C n T (.Subscript (.Name x p) (.Slice (some (.Name y p')) none (some (.Constant (.int 3) z q')) q) p'') (scrStep C.P.script i k) := fun A env F W ρ s d R I e => by
  unfold scrStep at e
  split at e
  · rename_i j g1 g2
    cases e
    refine Subscript_ (wpAny_mono (e_var h A env F W ρ s .scr R I (by unfold var; rw [g1])) (fun a s₁ w => ?_) fun _ _ z => z)
    obtain ⟨F₁, e₁, H₁, r₁⟩ := w
    have I₁ := I.ev e₁ H₁
    refine wpAny_Slice (wpAny_mono (part_some R (e_var h') I₁ (by unfold var; rw [g2])) (fun vl s₂ w => ?_) fun _ _ z => z)
    obtain ⟨F₂, e₂, H₂, r₂⟩ := w
    have I₂ := I₁.ev e₂ H₂
    rw [evalPart_none]
    refine wpAny_pure (wpAny_mono (part_some R (sem_int (T := T) (n := n)) I₂ rfl) (fun vk s₃ w => ?_) fun _ _ z => z)
    obtain ⟨F₃, e₃, H₃, r₃⟩ := w
    simp only [PartOf, Rd] at r₂ r₃
    obtain ⟨tl, rfl⟩ := r₂
    obtain ⟨tk, rfl⟩ := r₃
    have r₁ := (r₁.mono e₂.sub).mono e₃.sub
    simp only [Rd] at r₁
    obtain ⟨a', o, vs, m, rfl, w1, w2, w3, w4⟩ := r₁
    have l1 : s₃.heap.IsList a' vs := ⟨o, H₃.inn _ _ w1, w2, m, w3⟩
    have hz : vs.size = C.P.script.length := by have := w4.length; simpa using this
    obtain ⟨g1', g2'⟩ := grown (s' := { s₃ with heap := s₃.heap.push { cls := .type "slice", data := .fields #[.int j tl, .none, .int 3 tk] } }) H₃ (fun _ _ e => Heap.get?_push_of_some _ e) rfl H₃.gens
    refine tail_any (Heap.IsList.typeIs (s := { s₃ with heap := s₃.heap.push { cls := .type "slice", data := .fields #[.int j tl, .none, .int 3 tk] } }) (l1.push _)) list_getitem_lookup
      (wpAny_getItem_list_slice (lo := some j) (hi := none) (st := some 3) (l1.push _) (Heap.IsSliceOf.new ..) (.int _ _) .none (.int _ _) (by simp) ?_ (by rw [hz]; show _ ≤ 2 ^ 24; omega)) rfl
    obtain ⟨x1, x2⟩ := pushed g2' { cls := .type "list", data := .seq (slicePick vs (some j) none (some 3)) } rfl s₃.toks
    refine ⟨_, Sp.trans e₁ (Sp.trans e₂ (Sp.trans e₃ (Sp.trans g1' x1))), x2, ?_⟩
    have pk := IntsAre.pick w4 (some j) none (some 3)
    simp only [Array.toArray_toList] at pk
    simp only [Rd]
    exact ⟨_, _, slicePick vs (some j) none (some 3), 0, rfl, Fn.put_self, rfl, rfl, rdL_ints pk⟩
  · cases e
end Mine.MI
end
-- MiEn
section
namespace Mine.MI
variable {C : Cx} {n : Nat} {T T' : St}

/-- a walk of the library that hands out tuples of its own making -/
theorem nx_walkT {elts : List Expr} {k0 : Nat} {pos : Pos} {A : Around} {I : Addr} {fp wr : List Addr} {k : Nat} {Pt : Nat → Array Value → Prop} {St : Nat → Heap → Prop} {Mid : Nat → Addr → Heap → Prop} (W : WalksT pg C.w A I fp wr k Pt St Mid)
    (hal : ∀ i h, St i h → ∀ b ∈ wr, ∃ o, h.get? b = some o) :
    ∀ (ds : List V) (i : Nat) (F : Fn) (h : Heap), i + ds.length = k → St i h → (∀ b ∈ fp, b ∉ wr → ∃ o, F b = some o ∧ h.get? b = some o) → (∀ j d vals, ds[j]? = some d → Pt (i + j) vals → ∃ xs, d = .tup xs ∧ RdL C F xs vals.toList) →
      Nx C A (.Tuple elts k0 pos) (.ref I) (· ∈ wr) ds F h := by
  have frame : ∀ {i : Nat} {F F₁ : Fn} {h : Heap} {s : Shared}, St i h → (∀ b ∈ fp, b ∉ wr → ∃ o, F b = some o ∧ h.get? b = some o) → Sub F F₁ → Hp C F₁ s → (∀ b ∈ wr, s.heap.get? b = h.get? b) → St i s.heap := by
    intro i F F₁ h s st hf hs hh hw
    refine W.frame i h _ st fun b hb o e => ?_
    by_cases q : b ∈ wr
    · rw [hw b q]; exact e
    · obtain ⟨o', e1, e2⟩ := hf b hb q
      rw [e2] at e; cases e
      exact hh.inn _ _ (hs _ _ e1)
  intro ds
  induction ds with
  | nil =>
    intro i F h hl st hfp hP s F₁ Q E hs hh hf hw hQ
    have hl : i = k := by simpa using hl
    subst hl
    exact W.done s Q E (frame st hfp hs hh hw) fun h' tk hk => hQ _ ⟨Sub.refl, ⟨fun a o e => hk a o (fun q => by rw [hf a q] at e; cases e) (hh.inn _ _ e), hh.base, hh.os, hh.gens⟩, fun _ _ e => .inl e, fun b o e q => hk b o q e⟩
  | cons d ds ih =>
    intro i F h hl st hfp hP s F₁ Q E hs hh hf hw hQ
    have hl : i + (ds.length + 1) = k := by simpa using hl
    refine W.item i s Q E (by omega) (frame st hfp hs hh hw) fun Ta vals h' tk hv hT ht hmid hk => ?_
    refine hQ (.ref Ta) _ fun Q' E' k' => W.go elts k0 pos i Ta _ Q' E' hmid fun h'' st' hk2 => ?_
    obtain ⟨o, ho, hc, m, hd⟩ := ht
    have hTw := W.apart _ _ _ hmid
    have ho' : h''.get? Ta = some o := hk2 Ta o hTw ho
    have hTn : s.heap.get? Ta = none := by
      cases e : s.heap.get? Ta with
      | none => rfl
      | some o' => exact absurd (Heap.lt_size e) (Nat.not_lt.mpr hT)
    have hFn : F₁ Ta = none := hh.none_of hTn
    have keep : ∀ b o, b ∉ wr → s.heap.get? b = some o → h''.get? b = some o := fun b o hb e => hk2 b o hb (hk b o hb e)
    have sub : Sub F₁ (F₁.put Ta o) := Sub.put hFn
    refine k' (F₁.put Ta o) _ ⟨sub, ⟨fun a p e => ?_, fun a p e => sub _ _ (hh.base a p e), hh.os, hh.gens⟩, fun a p e => ?_, fun b p e hb => keep b p hb e⟩ (fun b hb => hal _ _ st' b hb) ?_
      (ih (i + 1) (F₁.put Ta o) h'' (by omega) st' (fun b hb q => ?_) fun j d' vals' e hv' => ?_)
    · by_cases q : a = Ta
      · subst q; rw [Fn.put_self] at e; cases e; exact ho'
      · rw [Fn.put_ne q] at e
        exact keep a p (fun w => by rw [hf a w] at e; cases e) (hh.inn a p e)
    · by_cases q : a = Ta
      · subst q; exact .inr hTn
      · rw [Fn.put_ne q] at e; exact .inl e
    · obtain ⟨xs, rfl, hr⟩ := hP 0 d vals (by simp) hv
      simp only [Rd]
      exact ⟨Ta, o, vals, m, rfl, Fn.put_self, hc, hd, RdL.mono (hs.trans sub) hr⟩
    · obtain ⟨p, e1, e2⟩ := hfp b hb q
      exact ⟨p, sub _ _ (hs _ _ e1), keep b p q (hh.inn _ _ (hs _ _ e1))⟩
    · obtain ⟨xs, e1, e2⟩ := hP (j + 1) d' vals' (by simpa using e) (by rw [show i + (j + 1) = i + 1 + j by omega]; exact hv')
      exact ⟨xs, e1, RdL.mono (hs.trans sub) e2⟩
theorem enumL_get : ∀ {l : List V} {i j : Nat} {d : V}, (enumL i l)[j]? = some d → ∃ x, l[j]? = some x ∧ d = .tup [.int (.ofNat (i + j)), x]
  | [], _, _, _, e => by simp [enumL] at e
  | x :: r, i, 0, d, e => by simp [enumL] at e; subst e; exact ⟨x, by simp, rfl⟩
  | x :: r, i, j + 1, d, e => by
    simp only [enumL, List.getElem?_cons_succ] at e
    obtain ⟨y, h1, h2⟩ := enumL_get e
    exact ⟨y, by simpa using h1, by rw [h2]; congr 4; omega⟩
theorem enumL_length : ∀ (l : List V) i, (enumL i l).length = l.length
  | [], _ => rfl
  | x :: r, i => by simp [enumL, enumL_length r]
theorem it_enum {elts : List Expr} {k0 : Nat} {pos : Pos} {A : Around} {F : Fn} {s : Shared} {l : List V} {e it : Addr} {fp : List Addr} {k : Nat} {P : Nat → Value → Prop} {St : Nat → Heap → Prop} {h' : Heap} (hh : A.handled = none) (H : Hp C F s) (D : Draws pg C.w A.in1 it fp k P St)
    (hi1 : it = s.heap.objs.size) (he1 : e = s.heap.objs.size + 1) (hef : e ∉ fp) (hif : it ∈ fp) (hfp : ∀ b ∈ fp, b ≠ it → ∃ o, F b = some o) (he : IsEnum h' e it 0 .none) (hst : St 0 h') (hk : ∀ b o, s.heap.get? b = some o → h'.get? b = some o) (hl : l.length = k)
    (hP : ∀ j d v, l[j]? = some d → P j v → Rd C F d v) : wpAny C.M A (pyIter (.ref e)) (ItOk C A (.Tuple elts k0 pos) F s (enumL 0 l)) (fun _ _ => False) { s with heap := h' } := by
  have hei : e ≠ it := by rw [hi1, he1]; exact Nat.succ_ne_self _
  have W := WalksT.enumerateD D e hei hef hif
  obtain ⟨G1, G2⟩ := grown (s' := { s with heap := h' }) H hk rfl H.gens
  have fresh : ∀ b, b ∈ [e, it] → s.heap.get? b = none := fun b hb => by
    simp only [List.mem_cons, List.not_mem_nil, or_false] at hb
    cases q : s.heap.get? b with
    | none => rfl
    | some o =>
      have := Heap.lt_size q
      rcases hb with hb | hb
      · rw [hb, he1] at this; exact absurd this (Nat.not_lt.mpr (Nat.le_succ _))
      · rw [hb, hi1] at this; exact absurd this (Nat.lt_irrefl _)
  have st0 : (∃ old, IsEnum h' e it ((0 : Nat) : Int) old) ∧ St 0 h' := ⟨⟨_, he⟩, hst⟩
  have hal : ∀ (i : Nat) h, ((∃ old, IsEnum h e it (i : Int) old) ∧ St i h) → ∀ b ∈ [e, it], ∃ o, h.get? b = some o := fun i h q b hb => by
    simp only [List.mem_cons, List.not_mem_nil, or_false] at hb
    rcases hb with rfl | rfl
    · obtain ⟨⟨old, w⟩, _⟩ := q; exact ⟨_, w⟩
    · exact D.live _ _ q.2
  have fo : ∀ b ∈ e :: fp, b ∉ [e, it] → ∃ o, F b = some o ∧ h'.get? b = some o := fun b hb q => by
    simp only [List.mem_cons, List.not_mem_nil, or_false, not_or] at q hb
    obtain ⟨o, w⟩ := hfp b (hb.resolve_left q.1) q.2
    exact ⟨o, w, G2.inn _ _ w⟩
  refine W.self 0 _ _ _ st0 ⟨F, (· ∈ [e, it]), G1, G2, nx_walkT W hal (enumL 0 l) 0 F h' (by rw [enumL_length]; omega) st0 fo fun j d vals q pt => ?_, fun s' F₁ Q E hs hh hw hq => ?_, fun b hb => ⟨fresh b hb, H.none_of (fresh b hb), hal 0 h' st0 b hb⟩⟩
  · obtain ⟨x, q1, q2⟩ := enumL_get q
    obtain ⟨t, y, p1, p2⟩ := pt
    subst q2 p2
    refine ⟨_, rfl, ?_⟩
    simp only [RdL]
    exact ⟨_, _, rfl, by simp only [Rd]; exact ⟨t, by simp⟩, y, [], rfl, hP j x y q1 (by simpa using p1), rfl⟩
  · refine W.self 0 s' Q E (W.frame 0 h' _ st0 fun b hb o e' => ?_) hq
    by_cases q : b ∈ [e, it]
    · rw [hw b q]; exact e'
    · obtain ⟨o', w1, w2⟩ := fo b hb q
      rw [w2] at e'; cases e'
      exact hh.inn _ _ (hs _ _ w1)
theorem g_enum : ∀ P, nsIn (K P) mainGlobals ("enumerate" : Str) = some none := fun P => by kernel_rfl
theorem i_enumL {elts : List Expr} {k0 : Nat} {pos : Pos} {e : Expr} {q p : Pos} {f : D} (hx : ("enumerate" : Str) ∈ T.globs) (h : SemE C n T e f) (hs : ∀ env, starEach [e] env = (false, eval e env) :: starEach [] env) :
    SemI C n T (.Tuple elts k0 pos) (.Call (.Name "enumerate" q) [e] [] p) (enumI f) := fun A env F W ρ s ds R I z => by
  obtain ⟨l, el, hl, rfl⟩ : ∃ l, f ρ = some (.lst l) ∧ l.length ≤ 10000 ∧ ds = enumL 0 l := by
    unfold enumI at z
    split at z
    · rename_i l em
      obtain ⟨hk, z⟩ := chk_some z
      cases z
      exact ⟨l, em, Nat.le_of_ble_eq_true hk, rfl⟩
    · cases z
  refine Call_Name rfl (wp_builtin g_enum (v := .type "enumerate") (by rfl) (by decide) (by decide) I hx ?_)
  refine callWith_type1 (args_cons (wpAny_mono (h A env F W ρ s _ R I el) (fun v s₁ w => args_nil ?_) fun _ _ z => z) (hs env)) (hs env) (by rfl)
  obtain ⟨F₁, v₁, H₁, r₁⟩ := w
  simp only [Rd] at r₁
  obtain ⟨a, o, vs, m, rfl, h1, h2, h3, h4⟩ := r₁
  have L : s₁.heap.IsList a vs := ⟨o, H₁.inn _ _ h1, h2, m, h3⟩
  have hne : a ≠ s₁.heap.objs.size := Nat.ne_of_lt (Heap.lt_size (H₁.inn _ _ h1))
  refine call_enumerate_list L fun h' he hit hsz hk => ?_
  refine wpAny_mono (it_enum (elts := elts) (k0 := k0) (pos := pos) (l := l) R.handled H₁ (Draws.list (A := A.in1) R.handled s₁.heap.objs.size a hne vs) rfl rfl ?_ (by simp) (fun b hb q => ?_) he ⟨hit, o, hk _ _ (H₁.inn _ _ h1), h2, m, h3⟩ hk (by simpa using (length_of_rdL h4).symm) fun j d v e1 p1 => ?_) (fun it s₂ w => ItOk.back v₁ w) fun _ _ z => z
  · intro hm
    simp only [List.mem_cons, List.not_mem_nil, or_false] at hm
    rcases hm with q | q
    · exact absurd q (Nat.succ_ne_self _)
    · have := Heap.lt_size (H₁.inn _ _ h1); rw [← q] at this; exact absurd this (Nat.not_lt.mpr (Nat.le_succ _))
  · simp only [List.mem_cons, List.not_mem_nil, or_false] at hb
    rcases hb with rfl | rfl
    · exact absurd rfl q
    · exact ⟨o, h1⟩
  · obtain ⟨v', g1, g2⟩ := rdL_get h4 e1
    have p1 : vs[j]? = some v := p1
    rw [← Array.getElem?_toList, g1] at p1
    cases p1
    exact g2
end Mine.MI
end
-- MiGn
section
namespace Mine.MI
variable {C : Cx} {n : Nat} {T T' : St}

noncomputable def Cx.withGp (C : Cx) (f : Nat → Option GenState) : Cx := { C with gp := f }
noncomputable def Cx.pin (C : Cx) (g : Nat) (gs : GenState) : Cx := C.withGp fun i => if i = g then some gs else C.gp i
mutual
theorem Rd.regp (f : Nat → Option GenState) {F : Fn} : ∀ {d : V} {v : Value}, Rd C F d v → Rd (C.withGp f) F d v
  | .none, _, h => by simp only [Rd] at h ⊢; exact h
  | .bool _, _, h => by simp only [Rd] at h ⊢; exact h
  | .int _, _, h => by simp only [Rd] at h ⊢; exact h
  | .lin _ _, _, h => by simp only [Rd] at h ⊢; exact h
  | .si _, _, h => by simp only [Rd] at h ⊢; exact h
  | .str _, _, h => by simp only [Rd] at h ⊢; exact h
  | .ss _, _, h => by simp only [Rd] at h ⊢; exact h
  | .scr, _, h => by simp only [Rd] at h ⊢; exact h
  | .tup xs, _, h => by
    simp only [Rd] at h ⊢
    obtain ⟨a, o, vs, n, h1, h2, h3, h4, h5⟩ := h
    exact ⟨a, o, vs, n, h1, h2, h3, h4, RdL.regp f h5⟩
  | .lst xs, _, h => by
    simp only [Rd] at h ⊢
    obtain ⟨a, o, vs, n, h1, h2, h3, h4, h5⟩ := h
    exact ⟨a, o, vs, n, h1, h2, h3, h4, RdL.regp f h5⟩
  | .dct ks xs, _, h => by
    simp only [Rd] at h ⊢
    obtain ⟨a, o, kvs, h1, h2, h3, h4, h5, h6, h7⟩ := h
    exact ⟨a, o, kvs, h1, h2, h3, h4, h5, h6, RdL.regp f h7⟩
  | .obj xs, _, h => by
    simp only [Rd] at h ⊢
    obtain ⟨a, ox, dx, es, n, h1, h2, h3, h4, h5, h6, h7, h8⟩ := h
    exact ⟨a, ox, dx, es, n, h1, h2, h3, h4, h5, h6, h7, RdL.regp f h8⟩
theorem RdL.regp (f : Nat → Option GenState) {F : Fn} : ∀ {xs : List V} {vs : List Value}, RdL C F xs vs → RdL (C.withGp f) F xs vs
  | [], _, h => by simp only [RdL] at h ⊢; exact h
  | x :: xs, _, h => by
    simp only [RdL] at h ⊢
    obtain ⟨v, r, h1, h2, h3⟩ := h
    exact ⟨v, r, h1, Rd.regp f h2, RdL.regp f h3⟩
end
theorem Own.regp (f : Nat → Option GenState) {F : Fn} {h : Heap} {a : Addr} {d : V} (x : Own C F h a d) : Own (C.withGp f) F h a d := by
  cases d <;> first | exact x.elim | skip
  · obtain ⟨vs, n, e, r⟩ := x; exact ⟨vs, n, e, RdL.regp f r⟩
  · obtain ⟨o, kvs, e, r0, r1, r2, r3, r4, r5⟩ := x; exact ⟨o, kvs, e, r0, r1, r2, r3, r4, RdL.regp f r5⟩
  · obtain ⟨ox, dx, es, n, e, r1, r2, r3, r4, r5, r6, r7⟩ := x; exact ⟨ox, dx, es, n, e, r1, r2, r3, r4, r5, r6, RdL.regp f r7⟩
theorem Inv.regp {env : Env} {F : Fn} {W : Addr → Prop} {ρ : Rho} {s s' : Shared} (f : Nat → Option GenState) (I : Inv C T env F W ρ s) (hh : s'.heap = s.heap) (H : Hp (C.withGp f) F s') : Inv (C.withGp f) T env F W ρ s' := by
  refine ⟨H, I.nodup, I.kind, I.gl, I.bi, I.globs, by rw [hh]; exact I.off, I.wl, by rw [hh]; exact I.cal, by rw [hh]; exact I.ns, by rw [hh]; exact I.locs, fun x sl g => ?_, by rw [hh]; exact I.dist, by rw [hh]; exact I.pin⟩
  obtain ⟨h1, h2⟩ := I.vars x sl g
  refine ⟨h1, ?_⟩
  rw [hh]
  cases sl with
  | val d => obtain ⟨v, k1, k2⟩ := h2; exact ⟨v, k1, Rd.regp f k2⟩
  | own d => obtain ⟨a, k1, k2, k3⟩ := h2; exact ⟨a, k1, Own.regp f k2, k3⟩
theorem Hp.weak {F : Fn} {s : Shared} {g : Nat} {gs : GenState} (hg : C.gp g = none) (H : Hp (C.pin g gs) F s) : Hp C F s :=
  ⟨H.inn, H.base, H.os, H.gens.1, fun i st e => H.gens.2 i st (by show (if i = g then some gs else C.gp i) = some st; rw [if_neg (fun q => by rw [q, hg] at e; cases e)]; exact e)⟩
theorem Inv.weak {env : Env} {F : Fn} {W : Addr → Prop} {ρ : Rho} {s : Shared} {g : Nat} {gs : GenState} (hg : C.gp g = none) (I : Inv (C.pin g gs) T env F W ρ s) : Inv C T env F W ρ s :=
  Inv.regp (C := C.pin g gs) C.gp I rfl (I.hp.weak hg)
theorem Rd.weak {F : Fn} {d : V} {v : Value} {g : Nat} {gs : GenState} (h : Rd (C.pin g gs) F d v) : Rd C F d v := Rd.regp (C := C.pin g gs) C.gp h
theorem Stp.weak {X : Addr → Prop} {F F' : Fn} {s s' : Shared} {g : Nat} {gs : GenState} (hg : C.gp g = none) (x : Stp (C.pin g gs) X F s F' s') : Stp C X F s F' s' := ⟨x.sub, x.hp.weak hg, x.fok, x.keep⟩

/-- the generator hands out these data one by one -/
noncomputable def GNx (C : Cx) (A : Around) (ga : Addr) (g : Nat) (WG : Addr → Prop) : Bool → List V → GenState → Fn → Heap → Prop
  | fst, [], gs, F, h => ∀ (s : Shared) (F₁ : Fn) (Q : Option Value → Shared → Prop) (E : Value → Shared → Prop), Sub F F₁ → Hp (C.pin g gs) F₁ s → (∀ b, WG b → F₁ b = none) → (∀ b, WG b → s.heap.get? b = h.get? b) → (fst = true → s.heap.objs.size = ga + 1) →
      (∀ s', Stp C WG F₁ s F₁ s' → Q none s') → wpAny C.M A (pyNext (.ref ga)) Q E s
  | fst, d :: ds, gs, F, h => ∀ (s : Shared) (F₁ : Fn) (Q : Option Value → Shared → Prop) (E : Value → Shared → Prop), Sub F F₁ → Hp (C.pin g gs) F₁ s → (∀ b, WG b → F₁ b = none) → (∀ b, WG b → s.heap.get? b = h.get? b) → (fst = true → s.heap.objs.size = ga + 1) →
      (∀ v F₂ s' gs', Stp (C.pin g gs') WG F₁ s F₂ s' → (∀ b, WG b → F₂ b = none ∧ ∃ o, s'.heap.get? b = some o) → Rd C F₂ d v → GNx C A ga g WG false ds gs' F₂ s'.heap → Q (some v) s') → wpAny C.M A (pyNext (.ref ga)) Q E s

/-- a call of the generator's function -/
noncomputable def GenOk (C : Cx) (n : Nat) (fa : Addr) (f : V → Option (List V)) : Prop := ∀ (A : Around) (F : Fn) (s : Shared) (x : V) (v : Value) (ds : List V), Room n A → Hp C F s → Rd C F x v → f x = some ds →
  wpAny C.M A (PySem.call (.ref fa) [v]) (fun r s' => ∃ (ga : Addr) (g : Nat) (gs : GenState) (F' : Fn) (L : Addr), r = .ref ga ∧ C.gp g = none ∧ Ev F s F' s' ∧ Hp (C.pin g gs) F' s' ∧ (∃ o, F' ga = some o ∧ o.cls = .type "generator") ∧ s'.heap.IsGen ga g ∧
    s'.heap.objs.size = ga + 1 ∧ s.heap.get? L = none ∧ F' L = none ∧ (∃ o, s'.heap.get? L = some o) ∧ s.heap.get? ga = none ∧ GNx C A ga g (fun b => b = L ∨ b = ga + 1 ∨ b = ga + 2) true ds gs F' s'.heap) (fun _ _ => False) s

noncomputable def forG (t : List Nat) (f : V → Option (List V)) (e : D) (body : DS) : DS := fun ρ => ob (e ρ) fun x => ob (f x) fun xs => forL t body xs ρ
theorem semS_forG {nm : Str} {fa : Addr} {t ex : Expr} {q cp : Pos} {body : List Stmt} {p : Pos} {xs : List Nat} {f : V → Option (List V)} {fe : D} {fb : DS} {m : Nat} (hmn : m ≤ n) (ht : TgtOk T t xs) (hgc : GenOk C m fa f) (he : SemE C n T ex fe)
    (hg : ∀ P, nsIn (K P) mainGlobals nm = some (some (.ref fa))) (hk : ∀ P, keepIn (K P) (.ref fa) = true) (hd : (nm == ("__debug__" : Str)) = false) (hx : nm ∈ T.globs) (hs : ∀ env, starEach [ex] env = (false, eval ex env) :: starEach [] env)
    (hb : ∀ f, SemSs (C.withGp f) n T body fb) (hf : ∀ env x, foldedSetIterable (.Call (.Name nm q) [ex] [] cp) env x = pure x) :
    SemS C n T (.For t (.Call (.Name nm q) [ex] [] cp) body [] p) (forG xs f fe fb) := fun A env F W ρ s ρ' fl R I z => by
  obtain ⟨x, e1, z⟩ := ob_some z
  obtain ⟨ds, e2, z⟩ := ob_some z
  refine wpAny_For (Call_Name rfl (wp_glob hg hd I hx ?_)) (hf env)
  refine callWith_K I.hp.K (hk _) (args_cons (wpAny_mono (he A env F W ρ s x R I e1) (fun v s₁ w => args_nil ?_) fun _ _ z => z) (hs env)) (hs env) rfl
  obtain ⟨F₁, v₁, H₁, r₁⟩ := w
  refine ⟨H₁.K, wpAny_mono (hgc A F₁ s₁ x v ds (R.mono hmn) H₁ r₁ e2) (fun r s₂ w => ?_) fun _ _ z => z⟩
  obtain ⟨ga, g, gs, F₂, L, rfl, hgp, v₂, H₂, ⟨og, hog, hoc⟩, hig, hsz, hL1, hL2, hL3, hga, nx⟩ := w
  refine wpAny_pyIter_gen hig ?_
  have v₁₂ := Sp.trans v₁ v₂
  have gone : ∀ b, s₁.heap.get? b = none → s.heap.get? b = none := fun b hb => (v₁.gone hb).resolve_left id
  have I₂ : Inv (C.pin g gs) T env F₂ W ρ s₂ := Inv.regp _ (I.ev v₁₂ (H₂.weak hgp)) rfl H₂
  let WG : Addr → Prop := fun b => b = L ∨ b = ga + 1 ∨ b = ga + 2
  have fresh : ∀ b, b = ga + 1 ∨ b = ga + 2 → s₂.heap.get? b = none := fun b hb => by
    cases q : s₂.heap.get? b with
    | none => rfl
    | some o =>
      have := Heap.lt_size q
      rw [hsz] at this
      rcases hb with rfl | rfl
      · exact absurd this (Nat.lt_irrefl _)
      · exact absurd this (Nat.not_lt.mpr (Nat.le_succ _))
  have fresh0 : ∀ b, WG b → s.heap.get? b = none := fun b hb => by
    rcases hb with rfl | hb
    · exact gone _ hL1
    · exact (v₁₂.gone (fresh b hb)).resolve_left id
  have loc : ∀ b, s.heap.get? b = none → ¬ W b ∧ ∀ y c, env.cells.lookup y = some c → c ≠ b := fun b hb => ⟨fun w => (by obtain ⟨o, ho⟩ := (I.off b w).2; rw [hb] at ho; cases ho), fun y c hc w => (by obtain ⟨o, ho⟩ := I.cal y c hc; rw [w, hb] at ho; cases ho)⟩
  have apL : Apart env F₂ W (· = L) s s₂ := ⟨fun b hb => by subst hb; exact gone _ hL1, fun b hb => by subst hb; exact ⟨hL2, (loc _ (gone _ hL1)).1⟩, fun b hb => by subst hb; exact hL3, fun b hb => by subst hb; exact (loc _ (gone _ hL1)).2⟩
  have loop : ∀ (s' : Shared) (ds : List V) (F' : Fn) (W' : Addr → Prop) (ρ₁ : Rho) (gs : GenState) (fst : Bool), GNx C A ga g WG fst ds gs F' s'.heap → Inv (C.pin g gs) T env F' W' ρ₁ s' → Sp F W s F' W' s' → (∀ b, WG b → F' b = none) → Sub F₂ F' → (fst = true → s' = s₂ ∧ F' = F₂ ∧ W' = W) → (fst = false → Apart env F' W' WG s s') →
      forL xs fb ds ρ₁ = some (ρ', fl) → codeAny C.M A (.forLoop t (.ref ga) body [] env) (fun r s' => match r with | .ok f => RetS C T env F W s ρ' fl f s' | .error e => cameBackBy C.M A env (fun _ _ => False) e s') s' := by
    intro s' ds F' W' ρ₁ gs fst nx I' x' off sub h1 h2 z
    refine codeAny_forLoop_any (fun k s' => ∃ ds F' W' ρ₁ gs fst, ds.length = k ∧ GNx C A ga g WG fst ds gs F' s'.heap ∧ Inv (C.pin g gs) T env F' W' ρ₁ s' ∧ Sp F W s F' W' s' ∧ (∀ b, WG b → F' b = none) ∧ Sub F₂ F' ∧ (fst = true → s' = s₂ ∧ F' = F₂ ∧ W' = W) ∧ (fst = false → Apart env F' W' WG s s') ∧
      forL xs fb ds ρ₁ = some (ρ', fl)) ?_ ds.length ⟨ds, F', W', ρ₁, gs, fst, rfl, nx, I', x', off, sub, h1, h2, z⟩
    clear nx I' x' off sub h1 h2 z
    rintro k s' ⟨ds, F', W', ρ₁, gs, fst, rfl, nx, I', x', off, sub, h1, h2, e⟩
    have hfs : fst = true → s'.heap.objs.size = ga + 1 := fun q => by rw [(h1 q).1]; exact hsz
    -- the step, with what it may change
    have step : ∀ {F₃ : Fn} {s₃ : Shared} {gs' : GenState}, Stp (C.pin g gs') WG F' s' F₃ s₃ → Inv C T env F₃ W' ρ₁ s₃ ∧ Sp F W s F₃ W' s₃ := by
      intro F₃ s₃ gs' st
      have st := st.weak hgp
      cases fst with
      | false => exact ⟨(I'.weak hgp).step (h2 rfl) st, x'.step (h2 rfl).new st⟩
      | true =>
        obtain ⟨q1, q2, q3⟩ := h1 rfl
        have apL' : Apart env F' W' (· = L) s s' := by rw [q1, q2, q3]; exact apL
        have st' : Stp C (· = L) F' s' F₃ s₃ := ⟨st.sub, st.hp, st.fok, fun b o e hb => st.keep b o e fun w => by
          rcases w with w | w
          · exact hb w
          · rw [q1, fresh b w] at e; cases e⟩
        exact ⟨(I'.weak hgp).step apL' st', x'.step apL'.new st'⟩
    cases ds with
    | nil =>
      cases e
      refine nx s' F' _ _ Sub.refl I'.hp off (fun _ _ => rfl) hfs fun s'' st => ?_
      have st0 : Stp C WG F' s' F' s'' := st
      cases fst with
      | false => exact wpAny_execs_nil ⟨F', W', x'.step (h2 rfl).new st0, (I'.weak hgp).step (h2 rfl) st0, trivial⟩
      | true =>
        obtain ⟨q1, q2, q3⟩ := h1 rfl
        have apL' : Apart env F' W' (· = L) s s' := by rw [q1, q2, q3]; exact apL
        have st' : Stp C (· = L) F' s' F' s'' := ⟨st0.sub, st0.hp, st0.fok, fun b o e hb => st0.keep b o e fun w => by
          rcases w with w | w
          · exact hb w
          · rw [q1, fresh b w] at e; cases e⟩
        exact wpAny_execs_nil ⟨F', W', x'.step apL'.new st', (I'.weak hgp).step apL' st', trivial⟩
    | cons d ds =>
      obtain ⟨ρ₂, e2, e⟩ := ob_some e
      refine nx s' F' _ _ Sub.refl I'.hp off (fun _ _ => rfl) hfs fun v F₃ s₃ gs' st al r nx' => ?_
      obtain ⟨I₃, x₃⟩ := step st
      have ap₃ : Apart env F₃ W' WG s s₃ := by
        refine ⟨fresh0, fun b hb => ⟨(al b hb).1, ?_⟩, fun b hb => (al b hb).2, fun b hb => (loc b (fresh0 b hb)).2⟩
        cases fst with
        | false => exact ((h2 rfl).off b hb).2
        | true => rw [(h1 rfl).2.2]; exact (loc b (fresh0 b hb)).1
      have I₃' : Inv (C.pin g gs') T env F₃ W' ρ₁ s₃ := Inv.regp _ I₃ rfl st.hp
      have sub₃ := sub.trans st.sub
      have hga3 : s₃.heap.get? ga = some og := st.hp.inn _ _ (sub₃ _ _ hog)
      refine letGo_plain (n := "generator") hga3 hoc (by decide) ?_
      refine wp_target (C := C.pin g gs') R I₃' ht (Rd.regp _ r) e2 fun s₄ I₄ x₄ => ?_
      have ap₄ := ap₃.sp x₄
      cases hbb : fb ρ₂ with
      | none => rw [hbb] at e; cases e
      | some y =>
        obtain ⟨ρ₅, f5⟩ := y
        rw [hbb] at e
        refine wpAny_mono (hb (fun i => if i = g then some gs' else C.gp i) A env F₃ W' ρ₂ s₄ ρ₅ f5 R I₄ hbb) (fun fw s₅ q => ?_) fun _ _ z => z.elim
        obtain ⟨F₅, W₅, x₅, I₅, ok⟩ := q
        have x05 := (x₃.trans x₄).trans x₅
        cases f5 with
        | next =>
          cases fw <;> first | exact ok.elim | skip
          have same : ∀ b, WG b → s₅.heap.get? b = s₃.heap.get? b := fun b hi => (x₅.same ap₄ hi).trans (x₄.same ap₃ hi)
          have sb := x₄.sub.trans x₅.sub
          have nx5 : GNx C A ga g WG false ds gs' F₅ s₅.heap := by
            cases ds with
            | nil => exact fun s F₁ Q E hs hh hf hw hz => nx' s F₁ Q E (sb.trans hs) hh hf (fun b hi => (hw b hi).trans (same b hi)) hz
            | cons d' ds' => exact fun s F₁ Q E hs hh hf hw hz => nx' s F₁ Q E (sb.trans hs) hh hf (fun b hi => (hw b hi).trans (same b hi)) hz
          have ap₅ := ap₄.sp x₅
          exact ⟨ds.length, by simp, ds, F₅, W₅, ρ₅, gs', false, rfl, nx5, I₅, x05, fun b hi => (ap₅.off b hi).1, sub₃.trans sb, fun q => (by cases q), fun _ => ap₅, e⟩
        | brk =>
          cases fw <;> first | exact ok.elim | skip
          cases e
          exact ⟨F₅, W₅, x05, Inv.weak (g := g) (gs := gs') hgp I₅, trivial⟩
        | ret dd =>
          cases fw <;> first | exact ok.elim | skip
          cases e
          exact ⟨F₅, W₅, x05, Inv.weak (g := g) (gs := gs') hgp I₅, Rd.weak (g := g) (gs := gs') ok⟩
  exact loop s₂ ds F₂ W ρ gs true nx I₂ v₁₂.of_ev (fun b hb => by
    rcases hb with rfl | hb
    · exact hL2
    · exact H₂.none_of (fresh b hb)) Sub.refl (fun _ => ⟨rfl, rfl, rfl⟩) (fun q => (by cases q)) z
end Mine.MI
end
-- MiPb
section
namespace Mine.MI
variable {C : Cx} {n : Nat} {T T' : St}

theorem e_none {k : Nat} {p : Pos} : SemE C n T (.Constant .none k p) cNone := fun A env F W ρ s d R I e => by
  cases e
  exact wpAny_Constant_none (Ret.now I.hp rd_none)
noncomputable def ltV : V → V → Option Bool
  | .int a, .int b => some (!(leI b a))
  | _, _ => none
theorem op_lt : OpB C n .Lt ltV := fun A F s x y a b r E Q R H rx ry e q => by
  unfold ltV at e
  split at e
  · cases e
    simp only [Rd] at rx ry
    obtain ⟨t, rfl⟩ := rx
    obtain ⟨u, rfl⟩ := ry
    refine PyProof.Rows.lt_int ?_
    rename_i i j
    have : decide (i < j) = !(leI j i) := by
      rw [leI_iff]
      by_cases h : i < j
      · rw [decide_eq_true h, decide_eq_false (by omega)]; rfl
      · rw [decide_eq_false h, decide_eq_true (by omega)]; rfl
    rw [this]; exact q
  · cases e
noncomputable def notinV (a b : V) : Option Bool := nt inV a b
theorem op_notin : OpB C n .NotIn notinV := fun A F s x y a b r E Q R H rx ry e q => by
  unfold notinV nt at e
  obtain ⟨b', e1, e2⟩ := ob_some e
  clear e
  cases e2
  have e := e1
  clear e1
  unfold inV at e
  split at e
  · rename_i c l
    cases e
    simp only [Rd] at rx ry
    obtain ⟨_, t, rfl⟩ := rx; obtain ⟨_, u, rfl⟩ := ry
    refine SB.notContains ?_
    rw [show Txt.contains (toS l) (toS [c]) = decide (c ∈ l) from StrLaws.found_one _ _]
    rw [show decide (c ∈ l) = l.any (Nat.beq c) by rw [Bool.eq_iff_iff]; simp]
    exact q
  · cases e
/-- x is None, of None and of a number -/
noncomputable def isNone (i : Nat) : DB := fun ρ => match get i ρ with | some (.val .none) => some true | some (.val (.int _)) => some false | _ => none
theorem b_none {x : Str} {i k : Nat} {q p q' : Pos} (h : (x == T.nm i && !(x == ("__debug__" : Str)) && !(x == ("__classdict__" : Str))) = true) (hm : behindInMarks .Is (.Constant .none k q') = false) : SemB C n T (.Compare (.Name x q) [.Is] [.Constant .none k q'] p) (isNone i) := fun A env F W ρ s b R I e => by
  unfold isNone at e
  split at e
  · rename_i g
    cases e
    refine wpAny_isTrue_Compare1 (wpAny_mono (e_var h A env F W ρ s _ R I (by unfold var; rw [g])) (fun v s₁ q => ?_) fun _ _ z => z) hm
    obtain ⟨F₁, v₁, H₁, r₁⟩ := q
    simp only [Rd] at r₁
    subst r₁
    exact wpAny_Constant_none (wpAny_is_self rfl (wpAny_truthy_bool ⟨rfl, F₁, v₁, H₁⟩))
  · rename_i j g
    cases e
    refine wpAny_isTrue_Compare1 (wpAny_mono (e_var h A env F W ρ s _ R I (by unfold var; rw [g])) (fun v s₁ q => ?_) fun _ _ z => z) hm
    obtain ⟨F₁, v₁, H₁, r₁⟩ := q
    simp only [Rd] at r₁
    obtain ⟨t, rfl⟩ := r₁
    exact wpAny_Constant_none (wpAny_is_other rfl (by simp) (wpAny_truthy_bool ⟨rfl, F₁, v₁, H₁⟩))
  · cases e
noncomputable def addI : V → V → Option V
  | .int a, .int b => some (.int (a + b))
  | _, _ => none
noncomputable def subI : V → V → Option V
  | .int a, .int b => some (.int (a - b))
  | _, _ => none
theorem op_iadd : OpS C n (inplaceOp .Add) addI := fun A F s x y a b d R H rx ry e => by
  unfold addI at e
  split at e
  · cases e
    simp only [Rd] at rx ry
    obtain ⟨t, rfl⟩ := rx
    obtain ⟨u, rfl⟩ := ry
    exact PyProof.Rows.iadd_int (Ret.tok H (rd_int _ _) _)
  · cases e
theorem op_isub : OpS C n (inplaceOp .Sub) subI := fun A F s x y a b d R H rx ry e => by
  unfold subI at e
  split at e
  · cases e
    simp only [Rd] at rx ry
    obtain ⟨t, rfl⟩ := rx
    obtain ⟨u, rfl⟩ := ry
    exact PyProof.Rows.isub_int (Ret.tok H (rd_int _ _) _)
  · cases e
theorem semS_aug {x : Str} {i : Nat} {q p : Pos} {op : Operator} {e : Expr} {g : V → V → Option V} {f : D} (hx : x = T.nm i) (h2 : (x == ("__classdict__" : Str)) = false) (hi : i ∈ T.locs) (ho : OpS C n (inplaceOp op) g) (h : SemE C n T e f) :
    SemS C n T (.AugAssign (.Name x q) op e p) (asg i (bop g (var i) f)) := fun A env F W ρ s ρ' fl R I z => by
  obtain ⟨d, e1, e2⟩ := ob_some z
  cases e2
  obtain ⟨a, ea, e1⟩ := ob_some e1
  obtain ⟨b, eb, e1⟩ := ob_some e1
  subst hx
  have ha : get i ρ = some (.val a) := by
    unfold var at ea
    split at ea
    · rename_i d g; cases ea; exact g
    · cases ea
  obtain ⟨_, v, va, rv⟩ := I.vars i _ ha
  refine wpAny_AugAssign_Name (wp_load I.kind va (wpAny_mono (h A env F W ρ s b R I eb) (fun u s₁ w => ?_) fun _ _ z => z) h2)
  obtain ⟨F₁, v₁, H₁, r₁⟩ := w
  refine wpAny_mono (ho A F₁ s₁ a b v u d R H₁ (rv.mono v₁.sub) r₁ e1) (fun w s₂ q => ?_) fun _ _ z => z
  obtain ⟨F₂, v₂, H₂, r₂⟩ := q
  exact ((I.ev v₁ H₁).ev v₂ H₂).store_val hi r₂ fun s₃ I₃ x₃ => ⟨F₂, W, (Sp.trans v₁ v₂).of_ev.trans x₃, I₃, trivial⟩

/-- what the generator hands out -/
noncomputable def escGo : Nat → Bool → List Nat → List V
  | p, true, [] => [.tup [.int (.ofNat (p - 1)), .str [92]]]
  | _, false, [] => []
  | p, true, c :: r => .tup [.int (.ofNat p), .str [92, c]] :: escGo (p + 1) false r
  | p, false, c :: r => match Nat.beq c 92 with
    | true => escGo (p + 1) true r
    | false => .tup [.int (.ofNat p), .str [c]] :: escGo (p + 1) false r
/-- is an escape pending at the end? -/
noncomputable def pend : Bool → List Nat → Bool
  | b, [] => b
  | true, _ :: r => pend false r
  | false, c :: r => pend (Nat.beq c 92) r
noncomputable def escV : V → Option (List V)
  | .str a => chk (Nat.ble a.length 1000 && !(pend false a)) (some (escGo 0 false a))
  | _ => none
end Mine.MI
end
-- MiGe
section
namespace Mine.MI
variable {C : Cx} {n : Nat} {T T' : St}

theorem pyNext_genQ {prog : Program} {w : World} {A : Around} {E : Value → Shared → Prop} {s : Shared} {a : Addr} {g n : Nat} {gs : GenState} {P : Nat → Shared → Shared → Prop} {Y : Protocol} {Q : Option Value → Shared → Prop} (hh : A.handled = none)
    (hl : s.heap.NoLimit) (hroom : A.depth < recursionLimit) (hg : s.heap.IsGen a g) (hgs : s.gens[g]? = some gs)
    (hgo : gs.Goes (model prog w) A.in1 (fun n s₀ r s₁ => r = .ok (.ret .none) ∧ P n s₀ s₁) Y n (.send .none) (s.setGen g .running))
    (hY : ∀ v s₁ gs', gs'.bare = true → Y (n - 1) (s.setGen g .running) v s₁ (fun r' s'' => match n with
        | 0 => False
        | m + 1 => gs'.Goes (model prog w) A.in1 (fun n s₀ r s₁ => r = .ok (.ret .none) ∧ P n s₀ s₁) Y m r' s'') → Q (some v) (s₁.setGen g gs'))
    (hP : ∀ s₁, P n (s.setGen g .running) s₁ → ∀ h', (∀ b o, s₁.heap.get? b = some o → h'.get? b = some o) → Q none { s₁.setGen g .finished with heap := h' }) :
    wpAny (model prog w) A (pyNext (.ref a)) Q E s := by
  unfold pyNext
  refine wpAny_bind (wpAny_attempt (wpAny_callSpecial?_slot (name := Str.ofString "__next__") hg.typeIs slot_gen_next
    (wpAny_call_entry slot_gen_next hg.typeIs entry_gen_next ?_ (args_gen_next _))))
  show wpAny _ A.in1 (Builtin.Generator.genWake (.ref a) (.send .none)) _ _ s
  unfold Builtin.Generator.genWake
  refine wpAny_bind (wpAny_holding (wpAny_genNumber hg (wpAny_bind (wpAny_genState hgs ?_))))
  cases gs with
  | running => exact hgo.elim
  | finished => exact hgo.elim
  | _ =>
    refine wpAny_bind (wpAny_roomToWake hl hroom ?_)
    show wpAny _ A.in1 (.resume g (.send .none) [] _) _ _ s
    refine wpAny_resumeQ hgs hgo (fun x s₁ hx => ?_) (fun v s₁ gs' hb hv => ?_)
    · obtain ⟨rfl, hp⟩ := hx
      show wpAny _ A.in1 (newExc (.type "StopIteration") [] >>= _) _ _ _
      refine wpAny_bind ?_
      simp only [newExc, newTuple]
      refine wpAny_bind (wpAny_newObj_type ?_ (by size_fits))
      refine wpAny_bind (m := firstArgMember _ _) (wpAny_of_eq (a := Value.none) (by first | rfl | (simp only [firstArgMember]; rfl)) ?_)
      refine wpAny_newObj_type ?_ (by size_fits)
      simp only [raiseNew]
      refine wpAny_bind (wpAny_bind (wpAny_handled ?_))
      rw [show A.in1.handled = none from hh]
      refine wpAny_throw ?_
      refine wpAny_bind (wpAny_isInstance (T := "StopIteration") (b := true) ⟨_, Heap.get?_push_size _ rfl, rfl⟩ isSubtype_stop ?_)
      exact wpAny_pure (hP s₁ hp _ fun b o hb => Heap.get?_push_of_some _ (Heap.get?_push_of_some _ hb))
    · exact wpAny_pure ⟨v, rfl, wpAny_pure (hY v s₁ gs' hb hv)⟩

/-- what one run of the generator leaves as it was -/
noncomputable def GS (C : Cx) (g : Nat) (WG : Addr → Prop) (s₀ s' : Shared) : Prop := (∀ b o, ¬ WG b → s₀.heap.get? b = some o → s'.heap.get? b = some o) ∧ s'.os = C.os ∧ GOk (C.pin g .running) s'.gens
noncomputable def genEnd (C : Cx) (g : Nat) (WG : Addr → Prop) : Nat → Shared → Shared → Prop := fun n s₀ s₁ => n = 0 ∧ GS C g WG s₀ s₁
noncomputable abbrev genR (C : Cx) (g : Nat) (WG : Addr → Prop) : GenEnd := fun n s₀ r s₁ => r = .ok (.ret .none) ∧ genEnd C g WG n s₀ s₁
noncomputable def genY (C : Cx) (g : Nat) (WG : Addr → Prop) (data : List V) : Protocol := fun m s₀ v s' kap =>
  (∃ (T : Addr) (o : Obj) (vs : Array Value) (k : Nat) (xs : List V), v = .ref T ∧ s₀.heap.get? T = none ∧ s'.heap.get? T = some o ∧ ¬ WG T ∧ o.cls = .type "tuple" ∧ o.data = .seq vs k ∧ data[data.length - 1 - m]? = some (.tup xs) ∧ RdL C (fun _ => none) xs vs.toList) ∧
  GS C g WG s₀ s' ∧ (∀ b, WG b → ∃ o, s'.heap.get? b = some o) ∧
  ∀ s'' F'', Hp (C.pin g .running) F'' s'' → (∀ b, WG b → F'' b = none) → (∀ b, WG b → s''.heap.get? b = s'.heap.get? b) → kap (.send .none) s''

theorem gens_set {gens : Array GenState} {g : Nat} {gs x : GenState} (h : gens[g]? = some gs) : (gens.setIfInBounds g x)[g]? = some x ∧ ∀ k, k ≠ g → (gens.setIfInBounds g x)[k]? = gens[k]? := by
  have hlt : g < gens.size := by
    rcases Nat.lt_or_ge g gens.size with h' | h'
    · exact h'
    · rw [Array.getElem?_eq_none h'] at h; cases h
  exact ⟨by simp [hlt], fun k hk => by simp [Ne.symm hk]⟩
theorem bare_set {gens : Array GenState} {g : Nat} {x : GenState} (h : AllBare gens) (hx : x.bare = true) : AllBare (gens.setIfInBounds g x) := fun y hy => by
  rcases Array.mem_or_eq_of_mem_setIfInBounds hy with h1 | h1
  · exact h y h1
  · rw [h1]; exact hx
theorem gok_pin {gens : Array GenState} {g : Nat} {gs x : GenState} (h : GOk (C.pin g gs) gens) (hx : x.bare = true) : GOk (C.pin g x) (gens.setIfInBounds g x) := by
  have hg : gens[g]? = some gs := h.2 g gs (if_pos rfl)
  obtain ⟨e1, e2⟩ := gens_set (x := x) hg
  refine ⟨bare_set h.1 hx, fun i st e => ?_⟩
  have e : (if i = g then some x else C.gp i) = some st := e
  by_cases q : i = g
  · subst q; rw [if_pos rfl] at e; cases e; exact e1
  · rw [if_neg q] at e
    rw [e2 i q]
    exact h.2 i st (by show (if i = g then some gs else C.gp i) = some st; rw [if_neg q]; exact e)
theorem gok_free {gens : Array GenState} {g : Nat} {gs x : GenState} (hgp : C.gp g = none) (h : GOk (C.pin g gs) gens) (hx : x.bare = true) : GOk C (gens.setIfInBounds g x) := by
  have h' := gok_pin (x := x) h hx
  exact ⟨h'.1, fun i st e => h'.2 i st (by show (if i = g then some x else C.gp i) = some st; rw [if_neg (fun q => by rw [q, hgp] at e; cases e)]; exact e)⟩
theorem Hp.running {F : Fn} {s : Shared} {g : Nat} {gs x : GenState} (h : Hp (C.pin g gs) F s) (hx : x.bare = true) : Hp (C.pin g x) F (s.setGen g x) := ⟨h.inn, h.base, h.os, gok_pin h.gens hx⟩

theorem gnx_of {A : Around} {ga : Addr} {g : Nat} {WG : Addr → Prop} {data : List V} (hh : A.handled = none) (hroom : A.depth < recursionLimit) (hgp : C.gp g = none) {og : Obj} (hog : og.cls = .type "generator" ∧ (∃ nm qn, og.data = .fields #[.int g 0, nm, qn]) ∧ og.slots = #[]) :
    ∀ (ds : List V) (fst : Bool) (gs : GenState) (F : Fn) (h : Heap), ds = data.drop (data.length - ds.length) → ds.length ≤ data.length → F ga = some og →
      (∀ s F₁, Hp (C.pin g .running) F₁ s → (∀ b, WG b → F₁ b = none) → (∀ b, WG b → s.heap.get? b = h.get? b) → (fst = true → s.heap.objs.size = ga + 1) → gs.Goes C.M A.in1 (genR C g WG) (genY C g WG data) ds.length (.send .none) s) →
      GNx C A ga g WG fst ds gs F h := by
  have nolim : ∀ {F : Fn} {s : Shared} {gs : GenState}, Hp (C.pin g gs) F s → s.heap.NoLimit := fun H => C.T.nolimit.keeps fun b o e => H.inn _ _ (H.base _ _ e)
  intro ds
  induction ds with
  | nil =>
    intro fst gs F h hd hl hF ready s F₁ Q E hs H hf hw hz hQ
    have Hr := H.running (x := .running) rfl
    have goes := ready (s.setGen g .running) F₁ Hr hf hw hz
    obtain ⟨hg1, ⟨nm, qn, hg2⟩, hg3⟩ := hog
    refine pyNext_genQ hh (nolim H) hroom ⟨og, nm, qn, H.inn _ _ (hs _ _ hF), hg1, hg2, hg3⟩ (H.gens.2 g gs (if_pos rfl)) goes (fun v s₁ gs' hb hY => ?_) fun s₁ hP h' hk => ?_
    · obtain ⟨_, hGS, _, kap⟩ := hY
      have Hp1 : Hp (C.pin g .running) F₁ s₁ := ⟨fun a o e => hGS.1 a o (fun q => by rw [hf a q] at e; cases e) (Hr.inn a o e), Hr.base, hGS.2.1, hGS.2.2⟩
      exact (kap s₁ F₁ Hp1 hf fun _ _ => rfl).elim
    · obtain ⟨_, hGS⟩ := hP
      have keep : ∀ b o, s.heap.get? b = some o → ¬ WG b → h'.get? b = some o := fun b o e q => hk b o (hGS.1 b o q e)
      exact hQ _ ⟨Sub.refl, ⟨fun a o e => keep a o (H.inn a o e) fun q => (by rw [hf a q] at e; cases e), H.base, hGS.2.1, gok_free (x := .finished) hgp hGS.2.2 rfl⟩, fun _ _ e => .inl e, fun b o e q => keep b o e q⟩
  | cons d ds ih =>
    intro fst gs F h hd hl hF ready s F₁ Q E hs H hf hw hz hQ
    have Hr := H.running (x := .running) rfl
    have goes := ready (s.setGen g .running) F₁ Hr hf hw hz
    have hl' : ds.length + 1 ≤ data.length := hl
    obtain ⟨hg1, ⟨nm, qn, hg2⟩, hg3⟩ := id hog
    refine pyNext_genQ hh (nolim H) hroom ⟨og, nm, qn, H.inn _ _ (hs _ _ hF), hg1, hg2, hg3⟩ (H.gens.2 g gs (if_pos rfl)) goes (fun v s₁ gs' hb hY => ?_) fun s₁ hP h' hk => ?_
    · obtain ⟨⟨Ta, o, vs, k, xs, rfl, t1, t2, t3, t4, t5, t6, t7⟩, hGS, hal, kap⟩ := hY
      have e0 : ∀ b, (s₁.setGen g gs').heap.get? b = s₁.heap.get? b := fun _ => rfl
      have hFn : F₁ Ta = none := H.none_of t1
      have sub : Sub F₁ (F₁.put Ta o) := Sub.put hFn
      have keep : ∀ b o, ¬ WG b → s.heap.get? b = some o → s₁.heap.get? b = some o := fun b o q e => hGS.1 b o q e
      have Hn : Hp (C.pin g gs') (F₁.put Ta o) (s₁.setGen g gs') := ⟨fun a p e => by
        by_cases q : a = Ta
        · subst q; rw [Fn.put_self] at e; cases e; exact t2
        · rw [Fn.put_ne q] at e; exact keep a p (fun w => (by rw [hf a w] at e; cases e)) (H.inn a p e), fun a p e => sub _ _ (H.base a p e), hGS.2.1, gok_pin hGS.2.2 hb⟩
      have dx : d = .tup xs := by
        have e1 : (data.drop (data.length - (ds.length + 1)))[0]? = some d := by rw [show data.length - (ds.length + 1) = data.length - (d :: ds).length from rfl, ← hd]; rfl
        rw [List.getElem?_drop] at e1
        have e2 : data.length - (ds.length + 1) + 0 = data.length - 1 - ds.length := by omega
        rw [e2] at e1
        have t6 : data[data.length - 1 - ds.length]? = some (.tup xs) := t6
        rw [t6] at e1; cases e1; rfl
      refine hQ (.ref Ta) (F₁.put Ta o) (s₁.setGen g gs') gs' ⟨sub, Hn, fun a p e => ?_, fun b p e q => keep b p q e⟩ (fun b hb => ⟨(by rw [Fn.put_ne (fun q => t3 (by rw [← q]; exact hb))]; exact hf b hb), hal b hb⟩) ?_ ?_
      · by_cases q : a = Ta
        · subst q; exact .inr t1
        · rw [Fn.put_ne q] at e; exact .inl e
      · subst dx
        simp only [Rd]
        exact ⟨Ta, o, vs, k, rfl, Fn.put_self, t4, t5, RdL.mono (fun _ _ e => by cases e) t7⟩
      · refine ih false gs' (F₁.put Ta o) s₁.heap ?_ (by omega) (sub _ _ (hs _ _ hF)) fun s'' F'' H'' hf'' hw'' _ => kap s'' F'' H'' hf'' hw''
        have : (d :: ds).drop 1 = (data.drop (data.length - (d :: ds).length)).drop 1 := by rw [← hd]
        rw [List.drop_drop] at this
        rw [show data.length - ds.length = data.length - (d :: ds).length + 1 by simp only [List.length_cons]; omega]
        exact this
    · obtain ⟨h0, _⟩ := hP
      exact absurd h0 (by simp)
end Mine.MI
end
-- MiGf
section
namespace Mine.MI
variable {C : Cx} {n : Nat} {T T' : St}

theorem func_weight (body : List Stmt) (env : Env) : (Code.func body env).weight = 1 := by rfl
theorem func_units (body : List Stmt) (env : Env) : (Code.func body env).cUnits = 3 := by rfl
theorem loop_weight (t : Expr) (it : Value) (body : List Stmt) (env : Env) : (Code.forLoop t it body [] env).weight = 0 := by rfl
theorem loop_units (t : Expr) (it : Value) (body : List Stmt) (env : Env) : (Code.forLoop t it body [] env).cUnits = 0 := by rfl
theorem Room.gen0 {A : Around} (h : Room (n + 1) A) (body : List Stmt) (env : Env) : Room n (A.in1.over (.func body env) []) :=
  ⟨h.handled, by have := h.depth; show A.depth + 0 + (Code.func body env).weight + 20 * n ≤ 600; rw [func_weight]; omega, by have := h.units; show A.units + 1 + 0 + (Code.func body env).cUnits + 100 * n ≤ 2000; rw [func_units]; omega⟩
theorem Room.gen1 {A : Around} (h : Room (n + 1) A) (t : Expr) (it : Value) (b body : List Stmt) (env : Env) (k : Result → Sem Fin) (g : Bool) (l : List Value) (p : Pos) : Room n (A.in1.over (.forLoop t it b [] env) [.ret k none g l (.func body env) p []]) :=
  ⟨h.handled, by have := h.depth; show A.depth + ((Code.func body env).weight + 0) + (Code.forLoop t it b [] env).weight + 20 * n ≤ 600; rw [func_weight, loop_weight]; omega,
    by have := h.units; show A.units + 1 + ((Code.func body env).cUnits + 0) + (Code.forLoop t it b [] env).cUnits + 100 * n ≤ 2000; rw [func_units, loop_units]; omega⟩

section
variable {A : Around} {R : GenEnd} {Y : Protocol} {m : Nat} {s₀ : Shared} {c : Code} {fs : List Frame} {s : Shared} {env : Env} {K : Flow → Sem Fin} {H : Value → Sem Fin} {gd : Bool → Bool} {lv : List Value → List Value} {F : Fn} {W : Addr → Prop} {ρ ρ' : Rho}
theorem seg_stmt {st : Stmt} {den : DS} (hst : SemS C n T st den) (Rm : Room n (A.over c fs)) (I : Inv C T env F W ρ s) (e : den ρ = some (ρ', .next))
    (k : ∀ s' F' W', Sp F W s F' W' s' → Inv C T env F' W' ρ' s' → Seg C.M A R Y m s₀ c (K .next) fs s') : Seg C.M A R Y m s₀ c ((exec st env).wrap K H gd lv) fs s := by
  refine seg_wrap (wpAny_mono (hst _ env F W ρ s ρ' .next Rm I e) (fun r s' q => ?_) fun _ _ z => z.elim)
  obtain ⟨F', W', x, I', ok⟩ := q
  cases r <;> first | exact ok.elim | exact k s' F' W' x I'
theorem seg_if {t : Expr} {a b : List Stmt} {p : Pos} {ft : DB} {v : Bool} (ht : SemB C n T t ft) (Rm : Room n (A.over c fs)) (I : Inv C T env F W ρ s) (e : ft ρ = some v)
    (k : ∀ s' F', Ev F s F' s' → Inv C T env F' W ρ s' → Seg C.M A R Y m s₀ c ((execs (if v then a else b) env).wrap K H gd lv) fs s') : Seg C.M A R Y m s₀ c ((exec (.If t a b p) env).wrap K H gd lv) fs s := by
  rw [exec_If]
  refine seg_bind_wrap (wpAny_standAt (seg_bind_wrap (wpAny_mono (ht _ env F W ρ s v Rm I e) (fun c' s' q => ?_) fun _ _ z => z.elim)))
  obtain ⟨rfl, F', e', h'⟩ := q
  have := k s' F' e' (I.ev e' h')
  cases c' <;> exact this
end

/-- later on, with the frame as it was -/
theorem Inv.later {env : Env} {F F₁ : Fn} {W : Addr → Prop} {ρ : Rho} {s s₁ : Shared} (f : Nat → Option GenState) (I : Inv C T env F W ρ s) (hc : env.cells = []) (hp : T.pin = none) (hfl : ∀ x sl, get x ρ = some sl → ∃ d, sl = .val d ∧ flat d = true)
    (H : Hp (C.withGp f) F₁ s₁) (hL : F₁ env.locals = none) (hs : s₁.heap.get? env.locals = s.heap.get? env.locals) : Inv (C.withGp f) T env F₁ (· = env.locals) ρ s₁ := by
  have ns : ∀ {m}, s.heap.Ns env.locals m → s₁.heap.Ns env.locals m := fun ⟨o, es, ep, h1, r⟩ => ⟨o, es, ep, hs.trans h1, r⟩
  have lk : ∀ y c, env.cells.lookup y ≠ some c := fun y c h => by rw [hc] at h; cases h
  refine ⟨H, I.nodup, I.kind, I.gl, I.bi, I.globs, fun a w => ?_, rfl, fun y c h => absurd h (lk y c), let ⟨m, hm⟩ := I.ns; ⟨m, ns hm⟩, fun x hx => ?_, fun x sl g => ?_, fun x y dx dy a b _ g => ?_, fun x a q => by rw [hp] at q; cases q⟩
  · subst w
    obtain ⟨o, ho⟩ := (I.off _ I.wl).2
    exact ⟨hL, o, hs.trans ho⟩
  · obtain ⟨h1, h2⟩ := I.locs x hx
    refine ⟨h1, .inl ?_⟩
    rcases h2 with h2 | ⟨_, c, h3, _⟩
    · exact h2
    · exact absurd h3 (lk _ _)
  · obtain ⟨d, rfl, hd⟩ := hfl x sl g
    obtain ⟨h1, v, k1, k2⟩ := I.vars x _ g
    refine ⟨h1, v, ?_, Rd.regp f (rd_flat hd k2)⟩
    cases k1 with
    | loc m q1 q2 q3 => exact .loc m q1 (ns q2) q3
    | cell c q1 q2 q3 => exact absurd q2 (lk _ _)
  · obtain ⟨d, q, _⟩ := hfl x _ g
    cases q

/-- a pair of flat values is yielded -/
theorem seg_pair {A : Around} {g : Nat} {WG : Addr → Prop} {data : List V} {m : Nat} {s₀ : Shared} {c : Code} {fs : List Frame} {s : Shared} {env : Env} {K : Flow → Sem Fin} {H : Value → Sem Fin} {F : Fn} {W : Addr → Prop} {ρ : Rho} {e1 e2 : Expr} {kx : Nat} {tp ypos pos : Pos} {f1 f2 : D} {d1 d2 : V}
    (h1 : SemE (C.pin g .running) n T e1 f1) (h2 : SemE (C.pin g .running) n T e2 f2) (st1 : ∀ env, starEach [e1, e2] env = (false, eval e1 env) :: starEach [e2] env) (st2 : ∀ env, starEach [e2] env = (false, eval e2 env) :: starEach [] env)
    (Rm : Room n (A.over c fs)) (I : Inv (C.pin g .running) T env F W ρ s) (q1 : f1 ρ = some d1) (q2 : f2 ρ = some d2) (fl1 : flat d1 = true) (fl2 : flat d2 = true) (hfs : splitAtGen fs = none) (hfg : fs.any Frame.guarded = false) (hco : env.scope.isCoroutine = false)
    (hi : interactive env = false) (hd : data[data.length - 1 - m]? = some (.tup [d1, d2])) (hsince : ∀ b o, ¬ WG b → s₀.heap.get? b = some o → s.heap.get? b = some o) (hal : ∀ b, WG b → ∃ o, s.heap.get? b = some o)
    (k : ∀ s'' s' F'' F', Ev F s F' s' → Inv (C.pin g .running) T env F' W ρ s' → Hp (C.pin g .running) F'' s'' → (∀ b, WG b → F'' b = none) → (∀ b, WG b → s''.heap.get? b = s'.heap.get? b) → Seg C.M A (genR C g WG) (genY C g WG data) m s'' c (K .next) fs s'') :
    Seg C.M A (genR C g WG) (genY C g WG data) (m + 1) s₀ c ((exec (.Expr (.Yield (some (.Tuple [e1, e2] kx tp)) ypos) pos) env).wrap K H id id) fs s := by
  refine seg_Expr_Yield hfs rfl hfg ?_ hco hi
  refine wpAny_Tuple (args_cons (wpAny_mono (h1 _ env F W ρ s d1 Rm I q1) (fun v s₁ w => ?_) fun _ _ z => z.elim) (st1 env))
  obtain ⟨F₁, v₁, H₁, r₁⟩ := w
  have I₁ := I.ev v₁ H₁
  refine args_cons (wpAny_mono (h2 _ env F₁ W ρ s₁ d2 Rm I₁ q2) (fun u s₂ w => ?_) fun _ _ z => z.elim) (st2 env)
  obtain ⟨F₂, v₂, H₂, r₂⟩ := w
  refine args_nil ⟨(by show 2 ≤ 2 ^ 24; decide), fun kap hk => ?_⟩
  have G := grown (s' := { s₂ with heap := s₂.heap.push { cls := .type "tuple", data := .seq [v, u].toArray } }) H₂ (fun _ _ e => Heap.get?_push_of_some _ e) rfl H₂.gens
  have v₁₃ := Sp.trans v₁ (Sp.trans v₂ G.1)
  have hT := Heap.get?_push_size s₂.heap (o := { cls := .type "tuple", data := .seq [v, u].toArray }) rfl
  have kp : ∀ b o, s.heap.get? b = some o → s₂.heap.get? b = some o := fun b o e => v₂.keep' _ _ (v₁.keep' _ _ e)
  have nT : ¬ WG s₂.heap.objs.size := fun w => by
    obtain ⟨o, ho⟩ := hal _ w
    exact absurd (Heap.lt_size (kp _ _ ho)) (Nat.lt_irrefl _)
  refine ⟨⟨s₂.heap.objs.size, _, _, _, [d1, d2], rfl, ?_, hT, nT, rfl, rfl, hd, ?_⟩, ⟨fun b o hb e => v₁₃.keep' _ _ (hsince b o hb e), G.2.os, G.2.gens⟩, fun b hb => let ⟨o, ho⟩ := hal b hb; ⟨o, v₁₃.keep' _ _ ho⟩, fun s'' F'' H'' hf hw => ?_⟩
  · cases q : s₀.heap.get? s₂.heap.objs.size with
    | none => rfl
    | some o => exact absurd (Heap.lt_size (kp _ _ (hsince _ o nT q))) (Nat.lt_irrefl _)
  · simp only [RdL]
    exact ⟨v, _, rfl, rd_flat fl1 (Rd.weak r₁), u, [], rfl, rd_flat fl2 (Rd.weak r₂), rfl⟩
  · exact hk .none s'' (k s'' _ F'' F₂ v₁₃ ((I₁.ev v₂ H₂).ev G.1 G.2) H'' hf hw)
end Mine.MI
end
-- MiGg
section
namespace Mine.MI
variable {C : Cx} {n : Nat} {T T' : St}

noncomputable def T_esc : St := ⟨["addr", "pos", "escape", "ch"], ["enumerate"], [0, 1, 2, 3], [], none⟩
/-- the generator's names while it runs -/
structure EscVars (ρ : Rho) (b : Bool) : Prop where
  fl : ∀ x sl, get x ρ = some sl → ∃ d, sl = .val d ∧ flat d = true
  esc : get 2 ρ = some (.val (.bool b))
theorem flat_put {ρ : Rho} {x : Nat} {d : V} (h : ∀ x sl, get x ρ = some sl → ∃ d, sl = .val d ∧ flat d = true) (hd : flat d = true) : ∀ y sl, get y (put x (.val d) ρ) = some sl → ∃ d, sl = .val d ∧ flat d = true := fun y sl g => by
  rw [get_put] at g
  split at g
  · cases g; exact ⟨d, rfl, hd⟩
  · exact h y sl g
/-- the parts of the loop's body -/
noncomputable def escBody : List Stmt → Prop := fun body => ∃ (e1 y1 y2 y3 y4 y5 y6 y7 a1 a2 a3 c1 c2 c3 d1 d2 d3 f1 f2 f3 f4 f5 g1 g2 : Pos) (k1 k2 k3 k4 k5 k6 : Nat), body = [.If (.Name "escape" e1) [.Expr (.Yield (some (.Tuple [.Name "pos" y1, .BinOp (.Constant (.str "\\") k1 y2) .Add (.Name "ch" y3) y4] k2 y5)) y6) y7, .Assign [.Name "escape" a1] (.Constant (.bool false) k3 a2) a3]
    [.If (.Compare (.Name "ch" c1) [.Eq] [.Constant (.str "\\") k4 c2] c3) [.Assign [.Name "escape" d1] (.Constant (.bool true) k5 d2) d3] [.Expr (.Yield (some (.Tuple [.Name "pos" f1, .Name "ch" f2] k6 f3)) f4) f5] g1] g2]

theorem drop_len {data l : List V} {d : V} (h : d :: l = data.drop (data.length - (l.length + 1))) (hl : l.length + 1 ≤ data.length) : data[data.length - 1 - l.length]? = some d ∧ l = data.drop (data.length - l.length) := by
  constructor
  · have e1 : (data.drop (data.length - (l.length + 1)))[0]? = some d := by rw [← h]; rfl
    rw [List.getElem?_drop] at e1
    rw [show data.length - 1 - l.length = data.length - (l.length + 1) + 0 by omega]; exact e1
  · have : (d :: l).drop 1 = (data.drop (data.length - (l.length + 1))).drop 1 := by rw [← h]
    rw [List.drop_drop] at this
    rw [show data.length - l.length = data.length - (l.length + 1) + 1 by omega]; exact this

theorem Sp.none {F F' : Fn} {W W' : Addr → Prop} {s s' : Shared} (x : Sp F W s F' W' s') {b : Addr} (h : F b = none) (hb : ∃ o, s.heap.get? b = some o) (hw : ¬ W b) : F' b = none := by
  cases e : F' b with
  | none => rfl
  | some o =>
    rcases x.fok b o e with h1 | h1 | h1
    · rw [h] at h1; cases h1
    · exact absurd h1 hw
    · obtain ⟨o', ho'⟩ := hb; rw [h1] at ho'; cases ho'
theorem eqT_one (c : Nat) : eqT (.str [c]) (.str [92]) = some (Nat.beq c 92) := by
  show some (eqL [c] [92]) = _
  unfold eqL
  cases Nat.beq c 92 <;> rfl
theorem esc_loop {A : Around} {ga g : Nat} {env : Env} {data : List V} {a : List Nat} {P : Nat → Value → Prop} {St : Nat → Heap → Prop} {q1 q2 q3 : Pos} {k0 : Nat} {body fbody : List Stmt} {kf : Result → Sem Fin} {p0 : Pos} (hgp : C.gp g = none) (hh : A.handled = none) (Rm : Room 1 A)
    (Dr : ∀ A' : Around, A'.handled = none → Draws pg C.w A' (ga + 1) [ga + 1] a.length P St) (hP : ∀ i v, P i v → ∃ c u, a[i]? = some c ∧ v = .str ⟨#[c]⟩ u) (hstr : strV a) (hL1 : env.locals ≠ ga + 1) (hL2 : env.locals ≠ ga + 2) (hc : env.cells = []) (hco : env.scope.isCoroutine = false) (hin : interactive env = false)
    (hbody : escBody body)
    (hfin : ∀ (s₀ s : Shared) (F : Fn) (ρ : Rho), Inv (C.pin g .running) T_esc env F (· = env.locals) ρ s → EscVars ρ false → (∀ x o, ¬ (x = env.locals ∨ x = ga + 1 ∨ x = ga + 2) → s₀.heap.get? x = some o → s.heap.get? x = some o) →
      Seg C.M A.in1 (genR C g fun x => x = env.locals ∨ x = ga + 1 ∨ x = ga + 2) (genY C g (fun x => x = env.locals ∨ x = ga + 1 ∨ x = ga + 2) data) 0 s₀ (.func fbody env) (kf (.ok .next)) [] s) :
    ∀ (cs : List Nat) (p : Nat) (b : Bool) (s₀ s : Shared) (F : Fn) (ρ : Rho), a.drop p = cs → p + cs.length = a.length → pend b cs = false → Inv (C.pin g .running) T_esc env F (· = env.locals) ρ s → EscVars ρ b → (∃ old, IsEnum s.heap (ga + 2) (ga + 1) (p : Int) old) → St p s.heap → F (ga + 1) = none → F (ga + 2) = none →
      (∀ x o, ¬ (x = env.locals ∨ x = ga + 1 ∨ x = ga + 2) → s₀.heap.get? x = some o → s.heap.get? x = some o) → escGo p b cs = data.drop (data.length - (escGo p b cs).length) → (escGo p b cs).length ≤ data.length →
      Seg C.M A.in1 (genR C g fun x => x = env.locals ∨ x = ga + 1 ∨ x = ga + 2) (genY C g (fun x => x = env.locals ∨ x = ga + 1 ∨ x = ga + 2) data) (escGo p b cs).length s₀
        (.forLoop (.Tuple [.Name "pos" q1, .Name "ch" q2] k0 q3) (.ref (ga + 2)) body [] env) (C.M.den (.forLoop (.Tuple [.Name "pos" q1, .Name "ch" q2] k0 q3) (.ref (ga + 2)) body [] env)) [.ret kf none false [] (.func fbody env) p0 []] s := by
  obtain ⟨e1, y1, y2, y3, y4, y5, y6, y7, a1, a2, a3, c1, c2, c3, d1, d2, d3, f1, f2, f3, f4, f5, g1, g2, k1, k2, k3, k4, k5, k6, rfl⟩ := hbody
  have hei : ga + 2 ≠ ga + 1 := Nat.succ_ne_self _
  have hef : ga + 2 ∉ [ga + 1] := by simp
  intro cs
  generalize hWG : (fun x => x = env.locals ∨ x = ga + 1 ∨ x = ga + 2 : Addr → Prop) = WG at *
  have hwg : ∀ x, WG x ↔ (x = env.locals ∨ x = ga + 1 ∨ x = ga + 2) := fun x => by rw [← hWG]
  generalize hbd : ([.If (.Name "escape" e1) [.Expr (.Yield (some (.Tuple [.Name "pos" y1, .BinOp (.Constant (.str "\\") k1 y2) .Add (.Name "ch" y3) y4] k2 y5)) y6) y7, .Assign [.Name "escape" a1] (.Constant (.bool false) k3 a2) a3]
    [.If (.Compare (.Name "ch" c1) [.Eq] [.Constant (.str "\\") k4 c2] c3) [.Assign [.Name "escape" d1] (.Constant (.bool true) k5 d2) d3] [.Expr (.Yield (some (.Tuple [.Name "pos" f1, .Name "ch" f2] k6 f3)) f4) f5] g1] g2] : List Stmt) = bd
  have R1 : ∀ (A' : Around), A' = A.in1.over (.forLoop (.Tuple [.Name "pos" q1, .Name "ch" q2] k0 q3) (.ref (ga + 2)) bd [] env) [.ret kf none false [] (.func fbody env) p0 []] → Room 0 A' := fun A' e => by rw [e]; exact Room.gen1 Rm _ _ _ _ _ _ _ _ _
  have hA := R1 _ rfl
  have W := WalksT.enumerateD (Dr (A.in1.over (.forLoop (.Tuple [.Name "pos" q1, .Name "ch" q2] k0 q3) (.ref (ga + 2)) bd [] env) [.ret kf none false [] (.func fbody env) p0 []]).in1 hA.handled) (ga + 2) hei hef (by simp)
  induction cs with
  | nil =>
    intro p b s₀ s F ρ hdp hlen hpend I V hen hst hF1 hF2 hsince hdata hle
    have hb : b = false := hpend
    subst hb
    have hp : p = a.length := by simpa using hlen
    subst hp
    show Seg C.M A.in1 _ _ _ s₀ _ ((forTurn (.Tuple [.Name "pos" q1, .Name "ch" q2] k0 q3) (.ref (ga + 2)) bd [] env).onRaise (fun x => do noteFrame x env; theTreesLotGoes x)) _ s
    unfold forTurn
    rw [Sem.onRaise_eq_wrap]
    refine seg_bind_wrap (wpAny_standAt (seg_bind_wrap (wpAny_onRaise (W.done s _ _ ⟨hen, hst⟩ fun h' tk hk => ?_))))
    refine seg_again (c' := .block [] env) rfl ?_
    show Seg C.M A.in1 _ _ _ s₀ (.block [] env) (leafOf (.ok .next)) [_] _
    have H' : Hp (C.pin g .running) F { s with heap := h', toks := tk } := ⟨fun x o e => hk x o (fun w => by
      simp only [List.mem_cons, List.not_mem_nil, or_false] at w
      rcases w with rfl | rfl
      · rw [hF2] at e; cases e
      · rw [hF1] at e; cases e) (I.hp.inn x o e), I.hp.base, I.hp.os, I.hp.gens⟩
    obtain ⟨oL, hoL⟩ := (I.off _ I.wl).2
    have hs : ({ s with heap := h', toks := tk } : Shared).heap.get? env.locals = s.heap.get? env.locals := by
      rw [hoL]; exact hk _ _ (by simp only [List.mem_cons, List.not_mem_nil, or_false, not_or]; exact ⟨hL2, hL1⟩) hoL
    refine seg_leaf (.ok .next) (hfin s₀ _ F ρ (Inv.later (C := C.pin g .running) (C.pin g .running).gp I hc rfl V.fl H' (I.off _ I.wl).1 hs) V fun x o hx e => ?_)
    refine hk x o (fun w => hx ?_) (hsince x o hx e)
    simp only [List.mem_cons, List.not_mem_nil, or_false] at w
    exact .inr (w.elim .inr .inl)
  | cons c cs ih =>
    intro p b s₀ s F ρ hdp hlen hpend I V hen hst hF1 hF2 hsince hdata hle
    have hplt : p < a.length := by simp only [List.length_cons] at hlen; omega
    have hac : a[p]? = some c := by
      have : (a.drop p)[0]? = some c := by rw [hdp]; rfl
      rw [List.getElem?_drop] at this; simpa using this
    have hdp' : a.drop (p + 1) = cs := by
      have : (a.drop p).drop 1 = cs := by rw [hdp]; rfl
      rw [List.drop_drop] at this; exact this
    have hlen' : p + 1 + cs.length = a.length := by simp only [List.length_cons] at hlen; omega
    show Seg C.M A.in1 _ _ _ s₀ _ ((forTurn (.Tuple [.Name "pos" q1, .Name "ch" q2] k0 q3) (.ref (ga + 2)) bd [] env).onRaise (fun x => do noteFrame x env; theTreesLotGoes x)) _ s
    unfold forTurn
    rw [Sem.onRaise_eq_wrap]
    refine seg_bind_wrap (wpAny_standAt (seg_bind_wrap (wpAny_onRaise (W.item p s _ _ hplt ⟨hen, hst⟩ fun Ta vals h' tk hv hT ht hmid hk => ?_))))
    refine seg_bind_wrap (W.go _ _ _ p Ta _ _ _ hmid fun h'' st' hk2 => ?_)
    obtain ⟨o, ho, hoc, km, hod⟩ := ht
    have hTw := W.apart _ _ _ hmid
    have ho' : h''.get? Ta = some o := hk2 Ta o hTw ho
    have hTn : s.heap.get? Ta = none := by
      cases e : s.heap.get? Ta with
      | none => rfl
      | some o' => exact absurd (Heap.lt_size e) (Nat.not_lt.mpr hT)
    have hFn : F Ta = none := I.hp.none_of hTn
    have notwr : ∀ x, x ≠ ga + 2 → x ≠ ga + 1 → x ∉ [ga + 2, ga + 1] := fun x h1 h2 => by simp only [List.mem_cons, List.not_mem_nil, or_false, not_or]; exact ⟨h1, h2⟩
    have keep : ∀ x o, x ≠ ga + 2 → x ≠ ga + 1 → s.heap.get? x = some o → h''.get? x = some o := fun x o h1 h2 e => hk2 x o (notwr x h1 h2) (hk x o (notwr x h1 h2) e)
    have sub : Sub F (F.put Ta o) := Sub.put hFn
    obtain ⟨oL, hoL⟩ := (I.off _ I.wl).2
    have hTL : Ta ≠ env.locals := fun q => by rw [q, hoL] at hTn; cases hTn
    have hs : h''.get? env.locals = s.heap.get? env.locals := by rw [hoL]; exact keep _ _ hL2 hL1 hoL
    have H₂ : Hp (C.pin g .running) (F.put Ta o) { s with heap := h'', toks := tk } := ⟨fun x q e => by
      by_cases w : x = Ta
      · subst w; rw [Fn.put_self] at e; cases e; exact ho'
      · rw [Fn.put_ne w] at e
        exact keep x q (fun z => by rw [z, hF2] at e; cases e) (fun z => by rw [z, hF1] at e; cases e) (I.hp.inn x q e), fun x q e => sub _ _ (I.hp.base x q e), I.hp.os, I.hp.gens⟩
    have I₂ := Inv.later (C := C.pin g .running) (C.pin g .running).gp I hc rfl V.fl H₂ (by rw [Fn.put_ne (Ne.symm hTL)]; exact (I.off _ I.wl).1) hs
    obtain ⟨t, x, hx, rfl⟩ := hv
    obtain ⟨c', u, hc', rfl⟩ := hP p x hx
    rw [hac] at hc'; cases hc'
    have hcs : strV [c] := fun y hy => by simp at hy; subst hy; exact hstr _ (List.mem_of_getElem? hac)
    have rT : Rd (C.pin g .running) (F.put Ta o) (.tup [.int (.ofNat p), .str [c]]) (.ref Ta) := by
      simp only [Rd, RdL]
      exact ⟨Ta, o, _, km, rfl, Fn.put_self, hoc, hod, _, _, rfl, ⟨t, rfl⟩, _, [], rfl, ⟨hcs, u, rfl⟩, rfl⟩
    refine seg_bind_wrap (wp_target (C := C.pin g .running) (xs := [1, 3]) hA I₂ (.tup (.cons (by kernel_rfl) (mem_ok (by kernel_rfl)) (.cons (by kernel_rfl) (mem_ok (by kernel_rfl)) .nil))) rT rfl fun s₃ I₃ x₃ => ?_)
    generalize hρ3 : put 3 (.val (.str [c])) (put 1 (.val (.int (.ofNat p))) ρ) = ρ₃ at *
    have V3 : EscVars ρ₃ b ∧ get 1 ρ₃ = some (.val (.int (.ofNat p))) ∧ get 3 ρ₃ = some (.val (.str [c])) := by
      subst hρ3
      refine ⟨⟨flat_put (flat_put V.fl rfl) rfl, ?_⟩, ?_, ?_⟩
      · rw [get_put, if_neg (by decide), get_put, if_neg (by decide)]; exact V.esc
      · rw [get_put, if_neg (by decide), get_put, if_pos rfl]
      · rw [get_put, if_pos rfl]
    obtain ⟨V3a, V31, V33⟩ := V3
    have St3 := W.frame _ _ s₃.heap st' fun b hb o e => x₃.keep b o e fun q => by
      simp only [List.mem_cons, List.not_mem_nil, or_false] at hb
      rcases hb with h | h
      · exact hL2 (q.symm.trans h)
      · exact hL1 (q.symm.trans h)
    have k3 : ∀ x o, ¬ WG x → s₀.heap.get? x = some o → s₃.heap.get? x = some o := fun x o hx e => by
      have hx' : ¬ (x = env.locals ∨ x = ga + 1 ∨ x = ga + 2) := fun z => hx ((hwg x).mpr z)
      exact x₃.keep x o (keep x o (fun q => hx' (.inr (.inr q))) (fun q => hx' (.inr (.inl q))) (hsince x o hx' e)) (fun q => hx' (.inl q))
    have move : ∀ {s s' : Shared}, (∀ b o, s.heap.get? b = some o → s'.heap.get? b = some o) → ((∃ old, IsEnum s.heap (ga + 2) (ga + 1) ((p + 1 : Nat) : Int) old) ∧ St (p + 1) s.heap) → ((∃ old, IsEnum s'.heap (ga + 2) (ga + 1) ((p + 1 : Nat) : Int) old) ∧ St (p + 1) s'.heap) := fun h q => W.frame _ _ _ q fun b _ o e => h b o e
    have moveL : ∀ {s s' : Shared}, (∀ b o, s.heap.get? b = some o → b ≠ env.locals → s'.heap.get? b = some o) → ((∃ old, IsEnum s.heap (ga + 2) (ga + 1) ((p + 1 : Nat) : Int) old) ∧ St (p + 1) s.heap) → ((∃ old, IsEnum s'.heap (ga + 2) (ga + 1) ((p + 1 : Nat) : Int) old) ∧ St (p + 1) s'.heap) := fun h q => W.frame _ _ _ q fun b hb o e => h b o e fun q => by
      simp only [List.mem_cons, List.not_mem_nil, or_false] at hb
      rcases hb with h | h
      · exact hL2 (q.symm.trans h)
      · exact hL1 (q.symm.trans h)
    have alive : ∀ {F' : Fn} {ρ' : Rho} {s' : Shared}, Inv (C.pin g .running) T_esc env F' (· = env.locals) ρ' s' → ((∃ old, IsEnum s'.heap (ga + 2) (ga + 1) ((p + 1 : Nat) : Int) old) ∧ St (p + 1) s'.heap) → ∀ b, WG b → ∃ o, s'.heap.get? b = some o := fun I' q b hb => by
      obtain ⟨⟨old, q1⟩, q2⟩ := q
      rcases (hwg b).mp hb with rfl | rfl | rfl
      · exact (I'.off _ rfl).2
      · exact (Dr A.in1 Rm.handled).live _ _ q2
      · exact ⟨_, q1⟩
    have resume : ∀ {F' F'' : Fn} {ρ' : Rho} {b' : Bool} {s' s'' : Shared}, Inv (C.pin g .running) T_esc env F' (· = env.locals) ρ' s' → EscVars ρ' b' → ((∃ old, IsEnum s'.heap (ga + 2) (ga + 1) ((p + 1 : Nat) : Int) old) ∧ St (p + 1) s'.heap) → Hp (C.pin g .running) F'' s'' → (∀ b, WG b → F'' b = none) → (∀ b, WG b → s''.heap.get? b = s'.heap.get? b) →
        Inv (C.pin g .running) T_esc env F'' (· = env.locals) ρ' s'' ∧ ((∃ old, IsEnum s''.heap (ga + 2) (ga + 1) ((p + 1 : Nat) : Int) old) ∧ St (p + 1) s''.heap) := fun I' V' q H'' hf hw =>
      ⟨Inv.later (C := C.pin g .running) (C.pin g .running).gp I' hc rfl V'.fl H'' (hf _ ((hwg _).mpr (.inl rfl))) (hw _ ((hwg _).mpr (.inl rfl))), W.frame _ _ _ q fun b hb o e => (hw b ((hwg b).mpr (by
        simp only [List.mem_cons, List.not_mem_nil, or_false] at hb
        exact .inr (hb.elim .inr .inl)))).trans e⟩
    have again : ∀ (b' : Bool) (s₀' s' : Shared) (F' : Fn) (ρ' : Rho), Inv (C.pin g .running) T_esc env F' (· = env.locals) ρ' s' → EscVars ρ' b' → ((∃ old, IsEnum s'.heap (ga + 2) (ga + 1) ((p + 1 : Nat) : Int) old) ∧ St (p + 1) s'.heap) → F' (ga + 1) = none → F' (ga + 2) = none →
        (∀ x o, ¬ WG x → s₀'.heap.get? x = some o → s'.heap.get? x = some o) → pend b' cs = false → escGo (p + 1) b' cs = data.drop (data.length - (escGo (p + 1) b' cs).length) → (escGo (p + 1) b' cs).length ≤ data.length →
        Seg C.M A.in1 (genR C g WG) (genY C g WG data) (escGo (p + 1) b' cs).length s₀' (.forLoop (.Tuple [.Name "pos" q1, .Name "ch" q2] k0 q3) (.ref (ga + 2)) bd [] env) (.pure (.again (.forLoop (.Tuple [.Name "pos" q1, .Name "ch" q2] k0 q3) (.ref (ga + 2)) bd [] env))) [.ret kf none false [] (.func fbody env) p0 []] s' :=
      fun b' s₀' s' F' ρ' I' V' q h1 h2 hk hpd hd hl => seg_again rfl (ih (p + 1) b' s₀' s' F' ρ' hdp' hlen' hpd I' V' q.1 q.2 h1 h2 (fun x o hx e => hk x o (fun z => hx ((hwg x).mp z)) e) hd hl)
    have fn : ∀ {F₁ F' : Fn} {W' : Addr → Prop} {ρ' : Rho} {s₁ s' : Shared}, Inv (C.pin g .running) T_esc env F₁ (· = env.locals) ρ' s₁ → ((∃ old, IsEnum s₁.heap (ga + 2) (ga + 1) ((p + 1 : Nat) : Int) old) ∧ St (p + 1) s₁.heap) → F₁ (ga + 1) = none → F₁ (ga + 2) = none → Sp F₁ (· = env.locals) s₁ F' W' s' → F' (ga + 1) = none ∧ F' (ga + 2) = none := fun I' q h1 h2 v =>
      ⟨v.none h1 (alive I' q _ ((hwg _).mpr (.inr (.inl rfl)))) (Ne.symm hL1), v.none h2 (alive I' q _ ((hwg _).mpr (.inr (.inr rfl)))) (Ne.symm hL2)⟩
    have f3 : (F.put Ta o) (ga + 1) = none ∧ (F.put Ta o) (ga + 2) = none := ⟨by rw [Fn.put_ne fun q => hTw (by simp [← q])]; exact hF1, by rw [Fn.put_ne fun q => hTw (by simp [← q])]; exact hF2⟩
    rw [Sem.bind_eq_wrap', Sem.wrap_wrap]
    subst hbd
    refine seg_execs_cons (seg_if (C := C.pin g .running) (T := T_esc) (n := 0) (v := b) (semB_val (e_var (i := 2) (by kernel_rfl)) (fun _ _ => rfl)) hA I₃ (by unfold tru var; rw [V3a.esc]) fun s₄ F₄ v₄ I₄ => ?_)
    have St4 := move v₄.keep' St3
    have f4 := fn I₃ St3 f3.1 f3.2 v₄.of_ev
    have k4 : ∀ x o, ¬ WG x → s₀.heap.get? x = some o → s₄.heap.get? x = some o := fun x o hx e => v₄.keep' _ _ (k3 x o hx e)
    cases b with
    | true =>
      rw [if_pos rfl]
      obtain ⟨d1, d2⟩ := drop_len hdata hle
      refine seg_execs_cons (seg_pair (T := T_esc) (n := 0) (m := (escGo (p + 1) false cs).length) (e_var (i := 1) (by kernel_rfl)) (sem_bin op_add (e_str (l := [92]) (by kernel_rfl)) (e_var (i := 3) (by kernel_rfl))) (fun _ => rfl) (fun _ => rfl) hA I₄ (d1 := .int (.ofNat p)) (d2 := .str [92, c]) (by unfold var; rw [V31]) (by unfold bop cStr var; rw [V33]; rfl) rfl rfl rfl rfl hco hin d1 k4 (alive I₄ St4) fun s₆ s₅ F₆ F₅ v₅ I₅ H₆ hf hw => ?_)
      obtain ⟨I₆, St6⟩ := resume I₅ V3a (move v₅.keep' St4) H₆ hf hw
      refine seg_execs_cons (seg_stmt (C := C.pin g .running) (T := T_esc) (n := 0) (ρ' := put 2 (.val (.bool false)) ρ₃) (semS_asg (i := 2) (by kernel_rfl) (mem_ok (by kernel_rfl)) sem_bool (fun _ => rfl)) hA I₆ rfl fun s₇ F₇ W₇ v₇ I₇ => ?_)
      have V₇ : EscVars (put 2 (.val (.bool false)) ρ₃) false := ⟨flat_put V3a.fl rfl, by rw [get_put, if_pos rfl]⟩
      have f₆ := fn I₆ St6 (hf _ ((hwg _).mpr (.inr (.inl rfl)))) (hf _ ((hwg _).mpr (.inr (.inr rfl)))) v₇
      exact seg_execs_nil (again false s₆ s₇ F₇ _ (Inv.later (C := C.pin g .running) (C.pin g .running).gp I₇ hc rfl V₇.fl I₇.hp (I₇.off _ I₇.wl).1 rfl) V₇ (moveL (fun b o e hb => v₇.keep b o e hb) St6) f₆.1 f₆.2 (fun x o hx e => v₇.keep x o e fun q => hx ((hwg x).mpr (.inl q))) hpend d2 (Nat.le_of_succ_le hle))
    | false =>
      rw [if_neg Bool.false_ne_true]
      refine seg_execs_cons (seg_if (C := C.pin g .running) (T := T_esc) (n := 0) (v := Nat.beq c 92) (semB_cmp op_eq (e_var (i := 3) (by kernel_rfl)) (e_str (l := [92]) (by kernel_rfl)) rfl) hA I₄ (by unfold toB var cStr; rw [V33]; exact eqT_one c) fun s₅ F₅ v₅ I₅ => ?_)
      have St5 := move v₅.keep' St4
      have f5 := fn I₄ St4 f4.1 f4.2 v₅.of_ev
      have k5 : ∀ x o, ¬ WG x → s₀.heap.get? x = some o → s₅.heap.get? x = some o := fun x o hx e => v₅.keep' _ _ (k4 x o hx e)
      have hpend' : pend (Nat.beq c 92) cs = false := hpend
      have hd' : (match Nat.beq c 92 with | true => escGo (p + 1) true cs | false => .tup [.int (.ofNat p), .str [c]] :: escGo (p + 1) false cs) = data.drop (data.length - (match Nat.beq c 92 with | true => escGo (p + 1) true cs | false => .tup [.int (.ofNat p), .str [c]] :: escGo (p + 1) false cs).length) := hdata
      have hl' : (match Nat.beq c 92 with | true => escGo (p + 1) true cs | false => .tup [.int (.ofNat p), .str [c]] :: escGo (p + 1) false cs).length ≤ data.length := hle
      show Seg C.M A.in1 (genR C g WG) (genY C g WG data) (match Nat.beq c 92 with | true => escGo (p + 1) true cs | false => .tup [.int (.ofNat p), .str [c]] :: escGo (p + 1) false cs).length s₀ _ _ _ _
      generalize Nat.beq c 92 = q at hpend' hd' hl' ⊢
      cases q with
      | true =>
        rw [if_pos rfl]
        refine seg_execs_cons (seg_stmt (C := C.pin g .running) (T := T_esc) (n := 0) (ρ' := put 2 (.val (.bool true)) ρ₃) (semS_asg (i := 2) (by kernel_rfl) (mem_ok (by kernel_rfl)) sem_bool (fun _ => rfl)) hA I₅ rfl fun s₇ F₇ W₇ v₇ I₇ => ?_)
        have V₇ : EscVars (put 2 (.val (.bool true)) ρ₃) true := ⟨flat_put V3a.fl rfl, by rw [get_put, if_pos rfl]⟩
        have f₆ := fn I₅ St5 f5.1 f5.2 v₇
        exact seg_execs_nil (again true s₀ s₇ F₇ _ (Inv.later (C := C.pin g .running) (C.pin g .running).gp I₇ hc rfl V₇.fl I₇.hp (I₇.off _ I₇.wl).1 rfl) V₇ (moveL (fun b o e hb => v₇.keep b o e hb) St5) f₆.1 f₆.2 (fun x o hx e => v₇.keep x o (k5 x o hx e) fun q => hx ((hwg x).mpr (.inl q))) hpend' hd' hl')
      | false =>
        rw [if_neg Bool.false_ne_true]
        obtain ⟨d1, d2⟩ := drop_len hd' hl'
        refine seg_execs_cons (seg_pair (T := T_esc) (n := 0) (m := (escGo (p + 1) false cs).length) (e_var (i := 1) (by kernel_rfl)) (e_var (i := 3) (by kernel_rfl)) (fun _ => rfl) (fun _ => rfl) hA I₅ (d1 := .int (.ofNat p)) (d2 := .str [c]) (by unfold var; rw [V31]) (by unfold var; rw [V33]) rfl rfl rfl rfl hco hin d1 k5 (alive I₅ St5) fun s₇ s₆ F₇ F₆ v₆ I₆ H₇ hf hw => ?_)
        obtain ⟨I₇, St7⟩ := resume I₆ V3a (move v₆.keep' St5) H₇ hf hw
        exact seg_execs_nil (seg_execs_nil (again false s₇ s₇ F₇ _ I₇ V3a St7 (hf _ ((hwg _).mpr (.inr (.inl rfl)))) (hf _ ((hwg _).mpr (.inr (.inr rfl)))) (fun x o hx e => e) hpend' d2 (Nat.le_of_succ_le hl')))
end Mine.MI
end
-- MiGh
section
namespace Mine.MI
variable {C : Cx} {n : Nat} {T T' : St}

theorem esc_shape : ∃ (p1 p2 p3 p4 p5 p6 q1 q2 q3 en ea ep fp z1 z2 y1 y2 y3 y4 y5 : Pos) (k0 k1 k2 k3 k4 : Nat) (body : List Stmt), fBody (stm 3) = [.Assign [.Name "pos" p1] (.Constant (.int 0) k1 p2) p3, .Assign [.Name "escape" p4] (.Constant (.bool false) k2 p5) p6,
    .For (.Tuple [.Name "pos" q1, .Name "ch" q2] k0 q3) (.Call (.Name "enumerate" en) [.Name "addr" ea] [] ep) body [] fp, .If (.Name "escape" z1) [.Expr (.Yield (some (.Tuple [.Name "pos" y1, .Constant (.str "\\") k3 y2] k4 y3)) y4) y5] [] z2] ∧ escBody body :=
  ⟨_, _, _, _, _, _, _, _, _, _, _, _, _, _, _, _, _, _, _, _, _, _, _, _, _, _, rfl, _, _, _, _, _, _, _, _, _, _, _, _, _, _, _, _, _, _, _, _, _, _, _, _, _, _, _, _, _, _, rfl⟩
/-- a constant goes to a name; the heap's size stays -/
theorem seg_asgZ {A : Around} {R : GenEnd} {Y : Protocol} {m : Nat} {s₀ : Shared} {c : Code} {fs : List Frame} {s : Shared} {env : Env} {K : Flow → Sem Fin} {H : Value → Sem Fin} {gd : Bool → Bool} {lv : List Value → List Value} {F : Fn} {W : Addr → Prop} {ρ : Rho} {x : Str} {i : Nat} {q p : Pos} {e : Expr} {d : V}
    (hx : x = T.nm i) (hi : i ∈ T.locs) (hs : ∀ env, swapsWith e (some (.Name x q)) p.line env = pure false) (I : Inv C T env F W ρ s)
    (he : wpAny C.M (A.over c fs) (eval e env) (fun v s₁ => (∃ k, s₁ = { s with toks := k }) ∧ Rd C F d v) (fun _ _ => False) s)
    (k : ∀ s', Inv C T env F W (put i (.val d) ρ) s' → s'.heap.objs.size = s.heap.objs.size → Sp F W s F W s' → Seg C.M A R Y m s₀ c (K .next) fs s') :
    Seg C.M A R Y m s₀ c ((exec (.Assign [.Name x q] e p) env).wrap K H gd lv) fs s := by
  refine seg_wrap (wpAny_Assign_Name (wpAny_mono he (fun v s₁ w => ?_) fun _ _ z => z.elim) (hs env))
  obtain ⟨⟨tk, rfl⟩, r⟩ := w
  subst hx
  refine wp_store (I.ev (Ev.toks tk) (I.hp.toks tk)) hi fun s' S => ?_
  obtain ⟨I', x'⟩ := (I.ev (Ev.toks tk) (I.hp.toks tk)).stored (sl := .val d) hi (I.locs i hi).1 S ⟨v, S.here, r⟩ (fun _ _ q => nomatch q)
  exact k s' I' (S.place.choose_spec.2.2.1) ((Ev.toks tk).of_ev.trans x')
theorem esc_start {A : Around} {ga g : Nat} {env : Env} {a : List Nat} {F : Fn} {ρ : Rho} {s : Shared} (hgp : C.gp g = none) (Rm : Room 1 A) (hstr : strV a) (hpd : pend false a = false) (hc : env.cells = []) (hco : env.scope.isCoroutine = false) (hin : interactive env = false)
    (hL : env.locals < ga + 1) (I : Inv (C.pin g .running) T_esc env F (· = env.locals) ρ s) (fl : ∀ x sl, get x ρ = some sl → ∃ d, sl = .val d ∧ flat d = true) (h0 : get 0 ρ = some (.val (.str a))) (hsz : s.heap.objs.size = ga + 1) :
    Seg C.M A.in1 (genR C g fun x => x = env.locals ∨ x = ga + 1 ∨ x = ga + 2) (genY C g (fun x => x = env.locals ∨ x = ga + 1 ∨ x = ga + 2) (escGo 0 false a)) (escGo 0 false a).length s (.func (fBody (stm 3)) env) (C.M.den (.func (fBody (stm 3)) env)) [] s := by
  obtain ⟨p1, p2, p3, p4, p5, p6, q1, q2, q3, en, ea, ep, fp, z1, z2, y1, y2, y3, y4, y5, k0, k1, k2, k3, k4, body, hb, hbody⟩ := esc_shape
  rw [hb]
  generalize hfb : ([.Assign [.Name "pos" p1] (.Constant (.int 0) k1 p2) p3, .Assign [.Name "escape" p4] (.Constant (.bool false) k2 p5) p6,
    .For (.Tuple [.Name "pos" q1, .Name "ch" q2] k0 q3) (.Call (.Name "enumerate" en) [.Name "addr" ea] [] ep) body [] fp, .If (.Name "escape" z1) [.Expr (.Yield (some (.Tuple [.Name "pos" y1, .Constant (.str "\\") k3 y2] k4 y3)) y4) y5] [] z2] : List Stmt) = fbody
  refine seg_func ?_
  rw [show execs fbody env = execs [.Assign [.Name "pos" p1] (.Constant (.int 0) k1 p2) p3, .Assign [.Name "escape" p4] (.Constant (.bool false) k2 p5) p6,
    .For (.Tuple [.Name "pos" q1, .Name "ch" q2] k0 q3) (.Call (.Name "enumerate" en) [.Name "addr" ea] [] ep) body [] fp, .If (.Name "escape" z1) [.Expr (.Yield (some (.Tuple [.Name "pos" y1, .Constant (.str "\\") k3 y2] k4 y3)) y4) y5] [] z2] env by rw [hfb]]
  have R0 := Room.gen0 Rm fbody env
  refine seg_execs_cons (seg_asgZ (C := C.pin g .running) (T := T_esc) (i := 1) (d := .int 0) (by kernel_rfl) (mem_ok (by kernel_rfl)) (fun _ => rfl) I (wpAny_Constant_int ⟨⟨_, rfl⟩, rd_int _ _⟩) fun s₁ I₁ zz₁ x₁ => ?_)
  refine seg_execs_cons (seg_asgZ (C := C.pin g .running) (T := T_esc) (i := 2) (d := .bool false) (by kernel_rfl) (mem_ok (by kernel_rfl)) (fun _ => rfl) I₁ (wpAny_Constant_bool ⟨⟨s₁.toks, rfl⟩, rd_bool _⟩) fun s₂ I₂ zz₂ x₂ => ?_)
  have hs2 : s₂.heap.objs.size = ga + 1 := zz₂.trans (zz₁.trans hsz)
  have V₂ : EscVars (put 2 (.val (.bool false)) (put 1 (.val (.int 0)) ρ)) false := ⟨flat_put (flat_put fl rfl) rfl, by rw [get_put, if_pos rfl]⟩
  have g0 : get 0 (put 2 (.val (.bool false)) (put 1 (.val (.int 0)) ρ)) = some (.val (.str a)) := by rw [get_put, if_neg (by decide), get_put, if_neg (by decide)]; exact h0
  generalize put 2 (.val (.bool false)) (put 1 (.val (.int 0)) ρ) = ρ₂ at *
  have x₁₂ := x₁.trans x₂
  obtain ⟨_, v0, va, rv⟩ := I₂.vars 0 _ g0
  simp only [Rd] at rv
  obtain ⟨_, tk, rfl⟩ := rv
  have core : ∀ (P : Nat → Value → Prop) (St : Nat → Heap → Prop) (h' : Heap), (∀ A' : Around, A'.handled = none → Draws pg C.w A' (ga + 1) [ga + 1] a.length P St) → (∀ i v, P i v → ∃ c u, a[i]? = some c ∧ v = .str ⟨#[c]⟩ u) → St 0 h' → IsEnum h' (ga + 2) (ga + 1) 0 .none → (∀ b o, s₂.heap.get? b = some o → h'.get? b = some o) →
      ∀ kf p0, (∀ (s₀ s : Shared) (F : Fn) (ρ : Rho), Inv (C.pin g .running) T_esc env F (· = env.locals) ρ s → EscVars ρ false → (∀ x o, ¬ (x = env.locals ∨ x = ga + 1 ∨ x = ga + 2) → s₀.heap.get? x = some o → s.heap.get? x = some o) →
        Seg C.M A.in1 (genR C g fun x => x = env.locals ∨ x = ga + 1 ∨ x = ga + 2) (genY C g (fun x => x = env.locals ∨ x = ga + 1 ∨ x = ga + 2) (escGo 0 false a)) 0 s₀ (.func fbody env) (kf (.ok .next)) [] s) →
      Seg C.M A.in1 (genR C g fun x => x = env.locals ∨ x = ga + 1 ∨ x = ga + 2) (genY C g (fun x => x = env.locals ∨ x = ga + 1 ∨ x = ga + 2) (escGo 0 false a)) (escGo 0 false a).length s
        (.forLoop (.Tuple [.Name "pos" q1, .Name "ch" q2] k0 q3) (.ref (ga + 2)) body [] env) (C.M.den (.forLoop (.Tuple [.Name "pos" q1, .Name "ch" q2] k0 q3) (.ref (ga + 2)) body [] env)) [.ret kf none false [] (.func fbody env) p0 []] { s₂ with heap := h' } := by
    intro P St h' Dr hP st0 he hk kf p0 hfin
    obtain ⟨G1, G2⟩ := grown (s' := { s₂ with heap := h' }) I₂.hp hk rfl I₂.hp.gens
    have none : ∀ b, ga + 1 ≤ b → F b = none := fun b hb => I₂.hp.none_of (by
      cases e : s₂.heap.get? b with
      | none => rfl
      | some o => have := Heap.lt_size e; rw [hs2] at this; exact absurd this (Nat.not_lt.mpr hb))
    exact esc_loop hgp Rm.handled Rm Dr hP hstr (Nat.ne_of_lt hL) (Nat.ne_of_lt (Nat.lt_succ_of_lt hL)) hc hco hin hbody hfin a 0 false s _ F ρ₂ rfl (Nat.zero_add _) hpd (I₂.ev G1 G2) V₂ ⟨_, he⟩ st0 (none _ (Nat.le_refl _)) (none _ (Nat.le_succ _))
      (fun x o hx e => hk _ _ (x₁₂.keep x o e fun q => hx (.inl q))) (by simp) (Nat.le_refl _)
  refine seg_execs_cons ?_
  rw [exec_For]
  refine seg_bind_wrap (wpAny_standAt (seg_bind_wrap ?_))
  refine Call_Name rfl (wp_builtin (C := C.pin g .running) g_enum (v := .type "enumerate") (by rfl) (by decide) (by decide) I₂ (mem_ok (by kernel_rfl)) ?_)
  refine callWith_type1 (args_cons (wpAny_Name (wp_load I₂.kind va (args_nil ?_) rfl) rfl) rfl) rfl (by rfl)
  refine call_enumerate_str fun h' he hit hsz' hk => ?_
  rw [hs2] at he hit ⊢
  refine seg_bind_wrap (wpAny_of_eq (a := .ref (ga + 1 + 1)) rfl ?_)
  refine seg_bind_wrap (wpAny_standAt (seg_bind_wrap (wpAny_holding (wpAny_pyIter_enum he ?_))))
  refine seg_call fun p0 => ?_
  have hget : ∀ (i : Nat) (v : Value), (∃ c u, (toS a).cps[i]? = some c ∧ v = .str ⟨#[c]⟩ u) → ∃ c u, a[i]? = some c ∧ v = .str ⟨#[c]⟩ u := fun i v ⟨c, u, e1, e2⟩ => ⟨c, u, by simpa [toS] using e1, e2⟩
  have fin : ∀ (s₀ s : Shared) (F : Fn) (ρ : Rho), Inv (C.pin g .running) T_esc env F (· = env.locals) ρ s → EscVars ρ false → (∀ x o, ¬ (x = env.locals ∨ x = ga + 1 ∨ x = ga + 2) → s₀.heap.get? x = some o → s.heap.get? x = some o) →
      Seg C.M A.in1 (genR C g fun x => x = env.locals ∨ x = ga + 1 ∨ x = ga + 2) (genY C g (fun x => x = env.locals ∨ x = ga + 1 ∨ x = ga + 2) (escGo 0 false a)) 0 s₀ (.func fbody env)
        ((execs [.If (.Name "escape" z1) [.Expr (.Yield (some (.Tuple [.Name "pos" y1, .Constant (.str "\\") k3 y2] k4 y3)) y4) y5] [] z2] env).wrap (fun f => .pure (.done (.ret (match f with | .ret v => v | _ => .none)))) (fun e => (leaving env e).wrap (fun _ => .raise e) .raise id id) id id) [] s := by
    intro s₀ s F ρ I V hs
    refine seg_execs_cons (seg_if (C := C.pin g .running) (T := T_esc) (n := 0) (v := false) (semB_val (e_var (i := 2) (by kernel_rfl)) (fun _ _ => rfl)) R0 I (by unfold tru var; rw [V.esc]) fun s₄ F₄ v₄ I₄ => ?_)
    rw [if_neg Bool.false_ne_true]
    refine seg_execs_nil (seg_execs_nil (seg_end (.ok (.ret .none)) ⟨rfl, rfl, fun b o hb e => v₄.keep' _ _ (hs b o hb e), I₄.hp.os, I₄.hp.gens⟩))
  cases ha : (toS a).cps.all (· < 128)
  · have hit' : h'.IsStrIter (ga + 1) "str_iterator" (toS a) tk 0 := by simpa [strIterType, ha] using hit
    refine core _ _ h' (fun A' hh => by simpa [toS] using Draws.strWide hh (ga + 1) (toS a) tk) hget hit' he hk _ p0 fun s₀ s F ρ I V hs => ?_
    exact fin s₀ s F ρ I V hs
  · have hit' : h'.IsStrIter (ga + 1) "str_ascii_iterator" (toS a) tk 0 := by simpa [strIterType, ha] using hit
    refine core _ _ h' (fun A' hh => by simpa [toS] using Draws.strAscii hh (ga + 1) (toS a) tk) hget hit' he hk _ p0 fun s₀ s F ρ I V hs => ?_
    exact fin s₀ s F ρ I V hs
structure FrG (T : St) (scope : Scope) : Prop where
  nodup : T.nms.Nodup
  kind : scope.kind = .function
  globs : ∀ g ∈ T.globs, scope.names.lookup g = some .globalImplicit
  cells : ∀ x ∈ T.cells, scope.names.lookup (T.nm x) = some .cell
  locs : ∀ x ∈ T.locs, x < T.nms.length ∧ (scope.names.lookup (T.nm x) = some .local ∨ scope.names.lookup (T.nm x) = some .cell)
/-- a frame new made, with its arguments -/
theorem inv_newG {F : Fn} {s s' : Shared} {scope : Scope} {env : Env} {bs : List (Str × Value)} {ρ : Rho} (fr : FrG T scope) (H : Hp C F s) (hnd : (bs.map (·.1)).Nodup)
    (hv : ∀ y sl, get y ρ = some sl → y < T.nms.length ∧ (scope.names.lookup (T.nm y) = some .local ∨ scope.names.lookup (T.nm y) = some .cell) ∧ ∃ d v, sl = .val d ∧ (T.nm y, v) ∈ bs ∧ Rd C F d v)
    (hpin : ∀ x a, T.pin = some (x, a) → x ∉ T.locs ∧ x < T.nms.length ∧ (scope.names.lookup (T.nm x) = some .local ∨ scope.names.lookup (T.nm x) = some .cell) ∧ (T.nm x, Value.ref a) ∈ bs)
    (hsc : env.scope = scope) (hgl : env.globals = mainGlobals) (hbi : env.builtins = builtinsNs) (hL : env.locals = s.heap.objs.size) (hcs : env.cells = cellsFrom (s.heap.objs.size + 1) scope.names [])
    (x : InCallC s env.locals (bindL env.kindOf bs fun _ => none) env.cells (bindC env.kindOf bs fun _ => none) s') :
    Inv C T env F (fun a => a = env.locals ∨ ∃ y, env.cells.lookup y = some a) ρ s' ∧ Ev F s F s' ∧ ∀ a, (a = env.locals ∨ ∃ y, env.cells.lookup y = some a) → s.heap.get? a = none := by
  obtain ⟨h', tk, rfl, hk⟩ := x.done
  have fresh : ∀ a, s.heap.objs.size ≤ a → s.heap.get? a = none := fun a ha => by
    cases e : s.heap.get? a with
    | none => rfl
    | some o' => exact absurd (Heap.lt_size e) (Nat.not_lt.mpr ha)
  have nw : ∀ a, (a = env.locals ∨ ∃ y, env.cells.lookup y = some a) → s.heap.get? a = none := fun a ha => by
    rcases ha with rfl | ⟨y, hy⟩
    · exact fresh _ (Nat.le_of_eq hL.symm)
    · have := x.above y a (lookup_mem hy)
      rw [hL] at this
      exact fresh _ (Nat.le_of_lt this)
  obtain ⟨G1, G2⟩ := grown (s' := { s with heap := h', toks := tk }) H hk rfl H.gens
  have hkind : ∀ y, env.kindOf y = scope.names.lookup y := fun y => by show env.scope.names.lookup y = _; rw [hsc]
  have var : ∀ nm v, (nm, v) ∈ bs → (scope.names.lookup nm = some .local ∨ scope.names.lookup nm = some .cell) → VarAt env h' nm v := fun nm v hb q => by
    rcases q with q | q
    · exact .loc _ (by rw [hkind]; exact q) x.toInCall.ns (bindL_get (by rw [hkind]; exact q) hnd hb)
    · obtain ⟨c, hc⟩ := Option.isSome_iff_exists.mp (cellsFrom_some scope.names (s.heap.objs.size + 1) [] (.inl q))
      rw [← hcs] at hc
      have := x.cell _ c hc
      rw [bindC_get (by rw [hkind, q]; decide) hnd hb] at this
      exact .cell c (.inl (by rw [hkind]; exact q)) hc this
  refine ⟨⟨G2, fr.nodup, by rw [hsc]; exact fr.kind, hgl, hbi, ⟨fun g hg => by rw [hkind]; exact fr.globs g hg, fun y hy => by rw [hkind]; exact fr.cells y hy⟩, fun a w => ⟨H.none_of (nw a w), ?_⟩, .inl rfl, fun y c hc => ?_, ⟨_, x.toInCall.ns⟩, fun y hy => ?_, fun y sl g => ?_,
    fun y z dy dz a b _ gy _ => ?_, fun y a q => let ⟨p1, p2, p3, p4⟩ := hpin y a q; ⟨p1, p2, var _ _ p4 p3⟩⟩, G1, nw⟩
  · rcases w with rfl | ⟨y, hy⟩
    · obtain ⟨o, _, _, q, _⟩ := x.toInCall.ns; exact ⟨o, q⟩
    · obtain ⟨o, q, _⟩ := x.cell y a hy; exact ⟨o, q⟩
  · obtain ⟨o, q, _⟩ := x.cell y c hc; exact ⟨o, q⟩
  · obtain ⟨q1, q2⟩ := fr.locs y hy
    refine ⟨q1, q2.imp (fun q => by rw [hkind]; exact q) fun q => ⟨by rw [hkind]; exact q, ?_⟩⟩
    obtain ⟨c, hc⟩ := Option.isSome_iff_exists.mp (cellsFrom_some scope.names (s.heap.objs.size + 1) [] (.inl q))
    rw [← hcs] at hc
    exact ⟨c, hc, .inr ⟨_, hc⟩, fun w => absurd (x.above _ c (lookup_mem hc)) (by rw [w]; exact Nat.lt_irrefl _), ⟨_, x.cell _ c hc⟩, fun z hz w => hz (cells_apart x.apart w hc)⟩
  · obtain ⟨q1, q2, d, v, rfl, hb, rv⟩ := hv y sl g
    exact ⟨q1, v, var _ _ hb q2, rv⟩
  · obtain ⟨q1, q2, d, v, q, _⟩ := hv y _ gy
    cases q
theorem fa_87 : ∀ P, (K P).lookup 87 = some (o87_6 P) := fun P => by kernel_rfl
theorem esc_frame : FrG T_esc (fScope (stm 3)) := by
  have h : frB T_esc { fScope (stm 3) with isGenerator := false } = true := by kernel_rfl
  have f := frOk h
  exact ⟨f.nodup, f.kind, f.globs, f.cells, f.locs⟩
theorem gen_ok : GenOk C 1 87 escV := fun A F s x v ds R H r e => by
  unfold escV at e
  split at e
  rotate_left
  · cases e
  rename_i a
  obtain ⟨hk, e⟩ := chk_some e
  cases e
  have hpd : pend false a = false := by
    rw [Bool.and_eq_true] at hk
    simpa using hk.2
  have r' := r
  simp only [Rd] at r'
  obtain ⟨hstr, tk, rfl⟩ := r'
  have ho := H.K 87 _ (fa_87 C.w.params)
  refine wpAny_call (codeAny_call_generator R.limit ho rfl rfl rfl rfl (codeRec_of H.K (by kernel_rfl)) (wpAny_of_eq (a := [(("addr" : Str), Value.str (toS a) tk)]) rfl ?_))
  refine wpAny_newFunctionEnv_cells rfl (fun x hx => ?_) fun env he s' x => ?_
  · simp only [List.mem_cons, List.not_mem_nil, or_false] at hx
    subst hx
    exact .inl (by kernel_rfl)
  have hen : env.scope = fScope (stm 3) ∧ env.globals = mainGlobals ∧ env.builtins = builtinsNs ∧ env.locals = s.heap.objs.size ∧ env.cells = cellsFrom (s.heap.objs.size + 1) (fScope (stm 3)).names [] := by
    rw [he]; exact ⟨rfl, rfl, rfl, rfl, rfl⟩
  have hcn : ∀ m, cellsFrom m (fScope (stm 3)).names [] = [] := fun m => by kernel_rfl
  have hc : env.cells = [] := by rw [hen.2.2.2.2]; exact hcn _
  have fl : ∀ x sl, get x (put 0 (.val (.str a)) []) = some sl → ∃ d, sl = .val d ∧ flat d = true := flat_put (ρ := []) (fun x sl e => by cases e) rfl
  obtain ⟨I, v₁, nw⟩ := inv_newG (T := T_esc) (ρ := put 0 (.val (.str a)) []) esc_frame H (by simp) (fun y sl g => by
    rw [get_put] at g
    split at g
    · rename_i q; subst q; cases g
      exact ⟨by decide, .inl (by kernel_rfl), _, _, rfl, List.mem_singleton.mpr rfl, r⟩
    · cases g) (fun x a q => by cases q) hen.1 hen.2.1 hen.2.2.1 hen.2.2.2.1 hen.2.2.2.2 x
  have hgp : C.gp s'.gens.size = none := by
    cases q : C.gp s'.gens.size with
    | none => rfl
    | some st => have := I.hp.gens.2 _ _ q; rw [Array.getElem?_eq_none (Nat.le_refl _)] at this; cases this
  have lt : env.locals < s'.heap.objs.size := by obtain ⟨o, ho⟩ := (I.off _ I.wl).2; exact Heap.lt_size ho
  have gk : ∀ (gs : GenState), gs.bare = true → GOk C (s'.gens.push gs) ∧ (s'.gens.push gs)[s'.gens.size]? = some gs := fun gs hb => by
    refine ⟨⟨fun y hy => ?_, fun i st e => ?_⟩, by simp⟩
    · rcases Array.mem_push.mp hy with h | h
      · exact I.hp.gens.1 y h
      · rw [h]; exact hb
    · have := I.hp.gens.2 i st e
      have hlt : i < s'.gens.size := by
        rcases Nat.lt_or_ge i s'.gens.size with h | h
        · exact h
        · rw [Array.getElem?_eq_none h] at this; cases this
      rw [Array.getElem?_push_lt hlt, ← this, Array.getElem?_eq_getElem hlt]
  refine ⟨C.T.nolimit.keeps fun b o e => x.toInCall.keep b o (H.inn _ _ (H.base _ _ e)), s'.heap.objs.size, s'.gens.size, .fresh (.func (fBody (stm 3)) env), F.put s'.heap.objs.size { cls := .type "generator", data := .fields #[.int s'.gens.size 0, .str "_iter_escaped_chars" s'.toks, .str "_iter_escaped_chars" (s'.toks + 1)] }, env.locals, rfl, hgp, ?_⟩
  have gk1 := gk (.fresh (.func (fBody (stm 3)) env)) rfl
  obtain ⟨G1, G2⟩ := take_up (s' := { s' with gens := s'.gens.push (.fresh (.func (fBody (stm 3)) env)), toks := s'.toks + 1 + 1, heap := s'.heap.push { cls := .type "generator", data := .fields #[.int s'.gens.size 0, .str "_iter_escaped_chars" s'.toks, .str "_iter_escaped_chars" (s'.toks + 1)] } }) I.hp (get?_size _) (Heap.get?_push_size _ rfl) (fun _ _ e => Heap.get?_push_of_some _ e) rfl gk1.1
  have G3 : Hp (C.pin s'.gens.size (.fresh (.func (fBody (stm 3)) env))) _ _ := ⟨G2.inn, G2.base, G2.os, gk1.1.1, fun i st e => by
    have e : (if i = s'.gens.size then some (GenState.fresh (.func (fBody (stm 3)) env)) else C.gp i) = some st := e
    split at e
    · rename_i q; cases e; rw [q]; exact gk1.2
    · exact gk1.1.2 i st e⟩
  have same : ∀ o, (s'.heap.push o).get? env.locals = s'.heap.get? env.locals := fun o => by
    obtain ⟨p, hp⟩ := (I.off _ I.wl).2
    rw [hp]; exact Heap.get?_push_of_some _ hp
  refine ⟨Sp.trans v₁ G1, G3, ⟨_, Fn.put_self, rfl⟩, ⟨_, _, _, Heap.get?_push_size _ rfl, rfl, rfl, rfl⟩, Heap.size_push .., nw _ (.inl rfl), ?_, ?_, ?_, ?_⟩
  · rw [Fn.put_ne (Nat.ne_of_lt lt)]; exact (I.off _ I.wl).1
  · obtain ⟨o, ho⟩ := (I.off _ I.wl).2; exact ⟨o, Heap.get?_push_of_some _ ho⟩
  · cases q : s.heap.get? s'.heap.objs.size with
    | none => rfl
    | some o => exact absurd (Heap.lt_size (v₁.keep' _ _ q)) (Nat.lt_irrefl _)
  · refine gnx_of R.handled R.limit hgp ⟨rfl, ⟨_, _, rfl⟩, rfl⟩ (escGo 0 false a) true _ _ _ (by simp) (Nat.le_refl _) Fn.put_self fun s₃ F₁ H₃ hf hw hz => ⟨rfl, ?_⟩
    exact esc_start hgp R hstr hpd hc (by rw [hen.1]; rfl) (inter_ok env (by rw [hen.1]; rfl)) (Nat.lt_succ_of_lt lt) (Inv.later (C := C) (C.pin s'.gens.size .running).gp I hc rfl fl H₃ (hf _ (.inl rfl)) ((hw _ (.inl rfl)).trans (same _))) fl (by rfl) (hz rfl)
end Mine.MI
end
-- MiDn
section
namespace Mine.MI
noncomputable def primS (k b : Nat) : D := fun ρ => match get 0 ρ, get k ρ, get b ρ with | some (.val .scr), some (.val (.int (.ofNat i))), some (.val (.int (.ofNat j))) => (match Nat.beq j (match i with | 0 => 87 | 1 => 4 | _ => 25), Nat.blt i 3 with | true, true => some (.si i) | _, _ => none) | _, _, _ => none
noncomputable def wideN (wideV : V) : D := fun ρ => match get 0 ρ with | some (.val .scr) => some wideV | _ => none
noncomputable def bgLongest : DS := (block [unpack [1, 2] (attr (var 0) 3), ret (bop max2 (bop sub (un lenV (var 1)) (cInt 1)) (var 2))])
noncomputable def gLongest : List V → Option V := fn [0] bgLongest
noncomputable def bgIndent : DS := (block [unpack [2, 3] (attr (var 0) 3), asg 4 (cInt 0), forS [5] (range2 (var 1) (un lenV (var 2))) (block [asg 4 (bop add (var 4) (bop mul (bop fdiv (var 5) (var 1)) (bop item (var 2) (var 5))))]), ret (bop add (var 3) (bop mul (var 1) (bop add (var 4) (attr (var 0) 2))))])
noncomputable def gIndent : List V → Option V := fn [0, 1] bgIndent
noncomputable def bgEqual : DS := (block [ret (ofB (toB eqT (attr (var 0) 3) (attr (var 1) 3)))])
noncomputable def gEqual : List V → Option V := fn [0, 1] bgEqual
noncomputable def bgNeq : DS := (block [asg 2 (bop add (bop max2 (callM gLongest (var 0) []) (callM gLongest (var 1) [])) (cInt 1)), asgo 3 (lstE []), forS [4] (range2 (cInt 1) (bop add (var 2) (cInt 1))) (block [ifS (toB neT (callM gIndent (var 0) [var 4]) (callM gIndent (var 1) [var 4])) (block [append 3 (tupE [var 4, callM gIndent (var 0) [var 4], callM gIndent (var 1) [var 4]])]) (block [])]), freeze 3 (ret (var 3))])
noncomputable def gNeq : List V → Option V := fn [0, 1] bgNeq
noncomputable def bgLess : DS := (block [ifS (toB geV (attr (var 0) 1) (attr (var 1) 1)) (block [ret (cBool false)]) (block []), ifS (andB (tru (attr (var 0) 4)) (tru (attr (var 1) 4))) (block [ret (ofB (toB leV (attr (var 0) 2) (attr (var 1) 2)))]) (block []), asg 2 (bop add (bop max2 (callM gLongest (var 0) []) (callM gLongest (var 1) [])) (cInt 1)), forS [3] (range2 (cInt 2) (bop add (var 2) (cInt 1))) (block [ifS (toB geV (callM gIndent (var 0) [var 3]) (callM gIndent (var 1) [var 3])) (block [ret (cBool false)]) (block [])]), ret (cBool true)])
noncomputable def gLess : List V → Option V := fn [0, 1] bgLess
noncomputable def bgNless : DS := (block [asg 2 (bop add (bop max2 (callM gLongest (var 0) []) (callM gLongest (var 1) [])) (cInt 1)), asgo 3 (lstE []), forS [4] (range2 (cInt 1) (bop add (var 2) (cInt 1))) (block [ifS (toB geV (callM gIndent (var 0) [var 4]) (callM gIndent (var 1) [var 4])) (block [append 3 (tupE [var 4, callM gIndent (var 0) [var 4], callM gIndent (var 1) [var 4]])]) (block [])]), freeze 3 (ret (var 3))])
noncomputable def gNless : List V → Option V := fn [0, 1] bgNless
noncomputable def bgWs : DS := (block [setattr 0 0 (var 1), multiV [2, 3] [cStr [32], cStr [9]], asgo 4 (lstE []), chain [5, 6, 7] (cInt 0), forS [8] (ofI (peek 0 (attr (var 0) 0))) (block [ifS (toB eqT (var 8) (var 2)) (block [asg 6 (bop add (var 6) (cInt 1)), asg 5 (bop add (var 5) (cInt 1))]) (block [ifS (toB eqT (var 8) (var 3)) (block [asg 6 (bop add (var 6) (cInt 1)), asg 7 (bop add (var 7) (cInt 1)), ifS (toB geV (var 5) (peek 4 (un lenV (var 4)))) (block [freeze 4 (asgo 4 (bop addL (var 4) (bop mul (lstE [cInt 0]) (bop add (bop sub (var 5) (un lenV (var 4))) (cInt 1)))))]) (block []), setidx 4 (var 5) (peek 4 (bop add (bop item (var 4) (var 5)) (cInt 1))), asg 5 (cInt 0)]) (block [brk])])]), setattr 0 1 (var 6), setattr 0 2 (var 7), freeze 4 (setattr 0 3 (tupE [un tupV (var 4), var 5])), setattr 0 4 (ofB (toB leV (un lenV (var 4)) (cInt 1)))])
noncomputable def gWs : List V → Option V := newObj bgWs [1] 0
noncomputable def bgStrip : DS := (block [ifS (toB notinV (cStr [34]) (var 0)) (block [ret (var 0)]) (block []), asg 1 (cInt 0), asg 2 (cNone), asgo 3 (lstE []), forG [4, 5] escV (var 0) (block [ifS (toB eqT (var 5) (cStr [34])) (block [ifS (isNone 2) (block [asg 2 (var 4)]) (block [ifS (toB neT (var 1) (var 2)) (block [append 3 (slice (var 0) (var 1) (var 2))]) (block []), asg 1 (bop add (var 4) (cInt 1)), asg 2 (cNone)])]) (block [])]), ifS (toB ltV (var 1) (un lenV (var 0))) (block [append 3 (sliceL (var 0) (var 1))]) (block []), ret (peek 3 (un joinV (var 3)))])
noncomputable def gStrip : List V → Option V := fn [0] bgStrip
noncomputable def bgParen : DS := (block [asg 0 (call (gStrip) [var 0]), asg 1 (cInt 0), forG [2, 3] escV (var 0) (block [ifS (toB eqT (var 3) (cStr [40])) (block [asg 1 (bop addI (var 1) (cInt 1))]) (block [ifS (toB eqT (var 3) (cStr [41])) (block [asg 1 (bop subI (var 1) (cInt 1)), ifS (toB ltV (var 1) (cInt 0)) (block [ret (cBool false)]) (block [])]) (block [])])]), ret (ofB (toB eqT (var 1) (cInt 0)))])
noncomputable def gParen : List V → Option V := fn [0] bgParen
noncomputable def bgSign : DS := (block [asg 1 (bop item (lstE [cInt 0, cInt 1, cInt 2, cInt 4, cInt 7, cInt 8, cInt 9, cInt 10, cInt 11, cInt 12]) (bop md (bop fdiv (var 0) (cInt 8)) (cInt 10))), unpack [2, 3] (bop item (lstE [tupE [bop add (cInt 119815) (bop mul (cInt 52) (var 1)), cStr [104]], tupE [bop add (cInt 119823) (bop mul (cInt 52) (var 1)), cStr [112]], tupE [cInt 13259, cStr [104, 112]], tupE [cInt 13271, cStr [112, 104]], tupE [cInt 13273, cStr [112, 112, 109]], tupE [cInt 13169, cStr [104, 112, 97]], tupE [cInt 13261, cStr [107, 107]], tupE [cInt 13201, cStr [107, 104, 122]]]) (bop md (var 0) (cInt 8))), asg 4 (bop add (lstE [cInt 173, cInt 847, cInt 6150, cInt 6155, cInt 6156, cInt 6157, cInt 8203, cInt 8204, cInt 8205, cInt 8288, cInt 65279]) (bop rangeLst (cInt 65024) (cInt 65040))), ret (tupE [bop add (bop mul (un chrV (bop item (var 4) (bop md (bop fdiv (var 0) (cInt 160)) (cInt 27)))) (bop md (bop fdiv (var 0) (cInt 80)) (cInt 2))) (un chrV (var 2)), var 3])])
noncomputable def gSign : List V → Option V := fn [0] bgSign
noncomputable def bgPiece : DS := (block [ret (bop item (dctE [(cStr [104], cStr [124, 40]), (cStr [107], cStr [124, 92, 34, 40, 92, 34]), (cStr [112], cStr [124, 41]), (cStr [109], cStr [34, 41, 34]), (cStr [97], cStr [92, 40]), (cStr [122], cStr [92, 92, 34])]) (var 0))])
noncomputable def gPiece : List V → Option V := fn [0] bgPiece
noncomputable def bgEnds : DS := (block [multi [(2, true), (3, false), (4, false)] [lstE [], dctE [(var 0, cInt 1)], cInt 0], whileN (toB neD (var 3) (dctE [])) (block [asgo 5 (dctE []), forS [6] (ofI (var 3)) (block [asg 8 (comp1 [6, 1] [7] (range1 (bop sub (un lenV (var 6)) (var 1))) [andB (toB eqT (bop item (var 6) (var 7)) (cStr [40])) (toB eqT (bop item (var 6) (bop add (var 7) (var 1))) (cStr [41]))] (var 7)), forS [7] (ofI (var 8)) (block [asg 9 (bop add (bop add (bop add (bop add (sliceH (var 6) (var 7)) (cStr [41])) (slice (var 6) (bop add (var 7) (cInt 1)) (bop add (var 7) (var 1)))) (cStr [40])) (sliceL (var 6) (bop add (bop add (var 7) (var 1)) (cInt 1)))), setidx 5 (var 9) (peek 5 (bop add (getD (var 5) (var 9) (cInt 0)) (bop item (var 3) (var 6))))]), ifS (toB eqT (var 8) (lstE [])) (block [append 2 (tupE [var 4, bop item (var 3) (var 6)])]) (block [])]), freeze 5 (multiV [3, 4] [var 5, bop add (var 4) (cInt 1)])]) 12, freeze 2 (ret (var 2))])
noncomputable def gEnds : List V → Option V := fn [0, 1] bgEnds
noncomputable def bgFact : DS := (block [asg 1 (cInt 1), forS [2] (range1 (var 0)) (block [asg 1 (bop mul (var 1) (bop add (var 2) (cInt 1)))]), ret (var 1)])
noncomputable def gFact : List V → Option V := fn [0] bgFact
noncomputable def bgLead : DS := (block [ret (call (gWs) [bop add (bop add (un joinV (comp1 [] [2] (ofI (var 0)) [] (bop add (bop mul (cStr [32]) (var 2)) (cStr [9])))) (bop mul (cStr [32]) (var 1))) (cStr [120, 9, 32])])])
noncomputable def gLead : List V → Option V := fn [0, 1] bgLead
noncomputable def lw0 (sg : List V → Option V) : DS := asg 1 (comp1 [0] [2, 3] (enumI (lstE [cInt 87, cInt 4, cInt 25])) [] (call sg [primS 2 3]))
noncomputable def lw1 : DS := asg 7 (un joinV (comp2 [] [4, 5] (ofI (var 1)) [] [6] (ofI (var 4)) [toB isV (call (oIn) [var 6]) (cBool false)] (call (oMap) [var 6])))
noncomputable def lw2 : DS := ifS (toB neT (var 7) (un joinV (comp1 [] [4, 5] (ofI (var 1)) [] (var 5)))) (block [ret (cBool false)]) (block [])
noncomputable def lw3 : DS := asg 9 (sliceL (un (splitV 124) (un joinV (comp1 [] [8] (ofI (var 7)) [] (call (gPiece) [var 8])))) (cInt 1))
noncomputable def lw4 : DS := asg 10 (un joinV (comp1 [] [8] (ofI (var 7)) [toB inV (var 8) (cStr [104, 107, 112])] (ite (toB eqT (var 8) (cStr [112])) (cStr [41]) (cStr [40]))))
noncomputable def lw5 : DS := asg 13 (comp2 [9] [11] (range1 (un lenV (var 9))) [] [12] (range1 (var 11)) [] (tupE [bop sub (var 11) (var 12), call (gParen) [bop add (bop add (bop item (var 9) (var 12)) (cStr [40, 41])) (bop item (var 9) (var 11))]]))
noncomputable def lw6 : DS := asg 16 (comp1 [] [14, 15] (ofI (var 13)) [toB isV (var 15) (cBool true)] (var 14))
noncomputable def lw7 : DS := ifS (toB neT (comp1 [] [14, 15] (ofI (var 13)) [andB (toB isntV (var 15) (cBool true)) (toB isntV (var 15) (cBool false))] (var 14)) (lstE [])) (block [ret (cBool false)]) (block [])
noncomputable def lw8 : DS := multiV [17, 18, 19] [call (gLead) [comp1 [] [14] (ofI (var 16)) [] (bop sub (var 14) (cInt 1)), cInt 0], call (gLead) [var 16, cInt 3], call (gLead) [comp1 [] [14] (ofI (var 16)) [] (bop sub (var 14) (cInt 1)), cInt 3]]
noncomputable def lw9 : DS := asg 20 (call (gLead) [bop add (comp1 [] [14] (ofI (var 16)) [] (bop sub (var 14) (cInt 1))) (lstE [un lenV (var 16)]), cInt 0])
noncomputable def lw10 : DS := asg 22 (comp1 [10] [21] (range2 (cInt 1) (bop add (un max1 (bop add (lstE [cInt 3]) (var 16))) (cInt 2))) [] (call (gEnds) [var 10, var 21]))
noncomputable def lw11 : DS := asgo 23 (lstE [])
noncomputable def lw12 : DS := forS [21] (range2 (cInt 1) (bop add (un lenV (var 22)) (cInt 1))) (block [asg 24 (comp1 [17, 21, 18] [2] (range2 (cInt 1) (cInt 6)) [] (bop fdiv (bop sub (bop sub (callM gIndent (var 18) [bop mul (var 21) (var 2)]) (cInt 3)) (callM gIndent (var 17) [bop mul (var 21) (var 2)])) (bop mul (var 21) (var 2)))), asg 25 (bop mul (bop mul (bop pow (cInt 2) (bop add (bop item (var 24) (cInt 1)) (bop item (var 24) (cInt 3)))) (bop pow (cInt 3) (bop item (var 24) (cInt 2)))) (bop pow (cInt 5) (bop item (var 24) (cInt 4)))), ifS (toB neT (bop item (var 22) (bop sub (var 21) (cInt 1))) (lstE [tupE [bop item (var 24) (cInt 0), bop fdiv (call (gFact) [bop item (var 24) (cInt 0)]) (var 25)]])) (block [ret (cBool false)]) (block []), asg 26 (un sumV (comp1 [21] [14] (ofI (var 16)) [] (bop mul (var 21) (bop add (bop fdiv (bop sub (var 14) (cInt 1)) (var 21)) (cInt 1))))), append 23 (tupE [var 21, var 26, bop add (bop add (var 26) (bop mul (var 21) (bop item (var 24) (cInt 0)))) (cInt 3)]), ifS (toB neT (callM gIndent (var 20) [var 21]) (bop add (var 26) (bop mul (var 21) (bop add (bop fdiv (un lenV (var 16)) (var 21)) (cInt 1))))) (block [ret (cBool false)]) (block [])])
noncomputable def lw13 (wv : V) : DS := freeze 23 (multiV [27, 28] [(wideN wv), un lenV (var 16)])
noncomputable def lw14 : DS := ifS (toB neT (lstE [callM gIndent (var 17) [var 27], callM gIndent (var 18) [var 27]]) (lstE [bop mul (var 27) (var 28), bop add (bop mul (var 27) (var 28)) (cInt 3)])) (block [ret (cBool false)]) (block [])
noncomputable def lw15 : DS := ifS (toB neT (callM gIndent (var 20) [var 27]) (bop mul (var 27) (bop add (bop add (var 28) (cInt 1)) (bop fdiv (var 28) (var 27))))) (block [ret (cBool false)]) (block [])
noncomputable def lw16 : DS := ifS (orB (toB neT (callM gNeq (var 17) [var 18]) (var 23)) (toB isntV (callM gLess (var 17) [var 18]) (cBool true))) (block [ret (cBool false)]) (block [])
noncomputable def lw17 : DS := ifS (toB neT (callM gNless (var 18) [var 17]) (comp1 [] [21, 26, 29] (ofI (var 23)) [] (tupE [var 21, var 29, var 26]))) (block [ret (cBool false)]) (block [])
noncomputable def lw18 : DS := asg 30 (comp1 [] [21, 26, 29] (ofI (var 23)) [toB neT (var 29) (bop add (var 26) (cInt 3))] (tupE [var 21, bop add (var 26) (cInt 3), var 29]))
noncomputable def lw19 : DS := asg 31 (comp1 [] [21, 26, 29] (ofI (var 23)) [toB eqT (var 29) (bop add (var 26) (cInt 3))] (tupE [var 21, bop add (var 26) (cInt 3), var 29]))
noncomputable def lw20 : DS := ifS (orB (toB neT (callM gNeq (var 19) [var 18]) (var 30)) (toB neT (callM gNless (var 19) [var 18]) (var 31))) (block [ret (cBool false)]) (block [])
noncomputable def lw21 : DS := ifS (orB (toB isntV (callM gLess (var 19) [var 18]) (cBool false)) (toB isntV (callM gEqual (var 19) [var 17]) (cBool false))) (block [ret (cBool false)]) (block [])
noncomputable def lw22 : DS := ret (ofB (toB isV (callM gEqual (call (gLead) [bop add (var 16) (lstE [cInt 0]), cInt 0]) [var 20]) (ofB (toB eqT (bop item (bop item (bop item (var 22) (cInt 0)) (cInt 0)) (cInt 1)) (cInt 1)))))
noncomputable def T_longest_run_of_spaces : St := ⟨["self", "count", "trailing"], ["max", "len"], [0, 1, 2], [], none⟩
noncomputable def T_indent_level : St := ⟨["self", "tabsize", "count", "trailing", "il", "i"], ["range", "len"], [0, 1, 2, 3, 4, 5], [], none⟩
noncomputable def T_equal : St := ⟨["self", "other"], [], [0, 1], [], none⟩
noncomputable def T_not_equal_witness : St := ⟨["self", "other", "n", "a", "ts"], ["max", "range"], [0, 1, 2, 3, 4], [], none⟩
noncomputable def T_less : St := ⟨["self", "other", "n", "ts"], ["max", "range"], [0, 1, 2, 3], [], none⟩
noncomputable def T_not_less_witness : St := ⟨["self", "other", "n", "a", "ts"], ["max", "range"], [0, 1, 2, 3, 4], [], none⟩
noncomputable def T_init : St := ⟨["self", "ws", "S", "T", "count", "b", "n", "nt", "ch"], ["Whitespace", "len", "tuple"], [1, 2, 3, 4, 5, 6, 7, 8], [], none⟩
noncomputable def T_strip_quoted_realnames : St := ⟨["addr", "start", "open_pos", "result", "pos", "ch"], ["_iter_escaped_chars", "len"], [0, 1, 2, 3, 4, 5], [], none⟩
noncomputable def T_check_parenthesis : St := ⟨["addr", "opens", "pos", "ch"], ["_strip_quoted_realnames", "_iter_escaped_chars"], [0, 1, 2, 3], [], none⟩
noncomputable def T_law_sign : St := ⟨["n", "alphabet", "code", "letters", "unseen"], ["list", "range", "chr"], [0, 1, 2, 3, 4], [], none⟩
noncomputable def T_law_piece : St := ⟨["letter"], [], [0], [], none⟩
noncomputable def T_law_ends : St := ⟨["row", "size", "ends", "ways", "steps", "after", "now", "k", "free", "then"], ["range", "len"], [0, 1, 2, 3, 4, 5, 6, 8, 7, 9], [1, 6], none⟩
noncomputable def T_law_ends_1 : St := ⟨["row", "size", "ends", "ways", "steps", "after", "now", "k", "free", "then"], [], [7], [], none⟩
noncomputable def T_law_factorial : St := ⟨["n", "whole", "k"], ["range"], [0, 1, 2], [], none⟩
noncomputable def T_law_lead : St := ⟨["runs", "behind", "run"], ["Whitespace"], [0, 1], [], none⟩
noncomputable def T_law_lead_1 : St := ⟨["runs", "behind", "run"], [], [2], [], none⟩
noncomputable def T_law : St := ⟨["script", "drawn", "k", "base", "spelled", "letters", "sign", "told", "letter", "pieces", "row", "j", "i", "asked", "d", "taken", "far", "lower", "upper", "later", "whole", "size", "played", "due", "gain", "shared", "first", "wide", "pairs", "second", "moved", "still"], ["enumerate", "range", "len", "_law_lead", "max", "_law_factorial", "sum"], [0, 1, 7, 9, 10, 13, 16, 17, 18, 19, 20, 22, 23, 21, 24, 25, 26, 27, 28, 30, 31], [0, 9, 10, 17, 18, 21], none⟩
noncomputable def T_law_1 : St := ⟨["script", "drawn", "k", "base", "spelled", "letters", "sign", "told", "letter", "pieces", "row", "j", "i", "asked", "d", "taken", "far", "lower", "upper", "later", "whole", "size", "played", "due", "gain", "shared", "first", "wide", "pairs", "second", "moved", "still"], ["_law_sign", "sum"], [2, 3], [], none⟩
noncomputable def T_law_2 : St := ⟨["script", "drawn", "k", "base", "spelled", "letters", "sign", "told", "letter", "pieces", "row", "j", "i", "asked", "d", "taken", "far", "lower", "upper", "later", "whole", "size", "played", "due", "gain", "shared", "first", "wide", "pairs", "second", "moved", "still"], ["in_table_b1", "map_table_b3"], [4, 5, 6], [], none⟩
noncomputable def T_law_3 : St := ⟨["script", "drawn", "k", "base", "spelled", "letters", "sign", "told", "letter", "pieces", "row", "j", "i", "asked", "d", "taken", "far", "lower", "upper", "later", "whole", "size", "played", "due", "gain", "shared", "first", "wide", "pairs", "second", "moved", "still"], [], [4, 5], [], none⟩
noncomputable def T_law_4 : St := ⟨["script", "drawn", "k", "base", "spelled", "letters", "sign", "told", "letter", "pieces", "row", "j", "i", "asked", "d", "taken", "far", "lower", "upper", "later", "whole", "size", "played", "due", "gain", "shared", "first", "wide", "pairs", "second", "moved", "still"], ["_law_piece"], [8], [], none⟩
noncomputable def T_law_5 : St := ⟨["script", "drawn", "k", "base", "spelled", "letters", "sign", "told", "letter", "pieces", "row", "j", "i", "asked", "d", "taken", "far", "lower", "upper", "later", "whole", "size", "played", "due", "gain", "shared", "first", "wide", "pairs", "second", "moved", "still"], [], [8], [], none⟩
noncomputable def T_law_6 : St := ⟨["script", "drawn", "k", "base", "spelled", "letters", "sign", "told", "letter", "pieces", "row", "j", "i", "asked", "d", "taken", "far", "lower", "upper", "later", "whole", "size", "played", "due", "gain", "shared", "first", "wide", "pairs", "second", "moved", "still"], ["range", "_check_parenthesis"], [11, 12], [], none⟩
noncomputable def T_law_7 : St := ⟨["script", "drawn", "k", "base", "spelled", "letters", "sign", "told", "letter", "pieces", "row", "j", "i", "asked", "d", "taken", "far", "lower", "upper", "later", "whole", "size", "played", "due", "gain", "shared", "first", "wide", "pairs", "second", "moved", "still"], [], [14, 15], [], none⟩
noncomputable def T_law_8 : St := ⟨["script", "drawn", "k", "base", "spelled", "letters", "sign", "told", "letter", "pieces", "row", "j", "i", "asked", "d", "taken", "far", "lower", "upper", "later", "whole", "size", "played", "due", "gain", "shared", "first", "wide", "pairs", "second", "moved", "still"], [], [14, 15], [], none⟩
noncomputable def T_law_9 : St := ⟨["script", "drawn", "k", "base", "spelled", "letters", "sign", "told", "letter", "pieces", "row", "j", "i", "asked", "d", "taken", "far", "lower", "upper", "later", "whole", "size", "played", "due", "gain", "shared", "first", "wide", "pairs", "second", "moved", "still"], [], [14], [], none⟩
noncomputable def T_law_10 : St := ⟨["script", "drawn", "k", "base", "spelled", "letters", "sign", "told", "letter", "pieces", "row", "j", "i", "asked", "d", "taken", "far", "lower", "upper", "later", "whole", "size", "played", "due", "gain", "shared", "first", "wide", "pairs", "second", "moved", "still"], [], [14], [], none⟩
noncomputable def T_law_11 : St := ⟨["script", "drawn", "k", "base", "spelled", "letters", "sign", "told", "letter", "pieces", "row", "j", "i", "asked", "d", "taken", "far", "lower", "upper", "later", "whole", "size", "played", "due", "gain", "shared", "first", "wide", "pairs", "second", "moved", "still"], [], [14], [], none⟩
noncomputable def T_law_12 : St := ⟨["script", "drawn", "k", "base", "spelled", "letters", "sign", "told", "letter", "pieces", "row", "j", "i", "asked", "d", "taken", "far", "lower", "upper", "later", "whole", "size", "played", "due", "gain", "shared", "first", "wide", "pairs", "second", "moved", "still"], ["_law_ends"], [21], [], none⟩
noncomputable def T_law_13 : St := ⟨["script", "drawn", "k", "base", "spelled", "letters", "sign", "told", "letter", "pieces", "row", "j", "i", "asked", "d", "taken", "far", "lower", "upper", "later", "whole", "size", "played", "due", "gain", "shared", "first", "wide", "pairs", "second", "moved", "still"], [], [2], [], none⟩
noncomputable def T_law_14 : St := ⟨["script", "drawn", "k", "base", "spelled", "letters", "sign", "told", "letter", "pieces", "row", "j", "i", "asked", "d", "taken", "far", "lower", "upper", "later", "whole", "size", "played", "due", "gain", "shared", "first", "wide", "pairs", "second", "moved", "still"], [], [14], [], none⟩
noncomputable def T_law_15 : St := ⟨["script", "drawn", "k", "base", "spelled", "letters", "sign", "told", "letter", "pieces", "row", "j", "i", "asked", "d", "taken", "far", "lower", "upper", "later", "whole", "size", "played", "due", "gain", "shared", "first", "wide", "pairs", "second", "moved", "still"], [], [21, 26, 29], [], none⟩
noncomputable def T_law_16 : St := ⟨["script", "drawn", "k", "base", "spelled", "letters", "sign", "told", "letter", "pieces", "row", "j", "i", "asked", "d", "taken", "far", "lower", "upper", "later", "whole", "size", "played", "due", "gain", "shared", "first", "wide", "pairs", "second", "moved", "still"], [], [21, 26, 29], [], none⟩
noncomputable def T_law_17 : St := ⟨["script", "drawn", "k", "base", "spelled", "letters", "sign", "told", "letter", "pieces", "row", "j", "i", "asked", "d", "taken", "far", "lower", "upper", "later", "whole", "size", "played", "due", "gain", "shared", "first", "wide", "pairs", "second", "moved", "still"], [], [21, 26, 29], [], none⟩
end Mine.MI
end
-- MiFx
section
namespace Mine.MI
variable {C : Cx} {n : Nat} {T T' : St}
theorem fa_31 : ∀ P, (K P).lookup 31 = some (o31_6 P) := fun P => by kernel_rfl
theorem fa_38 : ∀ P, (K P).lookup 38 = some (o38_6 P) := fun P => by kernel_rfl
theorem fa_45 : ∀ P, (K P).lookup 45 = some (o45_6 P) := fun P => by kernel_rfl
theorem fa_52 : ∀ P, (K P).lookup 52 = some (o52_6 P) := fun P => by kernel_rfl
theorem fa_59 : ∀ P, (K P).lookup 59 = some (o59_6 P) := fun P => by kernel_rfl
theorem fa_66 : ∀ P, (K P).lookup 66 = some (o66_6 P) := fun P => by kernel_rfl
theorem fa_73 : ∀ P, (K P).lookup 73 = some (o73_6 P) := fun P => by kernel_rfl
theorem fa_94 : ∀ P, (K P).lookup 94 = some (o94_6 P) := fun P => by kernel_rfl
theorem fa_101 : ∀ P, (K P).lookup 101 = some (o101_6 P) := fun P => by kernel_rfl
theorem fa_172 : ∀ P, (K P).lookup 172 = some (o172_13 P) := fun P => by kernel_rfl
theorem fa_179 : ∀ P, (K P).lookup 179 = some (o179_13 P) := fun P => by kernel_rfl
theorem fa_184 : ∀ P, (K P).lookup 184 = some (o184_17 P) := fun P => by kernel_rfl
theorem fa_191 : ∀ P, (K P).lookup 191 = some (o191_17 P) := fun P => by kernel_rfl
theorem fa_196 : ∀ P, (K P).lookup 196 = some (o196_17 P) := fun P => by kernel_rfl
theorem k_179 : ∀ P, keepIn (K P) (.ref 179) = true := fun P => by kernel_rfl
theorem g_179 : ∀ P, nsIn (K P) mainGlobals "_law_piece" = some (some (.ref 179)) := fun P => by kernel_rfl
theorem k_184 : ∀ P, keepIn (K P) (.ref 184) = true := fun P => by kernel_rfl
theorem g_184 : ∀ P, nsIn (K P) mainGlobals "_law_ends" = some (some (.ref 184)) := fun P => by kernel_rfl
theorem k_191 : ∀ P, keepIn (K P) (.ref 191) = true := fun P => by kernel_rfl
theorem g_191 : ∀ P, nsIn (K P) mainGlobals "_law_factorial" = some (some (.ref 191)) := fun P => by kernel_rfl
theorem k_196 : ∀ P, keepIn (K P) (.ref 196) = true := fun P => by kernel_rfl
theorem g_196 : ∀ P, nsIn (K P) mainGlobals "_law_lead" = some (some (.ref 196)) := fun P => by kernel_rfl
theorem k_101 : ∀ P, keepIn (K P) (.ref 101) = true := fun P => by kernel_rfl
theorem g_101 : ∀ P, nsIn (K P) mainGlobals "_check_parenthesis" = some (some (.ref 101)) := fun P => by kernel_rfl
theorem k_94 : ∀ P, keepIn (K P) (.ref 94) = true := fun P => by kernel_rfl
theorem g_94 : ∀ P, nsIn (K P) mainGlobals "_strip_quoted_realnames" = some (some (.ref 94)) := fun P => by kernel_rfl
theorem k_38 : ∀ P, keepIn (K P) (.ref 38) = true := fun P => by kernel_rfl
theorem m_38 : ∀ P, findIn (K P) (.ref 76) "longest_run_of_spaces" = some (some (.ref 38)) := fun P => by kernel_rfl
theorem t_38 : ∀ P, isFn (K P) (.ref 38) = true := fun P => by kernel_rfl
theorem k_45 : ∀ P, keepIn (K P) (.ref 45) = true := fun P => by kernel_rfl
theorem m_45 : ∀ P, findIn (K P) (.ref 76) "indent_level" = some (some (.ref 45)) := fun P => by kernel_rfl
theorem t_45 : ∀ P, isFn (K P) (.ref 45) = true := fun P => by kernel_rfl
theorem k_52 : ∀ P, keepIn (K P) (.ref 52) = true := fun P => by kernel_rfl
theorem m_52 : ∀ P, findIn (K P) (.ref 76) "equal" = some (some (.ref 52)) := fun P => by kernel_rfl
theorem t_52 : ∀ P, isFn (K P) (.ref 52) = true := fun P => by kernel_rfl
theorem k_59 : ∀ P, keepIn (K P) (.ref 59) = true := fun P => by kernel_rfl
theorem m_59 : ∀ P, findIn (K P) (.ref 76) "not_equal_witness" = some (some (.ref 59)) := fun P => by kernel_rfl
theorem t_59 : ∀ P, isFn (K P) (.ref 59) = true := fun P => by kernel_rfl
theorem k_66 : ∀ P, keepIn (K P) (.ref 66) = true := fun P => by kernel_rfl
theorem m_66 : ∀ P, findIn (K P) (.ref 76) "less" = some (some (.ref 66)) := fun P => by kernel_rfl
theorem t_66 : ∀ P, isFn (K P) (.ref 66) = true := fun P => by kernel_rfl
theorem k_73 : ∀ P, keepIn (K P) (.ref 73) = true := fun P => by kernel_rfl
theorem m_73 : ∀ P, findIn (K P) (.ref 76) "not_less_witness" = some (some (.ref 73)) := fun P => by kernel_rfl
theorem t_73 : ∀ P, isFn (K P) (.ref 73) = true := fun P => by kernel_rfl
theorem k_76 : ∀ P, keepIn (K P) (.ref 76) = true := fun P => by kernel_rfl
theorem g_76 : ∀ P, nsIn (K P) mainGlobals "Whitespace" = some (some (.ref 76)) := fun P => by kernel_rfl
theorem k_172 : ∀ P, keepIn (K P) (.ref 172) = true := fun P => by kernel_rfl
theorem g_172 : ∀ P, nsIn (K P) mainGlobals "_law_sign" = some (some (.ref 172)) := fun P => by kernel_rfl
theorem k_165 : ∀ P, keepIn (K P) (.ref 165) = true := fun P => by kernel_rfl
theorem g_165 : ∀ P, nsIn (K P) mainGlobals "map_table_b3" = some (some (.ref 165)) := fun P => by kernel_rfl
theorem k_119 : ∀ P, keepIn (K P) (.ref 119) = true := fun P => by kernel_rfl
theorem g_119 : ∀ P, nsIn (K P) mainGlobals "in_table_b1" = some (some (.ref 119)) := fun P => by kernel_rfl
theorem g_87 : ∀ P, nsIn (K P) mainGlobals "_iter_escaped_chars" = some (some (.ref 87)) := fun P => by kernel_rfl
theorem k_87 : ∀ P, keepIn (K P) (.ref 87) = true := fun P => by kernel_rfl
end Mine.MI
end
-- MiPf
section
namespace Mine.MI
variable {C : Cx} {n : Nat} {T T' : St}
theorem s_longest (h1 : ∀ j, j < 10 → (C.P.at' j).length = 1) (hW : C.P.W < 2 ^ 62) : SemF C 1 38 gLongest :=
  semF_of (T := T_longest_run_of_spaces) (ps := [0]) (scope := fScope (inC 1 2)) (body := fBody (inC 1 2)) rfl (frOk (by kernel_rfl)) (⟨fun P => ⟨_, _, fa_38 P, rfl, rfl, rfl, rfl, rfl, rfl, by kernel_rfl, fun vs h => match vs, h with | [v0], _ => by rfl⟩⟩) (by decide) (by decide)
    (by (refine semS_cons ?_ ?_; exact semS_unpack (.cons (by kernel_rfl) (mem_ok (by kernel_rfl)) (.cons (by kernel_rfl) (mem_ok (by kernel_rfl)) .nil)) (e_attr (by kernel_rfl) (by decide) (e_var (i := 0) (by kernel_rfl))) (fun _ => rfl) (fun _ => rfl); refine semS_cons ?_ ?_; exact semS_ret (e_max2 (mem_ok (by kernel_rfl)) (sem_bin op_sub (e_len (mem_ok (by kernel_rfl)) (e_var (i := 1) (by kernel_rfl)) (fun _ => rfl)) (sem_int)) (e_var (i := 2) (by kernel_rfl)) (fun _ => rfl) (fun _ => rfl)); exact semS_nil))
theorem s_indent (h1 : ∀ j, j < 10 → (C.P.at' j).length = 1) (hW : C.P.W < 2 ^ 62) : SemF C 1 45 gIndent :=
  semF_of (T := T_indent_level) (ps := [0, 1]) (scope := fScope (inC 1 3)) (body := fBody (inC 1 3)) rfl (frOk (by kernel_rfl)) (⟨fun P => ⟨_, _, fa_45 P, rfl, rfl, rfl, rfl, rfl, rfl, by kernel_rfl, fun vs h => match vs, h with | [v0, v1], _ => by rfl⟩⟩) (by decide) (by decide)
    (by (refine semS_cons ?_ ?_; exact semS_unpack (.cons (by kernel_rfl) (mem_ok (by kernel_rfl)) (.cons (by kernel_rfl) (mem_ok (by kernel_rfl)) .nil)) (e_attr (by kernel_rfl) (by decide) (e_var (i := 0) (by kernel_rfl))) (fun _ => rfl) (fun _ => rfl); refine semS_cons ?_ ?_; exact semS_asg (by kernel_rfl) (mem_ok (by kernel_rfl)) (sem_int) (fun _ => rfl); refine semS_cons ?_ ?_; exact semS_for (.name (by kernel_rfl) (mem_ok (by kernel_rfl))) (i_range2 hW (mem_ok (by kernel_rfl)) (e_var (i := 1) (by kernel_rfl)) (e_len (mem_ok (by kernel_rfl)) (e_var (i := 2) (by kernel_rfl)) (fun _ => rfl)) (fun _ => rfl) (fun _ => rfl)) (by (refine semS_cons ?_ ?_; exact semS_asg (by kernel_rfl) (mem_ok (by kernel_rfl)) (sem_bin op_add (e_var (i := 4) (by kernel_rfl)) (sem_bin op_mul (sem_bin op_fdiv (e_var (i := 5) (by kernel_rfl)) (e_var (i := 1) (by kernel_rfl))) (sem_sub (e_var (i := 2) (by kernel_rfl)) (e_var (i := 5) (by kernel_rfl)) (fun _ _ => rfl)))) (fun _ => rfl); exact semS_nil)) (fun _ _ => rfl); refine semS_cons ?_ ?_; exact semS_ret (sem_bin op_add (e_var (i := 3) (by kernel_rfl)) (sem_bin op_mul (e_var (i := 1) (by kernel_rfl)) (sem_bin op_add (e_var (i := 4) (by kernel_rfl)) (e_attr (by kernel_rfl) (by decide) (e_var (i := 0) (by kernel_rfl)))))); exact semS_nil))
theorem s_equal (h1 : ∀ j, j < 10 → (C.P.at' j).length = 1) (hW : C.P.W < 2 ^ 62) : SemF C 1 52 gEqual :=
  semF_of (T := T_equal) (ps := [0, 1]) (scope := fScope (inC 1 4)) (body := fBody (inC 1 4)) rfl (frOk (by kernel_rfl)) (⟨fun P => ⟨_, _, fa_52 P, rfl, rfl, rfl, rfl, rfl, rfl, by kernel_rfl, fun vs h => match vs, h with | [v0, v1], _ => by rfl⟩⟩) (by decide) (by decide)
    (by (refine semS_cons ?_ ?_; exact semS_ret (sem_cmp op_eq (e_attr (by kernel_rfl) (by decide) (e_var (i := 0) (by kernel_rfl))) (e_attr (by kernel_rfl) (by decide) (e_var (i := 1) (by kernel_rfl))) rfl); exact semS_nil))
theorem s_neq (h1 : ∀ j, j < 10 → (C.P.at' j).length = 1) (hW : C.P.W < 2 ^ 62) : SemF C 2 59 gNeq :=
  semF_of (T := T_not_equal_witness) (ps := [0, 1]) (scope := fScope (inC 1 5)) (body := fBody (inC 1 5)) rfl (frOk (by kernel_rfl)) (⟨fun P => ⟨_, _, fa_59 P, rfl, rfl, rfl, rfl, rfl, rfl, by kernel_rfl, fun vs h => match vs, h with | [v0, v1], _ => by rfl⟩⟩) (by decide) (by decide)
    (by (refine semS_cons ?_ ?_; exact semS_asg (by kernel_rfl) (mem_ok (by kernel_rfl)) (sem_bin op_add (e_max2 (mem_ok (by kernel_rfl)) (sem_meth0 (by decide) (s_longest h1 hW) (fun _ => ⟨_, rfl⟩) m_38 t_38 k_38 (by kernel_rfl) (e_var (i := 0) (by kernel_rfl))) (sem_meth0 (by decide) (s_longest h1 hW) (fun _ => ⟨_, rfl⟩) m_38 t_38 k_38 (by kernel_rfl) (e_var (i := 1) (by kernel_rfl))) (fun _ => rfl) (fun _ => rfl)) (sem_int)) (fun _ => rfl); refine semS_cons ?_ ?_; exact semS_asgo (by kernel_rfl) (mem_ok (by kernel_rfl)) (semN_lst (sem_nil) rfl) (fun _ => rfl); refine semS_cons ?_ ?_; exact semS_for (.name (by kernel_rfl) (mem_ok (by kernel_rfl))) (i_range2 hW (mem_ok (by kernel_rfl)) (sem_int) (sem_bin op_add (e_var (i := 2) (by kernel_rfl)) (sem_int)) (fun _ => rfl) (fun _ => rfl)) (by (refine semS_cons ?_ ?_; exact semS_if (semB_cmp op_ne (sem_meth (by decide) (s_indent h1 hW) (fun _ => ⟨_, rfl⟩) m_45 t_45 k_45 (by kernel_rfl) (e_var (i := 0) (by kernel_rfl)) (sem_cons (e_var (i := 4) (by kernel_rfl)) (sem_nil) (fun _ => rfl)) (fun _ => rfl) (fun _ => rfl)) (sem_meth (by decide) (s_indent h1 hW) (fun _ => ⟨_, rfl⟩) m_45 t_45 k_45 (by kernel_rfl) (e_var (i := 1) (by kernel_rfl)) (sem_cons (e_var (i := 4) (by kernel_rfl)) (sem_nil) (fun _ => rfl)) (fun _ => rfl) (fun _ => rfl)) rfl) (by (refine semS_cons ?_ ?_; exact semS_append (by kernel_rfl) (by kernel_rfl) (by kernel_rfl) (sem_tup (sem_cons (e_var (i := 4) (by kernel_rfl)) (sem_cons (sem_meth (by decide) (s_indent h1 hW) (fun _ => ⟨_, rfl⟩) m_45 t_45 k_45 (by kernel_rfl) (e_var (i := 0) (by kernel_rfl)) (sem_cons (e_var (i := 4) (by kernel_rfl)) (sem_nil) (fun _ => rfl)) (fun _ => rfl) (fun _ => rfl)) (sem_cons (sem_meth (by decide) (s_indent h1 hW) (fun _ => ⟨_, rfl⟩) m_45 t_45 k_45 (by kernel_rfl) (e_var (i := 1) (by kernel_rfl)) (sem_cons (e_var (i := 4) (by kernel_rfl)) (sem_nil) (fun _ => rfl)) (fun _ => rfl) (fun _ => rfl)) (sem_nil) (fun _ => rfl)) (fun _ => rfl)) (fun _ => rfl)) rfl) (fun _ => rfl) (by kernel_rfl) (fun _ => rfl) inter_ok (fun _ => rfl); exact semS_nil)) (by (exact semS_nil)); exact semS_nil)) (fun _ _ => rfl); refine semS_cons ?_ ?_; exact semS_freeze (semS_ret (e_var (i := 3) (by kernel_rfl))); exact semS_nil))
theorem s_less (h1 : ∀ j, j < 10 → (C.P.at' j).length = 1) (hW : C.P.W < 2 ^ 62) : SemF C 2 66 gLess :=
  semF_of (T := T_less) (ps := [0, 1]) (scope := fScope (inC 1 6)) (body := fBody (inC 1 6)) rfl (frOk (by kernel_rfl)) (⟨fun P => ⟨_, _, fa_66 P, rfl, rfl, rfl, rfl, rfl, rfl, by kernel_rfl, fun vs h => match vs, h with | [v0, v1], _ => by rfl⟩⟩) (by decide) (by decide)
    (by (refine semS_cons ?_ ?_; exact semS_if (semB_cmp op_ge (e_attr (by kernel_rfl) (by decide) (e_var (i := 0) (by kernel_rfl))) (e_attr (by kernel_rfl) (by decide) (e_var (i := 1) (by kernel_rfl))) rfl) (by (refine semS_cons ?_ ?_; exact semS_ret (sem_bool); exact semS_nil)) (by (exact semS_nil)); refine semS_cons ?_ ?_; exact semS_if (semB_and (semB_val (e_attr (by kernel_rfl) (by decide) (e_var (i := 0) (by kernel_rfl))) (fun _ _ => rfl)) (semB_val (e_attr (by kernel_rfl) (by decide) (e_var (i := 1) (by kernel_rfl))) (fun _ _ => rfl))) (by (refine semS_cons ?_ ?_; exact semS_ret (sem_cmp op_le (e_attr (by kernel_rfl) (by decide) (e_var (i := 0) (by kernel_rfl))) (e_attr (by kernel_rfl) (by decide) (e_var (i := 1) (by kernel_rfl))) rfl); exact semS_nil)) (by (exact semS_nil)); refine semS_cons ?_ ?_; exact semS_asg (by kernel_rfl) (mem_ok (by kernel_rfl)) (sem_bin op_add (e_max2 (mem_ok (by kernel_rfl)) (sem_meth0 (by decide) (s_longest h1 hW) (fun _ => ⟨_, rfl⟩) m_38 t_38 k_38 (by kernel_rfl) (e_var (i := 0) (by kernel_rfl))) (sem_meth0 (by decide) (s_longest h1 hW) (fun _ => ⟨_, rfl⟩) m_38 t_38 k_38 (by kernel_rfl) (e_var (i := 1) (by kernel_rfl))) (fun _ => rfl) (fun _ => rfl)) (sem_int)) (fun _ => rfl); refine semS_cons ?_ ?_; exact semS_for (.name (by kernel_rfl) (mem_ok (by kernel_rfl))) (i_range2 hW (mem_ok (by kernel_rfl)) (sem_int) (sem_bin op_add (e_var (i := 2) (by kernel_rfl)) (sem_int)) (fun _ => rfl) (fun _ => rfl)) (by (refine semS_cons ?_ ?_; exact semS_if (semB_cmp op_ge (sem_meth (by decide) (s_indent h1 hW) (fun _ => ⟨_, rfl⟩) m_45 t_45 k_45 (by kernel_rfl) (e_var (i := 0) (by kernel_rfl)) (sem_cons (e_var (i := 3) (by kernel_rfl)) (sem_nil) (fun _ => rfl)) (fun _ => rfl) (fun _ => rfl)) (sem_meth (by decide) (s_indent h1 hW) (fun _ => ⟨_, rfl⟩) m_45 t_45 k_45 (by kernel_rfl) (e_var (i := 1) (by kernel_rfl)) (sem_cons (e_var (i := 3) (by kernel_rfl)) (sem_nil) (fun _ => rfl)) (fun _ => rfl) (fun _ => rfl)) rfl) (by (refine semS_cons ?_ ?_; exact semS_ret (sem_bool); exact semS_nil)) (by (exact semS_nil)); exact semS_nil)) (fun _ _ => rfl); refine semS_cons ?_ ?_; exact semS_ret (sem_bool); exact semS_nil))
theorem s_nless (h1 : ∀ j, j < 10 → (C.P.at' j).length = 1) (hW : C.P.W < 2 ^ 62) : SemF C 2 73 gNless :=
  semF_of (T := T_not_less_witness) (ps := [0, 1]) (scope := fScope (inC 1 7)) (body := fBody (inC 1 7)) rfl (frOk (by kernel_rfl)) (⟨fun P => ⟨_, _, fa_73 P, rfl, rfl, rfl, rfl, rfl, rfl, by kernel_rfl, fun vs h => match vs, h with | [v0, v1], _ => by rfl⟩⟩) (by decide) (by decide)
    (by (refine semS_cons ?_ ?_; exact semS_asg (by kernel_rfl) (mem_ok (by kernel_rfl)) (sem_bin op_add (e_max2 (mem_ok (by kernel_rfl)) (sem_meth0 (by decide) (s_longest h1 hW) (fun _ => ⟨_, rfl⟩) m_38 t_38 k_38 (by kernel_rfl) (e_var (i := 0) (by kernel_rfl))) (sem_meth0 (by decide) (s_longest h1 hW) (fun _ => ⟨_, rfl⟩) m_38 t_38 k_38 (by kernel_rfl) (e_var (i := 1) (by kernel_rfl))) (fun _ => rfl) (fun _ => rfl)) (sem_int)) (fun _ => rfl); refine semS_cons ?_ ?_; exact semS_asgo (by kernel_rfl) (mem_ok (by kernel_rfl)) (semN_lst (sem_nil) rfl) (fun _ => rfl); refine semS_cons ?_ ?_; exact semS_for (.name (by kernel_rfl) (mem_ok (by kernel_rfl))) (i_range2 hW (mem_ok (by kernel_rfl)) (sem_int) (sem_bin op_add (e_var (i := 2) (by kernel_rfl)) (sem_int)) (fun _ => rfl) (fun _ => rfl)) (by (refine semS_cons ?_ ?_; exact semS_if (semB_cmp op_ge (sem_meth (by decide) (s_indent h1 hW) (fun _ => ⟨_, rfl⟩) m_45 t_45 k_45 (by kernel_rfl) (e_var (i := 0) (by kernel_rfl)) (sem_cons (e_var (i := 4) (by kernel_rfl)) (sem_nil) (fun _ => rfl)) (fun _ => rfl) (fun _ => rfl)) (sem_meth (by decide) (s_indent h1 hW) (fun _ => ⟨_, rfl⟩) m_45 t_45 k_45 (by kernel_rfl) (e_var (i := 1) (by kernel_rfl)) (sem_cons (e_var (i := 4) (by kernel_rfl)) (sem_nil) (fun _ => rfl)) (fun _ => rfl) (fun _ => rfl)) rfl) (by (refine semS_cons ?_ ?_; exact semS_append (by kernel_rfl) (by kernel_rfl) (by kernel_rfl) (sem_tup (sem_cons (e_var (i := 4) (by kernel_rfl)) (sem_cons (sem_meth (by decide) (s_indent h1 hW) (fun _ => ⟨_, rfl⟩) m_45 t_45 k_45 (by kernel_rfl) (e_var (i := 0) (by kernel_rfl)) (sem_cons (e_var (i := 4) (by kernel_rfl)) (sem_nil) (fun _ => rfl)) (fun _ => rfl) (fun _ => rfl)) (sem_cons (sem_meth (by decide) (s_indent h1 hW) (fun _ => ⟨_, rfl⟩) m_45 t_45 k_45 (by kernel_rfl) (e_var (i := 1) (by kernel_rfl)) (sem_cons (e_var (i := 4) (by kernel_rfl)) (sem_nil) (fun _ => rfl)) (fun _ => rfl) (fun _ => rfl)) (sem_nil) (fun _ => rfl)) (fun _ => rfl)) (fun _ => rfl)) rfl) (fun _ => rfl) (by kernel_rfl) (fun _ => rfl) inter_ok (fun _ => rfl); exact semS_nil)) (by (exact semS_nil)); exact semS_nil)) (fun _ _ => rfl); refine semS_cons ?_ ?_; exact semS_freeze (semS_ret (e_var (i := 3) (by kernel_rfl))); exact semS_nil))
theorem s_ws (h1 : ∀ j, j < 10 → (C.P.at' j).length = 1) (hW : C.P.W < 2 ^ 62) : SemF C 2 76 gWs :=
  semF_new (T := T_init) (ps := [1]) (self := 0) (scope := fScope (inC 1 1)) (body := fBody (inC 1 1)) (by decide) (by decide) (by kernel_rfl) (fun a => (frOk (by kernel_rfl)).pinned) (⟨fun P => ⟨_, _, fa_31 P, rfl, rfl, rfl, rfl, rfl, rfl, by kernel_rfl, fun vs h => match vs, h with | [v0, v1], _ => by rfl⟩⟩) (by decide) (by decide) fun a => by (refine semS_cons ?_ ?_; exact semS_setattr (by kernel_rfl) (by kernel_rfl) (by kernel_rfl) (by kernel_rfl) (by decide) (e_var (i := 1) (by kernel_rfl)) (fun _ => rfl); refine semS_cons ?_ ?_; exact semS_multi (.cons (by kernel_rfl) (mem_ok (by kernel_rfl)) (.cons (by kernel_rfl) (mem_ok (by kernel_rfl)) .nil)) (by decide) (sem_tup (sem_cons (e_clsS (mem_ok (by kernel_rfl))) (sem_cons (e_clsT (mem_ok (by kernel_rfl))) (sem_nil) (fun _ => rfl)) (fun _ => rfl)) rfl) (fun _ => rfl) (fun env => swapped2 env rfl rfl rfl (by kernel_rfl)); refine semS_cons ?_ ?_; exact semS_asgo (by kernel_rfl) (mem_ok (by kernel_rfl)) (semN_lst (sem_nil) rfl) (fun _ => rfl); refine semS_cons ?_ ?_; exact semS_chain (.cons (by kernel_rfl) (mem_ok (by kernel_rfl)) (.cons (by kernel_rfl) (mem_ok (by kernel_rfl)) (.cons (by kernel_rfl) (mem_ok (by kernel_rfl)) .nil))) (sem_int) (fun _ => rfl) (fun _ => rfl); refine semS_cons ?_ ?_; exact semS_for (.name (by kernel_rfl) (mem_ok (by kernel_rfl))) (semI_of h1 (sem_peek (e_attr (by kernel_rfl) (by decide) (e_var (i := 0) (by kernel_rfl))))) (by (refine semS_cons ?_ ?_; exact semS_if (semB_cmp op_eq (e_var (i := 8) (by kernel_rfl)) (e_var (i := 2) (by kernel_rfl)) rfl) (by (refine semS_cons ?_ ?_; exact semS_asg (by kernel_rfl) (mem_ok (by kernel_rfl)) (sem_bin op_add (e_var (i := 6) (by kernel_rfl)) (sem_int)) (fun _ => rfl); refine semS_cons ?_ ?_; exact semS_asg (by kernel_rfl) (mem_ok (by kernel_rfl)) (sem_bin op_add (e_var (i := 5) (by kernel_rfl)) (sem_int)) (fun _ => rfl); exact semS_nil)) (by (refine semS_cons ?_ ?_; exact semS_if (semB_cmp op_eq (e_var (i := 8) (by kernel_rfl)) (e_var (i := 3) (by kernel_rfl)) rfl) (by (refine semS_cons ?_ ?_; exact semS_asg (by kernel_rfl) (mem_ok (by kernel_rfl)) (sem_bin op_add (e_var (i := 6) (by kernel_rfl)) (sem_int)) (fun _ => rfl); refine semS_cons ?_ ?_; exact semS_asg (by kernel_rfl) (mem_ok (by kernel_rfl)) (sem_bin op_add (e_var (i := 7) (by kernel_rfl)) (sem_int)) (fun _ => rfl); refine semS_cons ?_ ?_; exact semS_if (semB_cmp op_ge (e_var (i := 5) (by kernel_rfl)) (sem_peek (e_len (mem_ok (by kernel_rfl)) (e_var (i := 4) (by kernel_rfl)) (fun _ => rfl))) rfl) (by (refine semS_cons ?_ ?_; exact semS_freeze (semS_asgo (by kernel_rfl) (mem_ok (by kernel_rfl)) (semN_addL (e_var (i := 4) (by kernel_rfl)) (sem_bin op_mul (sem_lst (sem_cons (sem_int) (sem_nil) (fun _ => rfl)) rfl) (sem_bin op_add (sem_bin op_sub (e_var (i := 5) (by kernel_rfl)) (e_len (mem_ok (by kernel_rfl)) (e_var (i := 4) (by kernel_rfl)) (fun _ => rfl))) (sem_int)))) (fun _ => rfl)); exact semS_nil)) (by (exact semS_nil)); refine semS_cons ?_ ?_; exact semS_setidx (by kernel_rfl) (by kernel_rfl) (by kernel_rfl) (sem_peek (sem_bin op_add (sem_sub (e_var (i := 4) (by kernel_rfl)) (e_var (i := 5) (by kernel_rfl)) (fun _ _ => rfl)) (sem_int))) (e_var (i := 5) (by kernel_rfl)) (fun _ => rfl); refine semS_cons ?_ ?_; exact semS_asg (by kernel_rfl) (mem_ok (by kernel_rfl)) (sem_int) (fun _ => rfl); exact semS_nil)) (by (refine semS_cons ?_ ?_; exact semS_brk; exact semS_nil)); exact semS_nil)); exact semS_nil)) (fun _ _ => rfl); refine semS_cons ?_ ?_; exact semS_setattr (by kernel_rfl) (by kernel_rfl) (by kernel_rfl) (by kernel_rfl) (by decide) (e_var (i := 6) (by kernel_rfl)) (fun _ => rfl); refine semS_cons ?_ ?_; exact semS_setattr (by kernel_rfl) (by kernel_rfl) (by kernel_rfl) (by kernel_rfl) (by decide) (e_var (i := 7) (by kernel_rfl)) (fun _ => rfl); refine semS_cons ?_ ?_; exact semS_freeze (semS_setattr (by kernel_rfl) (by kernel_rfl) (by kernel_rfl) (by kernel_rfl) (by decide) (sem_tup (sem_cons (e_tuple (mem_ok (by kernel_rfl)) (e_var (i := 4) (by kernel_rfl)) (fun _ => rfl)) (sem_cons (e_var (i := 5) (by kernel_rfl)) (sem_nil) (fun _ => rfl)) (fun _ => rfl)) rfl) (fun _ => rfl)); refine semS_cons ?_ ?_; exact semS_setattr (by kernel_rfl) (by kernel_rfl) (by kernel_rfl) (by kernel_rfl) (by decide) (sem_cmp op_le (e_len (mem_ok (by kernel_rfl)) (e_var (i := 4) (by kernel_rfl)) (fun _ => rfl)) (sem_int) rfl) (fun _ => rfl); exact semS_nil)
theorem s_strip (h1 : ∀ j, j < 10 → (C.P.at' j).length = 1) (hW : C.P.W < 2 ^ 62) (hgen : GenOk C 1 87 escV) : SemF C 2 94 gStrip :=
  semF_of (T := T_strip_quoted_realnames) (ps := [0]) (scope := fScope (stm 4)) (body := fBody (stm 4)) rfl (frOk (by kernel_rfl)) (⟨fun P => ⟨_, _, fa_94 P, rfl, rfl, rfl, rfl, rfl, rfl, by kernel_rfl, fun vs h => match vs, h with | [v0], _ => by rfl⟩⟩) (by decide) (by decide)
    (by (refine semS_cons ?_ ?_; exact semS_if (semB_cmp op_notin (e_str (l := [34]) (by kernel_rfl)) (e_var (i := 0) (by kernel_rfl)) rfl) (by (refine semS_cons ?_ ?_; exact semS_ret (e_var (i := 0) (by kernel_rfl)); exact semS_nil)) (by (exact semS_nil)); refine semS_cons ?_ ?_; exact semS_asg (by kernel_rfl) (mem_ok (by kernel_rfl)) (sem_int) (fun _ => rfl); refine semS_cons ?_ ?_; exact semS_asg (by kernel_rfl) (mem_ok (by kernel_rfl)) (e_none) (fun _ => rfl); refine semS_cons ?_ ?_; exact semS_asgo (by kernel_rfl) (mem_ok (by kernel_rfl)) (semN_lst (sem_nil) rfl) (fun _ => rfl); refine semS_cons ?_ ?_; exact semS_forG (by decide) (.tup (.cons (by kernel_rfl) (mem_ok (by kernel_rfl)) (.cons (by kernel_rfl) (mem_ok (by kernel_rfl)) .nil))) hgen (e_var (i := 0) (by kernel_rfl)) g_87 k_87 rfl (mem_ok (by kernel_rfl)) (fun _ => rfl) (fun _ => by (refine semS_cons ?_ ?_; exact semS_if (semB_cmp op_eq (e_var (i := 5) (by kernel_rfl)) (e_str (l := [34]) (by kernel_rfl)) rfl) (by (refine semS_cons ?_ ?_; exact semS_if (b_none (i := 2) (by kernel_rfl) rfl) (by (refine semS_cons ?_ ?_; exact semS_asg (by kernel_rfl) (mem_ok (by kernel_rfl)) (e_var (i := 4) (by kernel_rfl)) (fun _ => rfl); exact semS_nil)) (by (refine semS_cons ?_ ?_; exact semS_if (semB_cmp op_ne (e_var (i := 1) (by kernel_rfl)) (e_var (i := 2) (by kernel_rfl)) rfl) (by (refine semS_cons ?_ ?_; exact semS_append (by kernel_rfl) (by kernel_rfl) (by kernel_rfl) (sem_slice (e_var (i := 0) (by kernel_rfl)) (e_var (i := 1) (by kernel_rfl)) (e_var (i := 2) (by kernel_rfl))) (fun _ => rfl) (by kernel_rfl) (fun _ => rfl) inter_ok (fun _ => rfl); exact semS_nil)) (by (exact semS_nil)); refine semS_cons ?_ ?_; exact semS_asg (by kernel_rfl) (mem_ok (by kernel_rfl)) (sem_bin op_add (e_var (i := 4) (by kernel_rfl)) (sem_int)) (fun _ => rfl); refine semS_cons ?_ ?_; exact semS_asg (by kernel_rfl) (mem_ok (by kernel_rfl)) (e_none) (fun _ => rfl); exact semS_nil)); exact semS_nil)) (by (exact semS_nil)); exact semS_nil)) (fun _ _ => rfl); refine semS_cons ?_ ?_; exact semS_if (semB_cmp op_lt (e_var (i := 1) (by kernel_rfl)) (e_len (mem_ok (by kernel_rfl)) (e_var (i := 0) (by kernel_rfl)) (fun _ => rfl)) rfl) (by (refine semS_cons ?_ ?_; exact semS_append (by kernel_rfl) (by kernel_rfl) (by kernel_rfl) (sem_sliceL (e_var (i := 0) (by kernel_rfl)) (e_var (i := 1) (by kernel_rfl))) (fun _ => rfl) (by kernel_rfl) (fun _ => rfl) inter_ok (fun _ => rfl); exact semS_nil)) (by (exact semS_nil)); refine semS_cons ?_ ?_; exact semS_ret (sem_peek (sem_join (by kernel_rfl) (fun _ => ⟨_, rfl⟩) (e_var (i := 3) (by kernel_rfl)) (fun _ => rfl))); exact semS_nil))
theorem s_paren (h1 : ∀ j, j < 10 → (C.P.at' j).length = 1) (hW : C.P.W < 2 ^ 62) (hgen : GenOk C 1 87 escV) : SemF C 3 101 gParen :=
  semF_of (T := T_check_parenthesis) (ps := [0]) (scope := fScope (stm 5)) (body := fBody (stm 5)) rfl (frOk (by kernel_rfl)) (⟨fun P => ⟨_, _, fa_101 P, rfl, rfl, rfl, rfl, rfl, rfl, by kernel_rfl, fun vs h => match vs, h with | [v0], _ => by rfl⟩⟩) (by decide) (by decide)
    (by (refine semS_cons ?_ ?_; exact semS_asg (by kernel_rfl) (mem_ok (by kernel_rfl)) (sem_call (by decide) (s_strip h1 hW hgen) g_94 k_94 rfl (mem_ok (by kernel_rfl)) (sem_cons (e_var (i := 0) (by kernel_rfl)) (sem_nil) (fun _ => rfl)) (fun _ => rfl) (fun _ => rfl)) (fun _ => rfl); refine semS_cons ?_ ?_; exact semS_asg (by kernel_rfl) (mem_ok (by kernel_rfl)) (sem_int) (fun _ => rfl); refine semS_cons ?_ ?_; exact semS_forG (by decide) (.tup (.cons (by kernel_rfl) (mem_ok (by kernel_rfl)) (.cons (by kernel_rfl) (mem_ok (by kernel_rfl)) .nil))) hgen (e_var (i := 0) (by kernel_rfl)) g_87 k_87 rfl (mem_ok (by kernel_rfl)) (fun _ => rfl) (fun _ => by (refine semS_cons ?_ ?_; exact semS_if (semB_cmp op_eq (e_var (i := 3) (by kernel_rfl)) (e_str (l := [40]) (by kernel_rfl)) rfl) (by (refine semS_cons ?_ ?_; exact semS_aug (by kernel_rfl) (by kernel_rfl) (mem_ok (by kernel_rfl)) op_iadd (sem_int); exact semS_nil)) (by (refine semS_cons ?_ ?_; exact semS_if (semB_cmp op_eq (e_var (i := 3) (by kernel_rfl)) (e_str (l := [41]) (by kernel_rfl)) rfl) (by (refine semS_cons ?_ ?_; exact semS_aug (by kernel_rfl) (by kernel_rfl) (mem_ok (by kernel_rfl)) op_isub (sem_int); refine semS_cons ?_ ?_; exact semS_if (semB_cmp op_lt (e_var (i := 1) (by kernel_rfl)) (sem_int) rfl) (by (refine semS_cons ?_ ?_; exact semS_ret (sem_bool); exact semS_nil)) (by (exact semS_nil)); exact semS_nil)) (by (exact semS_nil)); exact semS_nil)); exact semS_nil)) (fun _ _ => rfl); refine semS_cons ?_ ?_; exact semS_ret (sem_cmp op_eq (e_var (i := 1) (by kernel_rfl)) (sem_int) rfl); exact semS_nil))
theorem s_sign0 (h1 : ∀ j, j < 10 → (C.P.at' j).length = 1) (hW : C.P.W < 2 ^ 62) : SemF C 1 172 gSign :=
  semF_of (T := T_law_sign) (ps := [0]) (scope := fScope (stm 12)) (body := fBody (stm 12)) rfl (frOk (by kernel_rfl)) (⟨fun P => ⟨_, _, fa_172 P, rfl, rfl, rfl, rfl, rfl, rfl, by kernel_rfl, fun vs h => match vs, h with | [v0], _ => by rfl⟩⟩) (by decide) (by decide)
    (by (refine semS_cons ?_ ?_; (focus (refine semS_asg ?_ ?_ ?_ ?_; kernel_rfl; exact mem_ok (by kernel_rfl); rotate_left; exact (fun _ => rfl); refine sem_sub ?_ ?_ ?_; rotate_left; exact sem_bin op_mod (sem_bin op_fdiv (e_var (i := 0) (by kernel_rfl)) (sem_int)) (sem_int); exact (fun _ _ => rfl); refine sem_lst ?_ ?_; rotate_left; exact rfl; refine sem_cons ?_ ?_ ?_; exact sem_int; rotate_left; exact (fun _ => rfl); refine sem_cons ?_ ?_ ?_; exact sem_int; rotate_left; exact (fun _ => rfl); refine sem_cons ?_ ?_ ?_; exact sem_int; rotate_left; exact (fun _ => rfl); refine sem_cons ?_ ?_ ?_; exact sem_int; rotate_left; exact (fun _ => rfl); refine sem_cons ?_ ?_ ?_; exact sem_int; rotate_left; exact (fun _ => rfl); refine sem_cons ?_ ?_ ?_; exact sem_int; rotate_left; exact (fun _ => rfl); refine sem_cons ?_ ?_ ?_; exact sem_int; rotate_left; exact (fun _ => rfl); refine sem_cons ?_ ?_ ?_; exact sem_int; rotate_left; exact (fun _ => rfl); refine sem_cons ?_ ?_ ?_; exact sem_int; rotate_left; exact (fun _ => rfl); refine sem_cons ?_ ?_ ?_; exact sem_int; rotate_left; exact (fun _ => rfl);  exact sem_nil)); refine semS_cons ?_ ?_; (focus (refine semS_unpack ?_ ?_ ?_ ?_; exact (.cons (by kernel_rfl) (mem_ok (by kernel_rfl)) (.cons (by kernel_rfl) (mem_ok (by kernel_rfl)) .nil)); rotate_left; exact (fun _ => rfl); exact (fun _ => rfl); refine sem_sub ?_ ?_ ?_; rotate_left; exact sem_bin op_mod (e_var (i := 0) (by kernel_rfl)) (sem_int); exact (fun _ _ => rfl); refine sem_lst ?_ ?_; rotate_left; exact rfl; refine sem_cons ?_ ?_ ?_; exact sem_tup (sem_cons (sem_bin op_add (sem_int) (sem_bin op_mul (sem_int) (e_var (i := 1) (by kernel_rfl)))) (sem_cons (e_str (l := [104]) (by kernel_rfl)) (sem_nil) (fun _ => rfl)) (fun _ => rfl)) rfl; rotate_left; exact (fun _ => rfl); refine sem_cons ?_ ?_ ?_; exact sem_tup (sem_cons (sem_bin op_add (sem_int) (sem_bin op_mul (sem_int) (e_var (i := 1) (by kernel_rfl)))) (sem_cons (e_str (l := [112]) (by kernel_rfl)) (sem_nil) (fun _ => rfl)) (fun _ => rfl)) rfl; rotate_left; exact (fun _ => rfl); refine sem_cons ?_ ?_ ?_; exact sem_tup (sem_cons (sem_int) (sem_cons (e_str (l := [104, 112]) (by kernel_rfl)) (sem_nil) (fun _ => rfl)) (fun _ => rfl)) rfl; rotate_left; exact (fun _ => rfl); refine sem_cons ?_ ?_ ?_; exact sem_tup (sem_cons (sem_int) (sem_cons (e_str (l := [112, 104]) (by kernel_rfl)) (sem_nil) (fun _ => rfl)) (fun _ => rfl)) rfl; rotate_left; exact (fun _ => rfl); refine sem_cons ?_ ?_ ?_; exact sem_tup (sem_cons (sem_int) (sem_cons (e_str (l := [112, 112, 109]) (by kernel_rfl)) (sem_nil) (fun _ => rfl)) (fun _ => rfl)) rfl; rotate_left; exact (fun _ => rfl); refine sem_cons ?_ ?_ ?_; exact sem_tup (sem_cons (sem_int) (sem_cons (e_str (l := [104, 112, 97]) (by kernel_rfl)) (sem_nil) (fun _ => rfl)) (fun _ => rfl)) rfl; rotate_left; exact (fun _ => rfl); refine sem_cons ?_ ?_ ?_; exact sem_tup (sem_cons (sem_int) (sem_cons (e_str (l := [107, 107]) (by kernel_rfl)) (sem_nil) (fun _ => rfl)) (fun _ => rfl)) rfl; rotate_left; exact (fun _ => rfl); refine sem_cons ?_ ?_ ?_; exact sem_tup (sem_cons (sem_int) (sem_cons (e_str (l := [107, 104, 122]) (by kernel_rfl)) (sem_nil) (fun _ => rfl)) (fun _ => rfl)) rfl; rotate_left; exact (fun _ => rfl);  exact sem_nil)); refine semS_cons ?_ ?_; (focus (refine semS_asg ?_ ?_ ?_ ?_; kernel_rfl; exact mem_ok (by kernel_rfl); rotate_left; exact (fun _ => rfl); refine sem_bin ?_ ?_ ?_; exact op_add; (focus (refine sem_lst ?_ ?_; rotate_left; exact rfl; refine sem_cons ?_ ?_ ?_; exact sem_int; rotate_left; exact (fun _ => rfl); refine sem_cons ?_ ?_ ?_; exact sem_int; rotate_left; exact (fun _ => rfl); refine sem_cons ?_ ?_ ?_; exact sem_int; rotate_left; exact (fun _ => rfl); refine sem_cons ?_ ?_ ?_; exact sem_int; rotate_left; exact (fun _ => rfl); refine sem_cons ?_ ?_ ?_; exact sem_int; rotate_left; exact (fun _ => rfl); refine sem_cons ?_ ?_ ?_; exact sem_int; rotate_left; exact (fun _ => rfl); refine sem_cons ?_ ?_ ?_; exact sem_int; rotate_left; exact (fun _ => rfl); refine sem_cons ?_ ?_ ?_; exact sem_int; rotate_left; exact (fun _ => rfl); refine sem_cons ?_ ?_ ?_; exact sem_int; rotate_left; exact (fun _ => rfl); refine sem_cons ?_ ?_ ?_; exact sem_int; rotate_left; exact (fun _ => rfl); refine sem_cons ?_ ?_ ?_; exact sem_int; rotate_left; exact (fun _ => rfl); exact sem_nil)); exact e_listrange (mem_ok (by kernel_rfl)) (mem_ok (by kernel_rfl)) (sem_int) (sem_int) (fun _ => rfl) (fun _ => rfl) (fun _ => rfl))); refine semS_cons ?_ ?_; exact semS_ret (sem_tup (sem_cons (sem_bin op_add (sem_bin op_mul (e_chr (mem_ok (by kernel_rfl)) (sem_sub (e_var (i := 4) (by kernel_rfl)) (sem_bin op_mod (sem_bin op_fdiv (e_var (i := 0) (by kernel_rfl)) (sem_int)) (sem_int)) (fun _ _ => rfl)) (fun _ => rfl)) (sem_bin op_mod (sem_bin op_fdiv (e_var (i := 0) (by kernel_rfl)) (sem_int)) (sem_int))) (e_chr (mem_ok (by kernel_rfl)) (e_var (i := 2) (by kernel_rfl)) (fun _ => rfl))) (sem_cons (e_var (i := 3) (by kernel_rfl)) (sem_nil) (fun _ => rfl)) (fun _ => rfl)) rfl); exact semS_nil))
theorem s_piece (h1 : ∀ j, j < 10 → (C.P.at' j).length = 1) (hW : C.P.W < 2 ^ 62) : SemF C 1 179 gPiece :=
  semF_of (T := T_law_piece) (ps := [0]) (scope := fScope (stm 13)) (body := fBody (stm 13)) rfl (frOk (by kernel_rfl)) (⟨fun P => ⟨_, _, fa_179 P, rfl, rfl, rfl, rfl, rfl, rfl, by kernel_rfl, fun vs h => match vs, h with | [v0], _ => by rfl⟩⟩) (by decide) (by decide)
    (by (refine semS_cons ?_ ?_; rotate_left; exact semS_nil; refine semS_ret ?_; refine sem_sub ?_ ?_ ?_; rotate_left; exact e_var (i := 0) (by kernel_rfl); exact (fun _ _ => rfl); refine sem_dct ?_ ?_ ?_ ?_ ?_; rotate_left; kernel_rfl; kernel_rfl; exact (List.cons_ne_nil _ _); exact (Nat.le_of_ble_eq_true (by kernel_rfl)); refine kv_cons ?_ ?_ ?_; exact e_str (l := [104]) (by kernel_rfl); exact e_str (l := [124, 40]) (by kernel_rfl); refine kv_cons ?_ ?_ ?_; exact e_str (l := [107]) (by kernel_rfl); exact e_str (l := [124, 92, 34, 40, 92, 34]) (by kernel_rfl); refine kv_cons ?_ ?_ ?_; exact e_str (l := [112]) (by kernel_rfl); exact e_str (l := [124, 41]) (by kernel_rfl); refine kv_cons ?_ ?_ ?_; exact e_str (l := [109]) (by kernel_rfl); exact e_str (l := [34, 41, 34]) (by kernel_rfl); refine kv_cons ?_ ?_ ?_; exact e_str (l := [97]) (by kernel_rfl); exact e_str (l := [92, 40]) (by kernel_rfl); refine kv_cons ?_ ?_ ?_; exact e_str (l := [122]) (by kernel_rfl); exact e_str (l := [92, 92, 34]) (by kernel_rfl); exact kv_nil))
theorem s_ends (h1 : ∀ j, j < 10 → (C.P.at' j).length = 1) (hW : C.P.W < 2 ^ 62) : SemF C 1 184 gEnds :=
  semF_of (T := T_law_ends) (ps := [0, 1]) (scope := fScope (stm 14)) (body := fBody (stm 14)) rfl (frOk (by kernel_rfl)) (⟨fun P => ⟨_, _, fa_184 P, rfl, rfl, rfl, rfl, rfl, rfl, by kernel_rfl, fun vs h => match vs, h with | [v0, v1], _ => by rfl⟩⟩) (by decide) (by decide)
    (by (refine semS_cons ?_ ?_; exact semS_multiOwn (by kernel_rfl) (by kernel_rfl) (by kernel_rfl) (mem_ok (by kernel_rfl)) (mem_ok (by kernel_rfl)) (mem_ok (by kernel_rfl)) (by decide) (by decide) (by decide) (semN_lst (sem_nil) rfl) (by (refine sem_dct ?_ (by kernel_rfl) (by kernel_rfl) (List.cons_ne_nil _ _) (Nat.le_of_ble_eq_true (by kernel_rfl)); refine kv_cons ?_ ?_ ?_; exact e_var (i := 0) (by kernel_rfl); exact sem_int; exact kv_nil)) (sem_int) (fun _ => rfl) (fun _ => rfl) (fun _ => rfl) (fun _ => rfl) (fun env => swapped3 env rfl rfl rfl (by kernel_rfl)); refine semS_cons ?_ ?_; exact semS_while (semB_neD (e_var (i := 3) (by kernel_rfl)) rfl) (by (refine semS_cons ?_ ?_; exact semS_asgo (by kernel_rfl) (mem_ok (by kernel_rfl)) (semN_dct0) (fun _ => rfl); refine semS_cons ?_ ?_; exact semS_for (.name (by kernel_rfl) (mem_ok (by kernel_rfl))) (semI_of h1 (e_var (i := 3) (by kernel_rfl))) (by (refine semS_cons ?_ ?_; exact semS_asgComp (by kernel_rfl) (mem_ok (by kernel_rfl)) (compOk_one (T' := T_law_ends_1) (scOk (by kernel_rfl) rfl) (i_range1 (mem_ok (by kernel_rfl)) (sem_bin op_sub (e_len (mem_ok (by kernel_rfl)) (e_var (i := 6) (by kernel_rfl)) (fun _ => rfl)) (e_var (i := 1) (by kernel_rfl))) (fun _ => rfl)) (.name (by kernel_rfl) (mem_ok (by kernel_rfl))) (semT_one (semB_and (semB_cmp op_eq (sem_sub (e_var (i := 6) (by kernel_rfl)) (e_var (i := 7) (by kernel_rfl)) (fun _ _ => rfl)) (e_str (l := [40]) (by kernel_rfl)) rfl) (semB_cmp op_eq (sem_sub (e_var (i := 6) (by kernel_rfl)) (sem_bin op_add (e_var (i := 7) (by kernel_rfl)) (e_var (i := 1) (by kernel_rfl))) (fun _ _ => rfl)) (e_str (l := [41]) (by kernel_rfl)) rfl))) (by decide) (fun _ _ => rfl) (e_var (i := 7) (by kernel_rfl))); refine semS_cons ?_ ?_; exact semS_for (.name (by kernel_rfl) (mem_ok (by kernel_rfl))) (semI_of h1 (e_var (i := 8) (by kernel_rfl))) (by (refine semS_cons ?_ ?_; exact semS_asg (by kernel_rfl) (mem_ok (by kernel_rfl)) (sem_bin op_add (sem_bin op_add (sem_bin op_add (sem_bin op_add (sem_sliceH (e_var (i := 6) (by kernel_rfl)) (e_var (i := 7) (by kernel_rfl))) (e_str (l := [41]) (by kernel_rfl))) (sem_slice (e_var (i := 6) (by kernel_rfl)) (sem_bin op_add (e_var (i := 7) (by kernel_rfl)) (sem_int)) (sem_bin op_add (e_var (i := 7) (by kernel_rfl)) (e_var (i := 1) (by kernel_rfl))))) (e_str (l := [40]) (by kernel_rfl))) (sem_sliceL (e_var (i := 6) (by kernel_rfl)) (sem_bin op_add (sem_bin op_add (e_var (i := 7) (by kernel_rfl)) (e_var (i := 1) (by kernel_rfl))) (sem_int)))) (fun _ => rfl); refine semS_cons ?_ ?_; exact semS_setidx (by kernel_rfl) (by kernel_rfl) (by kernel_rfl) (sem_peek (sem_bin op_add (sem_getD (fun _ => ⟨_, rfl⟩) (e_var (i := 5) (by kernel_rfl)) (e_var (i := 9) (by kernel_rfl)) (sem_int) (fun _ => rfl)) (sem_sub (e_var (i := 3) (by kernel_rfl)) (e_var (i := 6) (by kernel_rfl)) (fun _ _ => rfl)))) (e_var (i := 9) (by kernel_rfl)) (fun _ => rfl); exact semS_nil)) (fun _ _ => rfl); refine semS_cons ?_ ?_; exact semS_if (semB_cmp op_eq (e_var (i := 8) (by kernel_rfl)) (sem_lst (sem_nil) rfl) rfl) (by (refine semS_cons ?_ ?_; exact semS_append (by kernel_rfl) (by kernel_rfl) (by kernel_rfl) (sem_tup (sem_cons (e_var (i := 4) (by kernel_rfl)) (sem_cons (sem_sub (e_var (i := 3) (by kernel_rfl)) (e_var (i := 6) (by kernel_rfl)) (fun _ _ => rfl)) (sem_nil) (fun _ => rfl)) (fun _ => rfl)) rfl) (fun _ => rfl) (by kernel_rfl) (fun _ => rfl) inter_ok (fun _ => rfl); exact semS_nil)) (by (exact semS_nil)); exact semS_nil)) (fun _ _ => rfl); refine semS_cons ?_ ?_; exact semS_freeze (semS_multi (.cons (by kernel_rfl) (mem_ok (by kernel_rfl)) (.cons (by kernel_rfl) (mem_ok (by kernel_rfl)) .nil)) (by decide) (sem_tup (sem_cons (e_var (i := 5) (by kernel_rfl)) (sem_cons (sem_bin op_add (e_var (i := 4) (by kernel_rfl)) (sem_int)) (sem_nil) (fun _ => rfl)) (fun _ => rfl)) rfl) (fun _ => rfl) (fun env => swapped2 env rfl rfl rfl (by kernel_rfl))); exact semS_nil)); refine semS_cons ?_ ?_; exact semS_freeze (semS_ret (e_var (i := 2) (by kernel_rfl))); exact semS_nil))
theorem s_fact (h1 : ∀ j, j < 10 → (C.P.at' j).length = 1) (hW : C.P.W < 2 ^ 62) : SemF C 1 191 gFact :=
  semF_of (T := T_law_factorial) (ps := [0]) (scope := fScope (stm 15)) (body := fBody (stm 15)) rfl (frOk (by kernel_rfl)) (⟨fun P => ⟨_, _, fa_191 P, rfl, rfl, rfl, rfl, rfl, rfl, by kernel_rfl, fun vs h => match vs, h with | [v0], _ => by rfl⟩⟩) (by decide) (by decide)
    (by (refine semS_cons ?_ ?_; exact semS_asg (by kernel_rfl) (mem_ok (by kernel_rfl)) (sem_int) (fun _ => rfl); refine semS_cons ?_ ?_; exact semS_for (.name (by kernel_rfl) (mem_ok (by kernel_rfl))) (i_range1 (mem_ok (by kernel_rfl)) (e_var (i := 0) (by kernel_rfl)) (fun _ => rfl)) (by (refine semS_cons ?_ ?_; exact semS_asg (by kernel_rfl) (mem_ok (by kernel_rfl)) (sem_bin op_mul (e_var (i := 1) (by kernel_rfl)) (sem_bin op_add (e_var (i := 2) (by kernel_rfl)) (sem_int))) (fun _ => rfl); exact semS_nil)) (fun _ _ => rfl); refine semS_cons ?_ ?_; exact semS_ret (e_var (i := 1) (by kernel_rfl)); exact semS_nil))
theorem s_lead (h1 : ∀ j, j < 10 → (C.P.at' j).length = 1) (hW : C.P.W < 2 ^ 62) : SemF C 3 196 gLead :=
  semF_of (T := T_law_lead) (ps := [0, 1]) (scope := fScope (stm 16)) (body := fBody (stm 16)) rfl (frOk (by kernel_rfl)) (⟨fun P => ⟨_, _, fa_196 P, rfl, rfl, rfl, rfl, rfl, rfl, by kernel_rfl, fun vs h => match vs, h with | [v0, v1], _ => by rfl⟩⟩) (by decide) (by decide)
    (by (refine semS_cons ?_ ?_; exact semS_ret (sem_call (by decide) (s_ws h1 hW) g_76 k_76 rfl (mem_ok (by kernel_rfl)) (sem_cons (sem_bin op_add (sem_bin op_add (sem_join (by kernel_rfl) (fun _ => ⟨_, rfl⟩) (sem_comp (compOk_one (T' := T_law_lead_1) (scOk (by kernel_rfl) rfl) (semI_of h1 (e_var (i := 0) (by kernel_rfl))) (.name (by kernel_rfl) (mem_ok (by kernel_rfl))) semT_nil (by decide) (fun _ _ => rfl) (sem_bin op_add (sem_bin op_mul (e_str (l := [32]) (by kernel_rfl)) (e_var (i := 2) (by kernel_rfl))) (e_str (l := [9]) (by kernel_rfl))))) (fun _ => rfl)) (sem_bin op_mul (e_str (l := [32]) (by kernel_rfl)) (e_var (i := 1) (by kernel_rfl)))) (e_str (l := [120, 9, 32]) (by kernel_rfl))) (sem_nil) (fun _ => rfl)) (fun _ => rfl) (fun _ => rfl)); exact semS_nil))
end Mine.MI
end
-- MiPl
section
namespace Mine.MI
variable {C : Cx}
noncomputable def lawSt (i : Nat) : Stmt := ((fBody (stm 17))[i]?).getD (.Pass ⟨0, 0, 0, 0⟩)
noncomputable def wideE : Expr := match lawSt 13 with | .Assign _ (.Tuple (e :: _) _ _) _ => e | _ => .Name "" ⟨0, 0, 0, 0⟩
set_option maxHeartbeats 2000000
theorem p_law1 (h1 : ∀ j, j < 10 → (C.P.at' j).length = 1) (hW : C.P.W < 2 ^ 62) (hmap : SemF C 4 165 oMap) (hin : SemF C 4 119 oIn) : SemS C 4 T_law (lawSt 1) (lw1) := by exact semS_asg (by kernel_rfl) (mem_ok (by kernel_rfl)) (sem_join (by kernel_rfl) (fun _ => ⟨_, rfl⟩) (sem_comp (compOk_two (T' := T_law_2) (scOk (by kernel_rfl) rfl) (semI_of h1 (e_var (i := 1) (by kernel_rfl))) (.tup (.cons (by kernel_rfl) (mem_ok (by kernel_rfl)) (.cons (by kernel_rfl) (mem_ok (by kernel_rfl)) .nil))) semT_nil (by decide) (fun _ _ => rfl) (semI_of h1 (e_var (i := 4) (by kernel_rfl))) (.name (by kernel_rfl) (mem_ok (by kernel_rfl))) (semT_one (semB_cmp op_is (sem_call (by decide) hin g_119 k_119 rfl (mem_ok (by kernel_rfl)) (sem_cons (e_var (i := 6) (by kernel_rfl)) (sem_nil) (fun _ => rfl)) (fun _ => rfl) (fun _ => rfl)) (sem_bool) rfl)) (fun _ _ => rfl) (by decide) (sem_call (by decide) hmap g_165 k_165 rfl (mem_ok (by kernel_rfl)) (sem_cons (e_var (i := 6) (by kernel_rfl)) (sem_nil) (fun _ => rfl)) (fun _ => rfl) (fun _ => rfl)))) (fun _ => rfl)) (fun _ => rfl)
theorem p_law2 (h1 : ∀ j, j < 10 → (C.P.at' j).length = 1) (hW : C.P.W < 2 ^ 62) : SemS C 4 T_law (lawSt 2) (lw2) := by exact semS_if (semB_cmp op_ne (e_var (i := 7) (by kernel_rfl)) (sem_join (by kernel_rfl) (fun _ => ⟨_, rfl⟩) (sem_comp (compOk_one (T' := T_law_3) (scOk (by kernel_rfl) rfl) (semI_of h1 (e_var (i := 1) (by kernel_rfl))) (.tup (.cons (by kernel_rfl) (mem_ok (by kernel_rfl)) (.cons (by kernel_rfl) (mem_ok (by kernel_rfl)) .nil))) semT_nil (by decide) (fun _ _ => rfl) (e_var (i := 5) (by kernel_rfl)))) (fun _ => rfl)) rfl) (by (refine semS_cons ?_ ?_; exact semS_ret (sem_bool); exact semS_nil)) (by (exact semS_nil))
theorem p_law3 (h1 : ∀ j, j < 10 → (C.P.at' j).length = 1) (hW : C.P.W < 2 ^ 62) : SemS C 4 T_law (lawSt 3) (lw3) := by exact semS_asg (by kernel_rfl) (mem_ok (by kernel_rfl)) (sem_sliceL (sem_split (c := 124) (by kernel_rfl) (fun _ => ⟨_, rfl⟩) (sem_join (by kernel_rfl) (fun _ => ⟨_, rfl⟩) (sem_comp (compOk_one (T' := T_law_4) (scOk (by kernel_rfl) rfl) (semI_of h1 (e_var (i := 7) (by kernel_rfl))) (.name (by kernel_rfl) (mem_ok (by kernel_rfl))) semT_nil (by decide) (fun _ _ => rfl) (sem_call (by decide) (s_piece h1 hW) g_179 k_179 rfl (mem_ok (by kernel_rfl)) (sem_cons (e_var (i := 8) (by kernel_rfl)) (sem_nil) (fun _ => rfl)) (fun _ => rfl) (fun _ => rfl)))) (fun _ => rfl)) rfl) (sem_int)) (fun _ => rfl)
theorem p_law4 (h1 : ∀ j, j < 10 → (C.P.at' j).length = 1) (hW : C.P.W < 2 ^ 62) : SemS C 4 T_law (lawSt 4) (lw4) := by exact semS_asg (by kernel_rfl) (mem_ok (by kernel_rfl)) (sem_join (by kernel_rfl) (fun _ => ⟨_, rfl⟩) (sem_comp (compOk_one (T' := T_law_5) (scOk (by kernel_rfl) rfl) (semI_of h1 (e_var (i := 7) (by kernel_rfl))) (.name (by kernel_rfl) (mem_ok (by kernel_rfl))) (semT_one (semB_cmp op_in (e_var (i := 8) (by kernel_rfl)) (e_str (l := [104, 107, 112]) (by kernel_rfl)) rfl)) (by decide) (fun _ _ => rfl) (sem_ite (semB_cmp op_eq (e_var (i := 8) (by kernel_rfl)) (e_str (l := [112]) (by kernel_rfl)) rfl) (e_str (l := [41]) (by kernel_rfl)) (e_str (l := [40]) (by kernel_rfl))))) (fun _ => rfl)) (fun _ => rfl)
theorem p_law5 (h1 : ∀ j, j < 10 → (C.P.at' j).length = 1) (hW : C.P.W < 2 ^ 62) (hpar : SemF C 3 101 gParen) : SemS C 4 T_law (lawSt 5) (lw5) := by exact semS_asgComp (by kernel_rfl) (mem_ok (by kernel_rfl)) (compOk_two (T' := T_law_6) (scOk (by kernel_rfl) rfl) (i_range1 (mem_ok (by kernel_rfl)) (e_len (mem_ok (by kernel_rfl)) (e_var (i := 9) (by kernel_rfl)) (fun _ => rfl)) (fun _ => rfl)) (.name (by kernel_rfl) (mem_ok (by kernel_rfl))) semT_nil (by decide) (fun _ _ => rfl) (i_range1 (mem_ok (by kernel_rfl)) (e_var (i := 11) (by kernel_rfl)) (fun _ => rfl)) (.name (by kernel_rfl) (mem_ok (by kernel_rfl))) semT_nil (fun _ _ => rfl) (by decide) (sem_tup (sem_cons (sem_bin op_sub (e_var (i := 11) (by kernel_rfl)) (e_var (i := 12) (by kernel_rfl))) (sem_cons (sem_call (by decide) hpar g_101 k_101 rfl (mem_ok (by kernel_rfl)) (sem_cons (sem_bin op_add (sem_bin op_add (sem_sub (e_var (i := 9) (by kernel_rfl)) (e_var (i := 12) (by kernel_rfl)) (fun _ _ => rfl)) (e_str (l := [40, 41]) (by kernel_rfl))) (sem_sub (e_var (i := 9) (by kernel_rfl)) (e_var (i := 11) (by kernel_rfl)) (fun _ _ => rfl))) (sem_nil) (fun _ => rfl)) (fun _ => rfl) (fun _ => rfl)) (sem_nil) (fun _ => rfl)) (fun _ => rfl)) rfl))
theorem p_law6 (h1 : ∀ j, j < 10 → (C.P.at' j).length = 1) (hW : C.P.W < 2 ^ 62) : SemS C 4 T_law (lawSt 6) (lw6) := by exact semS_asgComp (by kernel_rfl) (mem_ok (by kernel_rfl)) (compOk_one (T' := T_law_7) (scOk (by kernel_rfl) rfl) (semI_of h1 (e_var (i := 13) (by kernel_rfl))) (.tup (.cons (by kernel_rfl) (mem_ok (by kernel_rfl)) (.cons (by kernel_rfl) (mem_ok (by kernel_rfl)) .nil))) (semT_one (semB_cmp op_is (e_var (i := 15) (by kernel_rfl)) (sem_bool) rfl)) (by decide) (fun _ _ => rfl) (e_var (i := 14) (by kernel_rfl)))
theorem p_law7 (h1 : ∀ j, j < 10 → (C.P.at' j).length = 1) (hW : C.P.W < 2 ^ 62) : SemS C 4 T_law (lawSt 7) (lw7) := by exact semS_if (semB_cmp op_ne (sem_comp (compOk_one (T' := T_law_8) (scOk (by kernel_rfl) rfl) (semI_of h1 (e_var (i := 13) (by kernel_rfl))) (.tup (.cons (by kernel_rfl) (mem_ok (by kernel_rfl)) (.cons (by kernel_rfl) (mem_ok (by kernel_rfl)) .nil))) (semT_one (semB_and (semB_cmp op_isnt (e_var (i := 15) (by kernel_rfl)) (sem_bool) rfl) (semB_cmp op_isnt (e_var (i := 15) (by kernel_rfl)) (sem_bool) rfl))) (by decide) (fun _ _ => rfl) (e_var (i := 14) (by kernel_rfl)))) (sem_lst (sem_nil) rfl) rfl) (by (refine semS_cons ?_ ?_; exact semS_ret (sem_bool); exact semS_nil)) (by (exact semS_nil))
theorem p_law8 (h1 : ∀ j, j < 10 → (C.P.at' j).length = 1) (hW : C.P.W < 2 ^ 62) : SemS C 4 T_law (lawSt 8) (lw8) := by exact semS_multi (.cons (by kernel_rfl) (mem_ok (by kernel_rfl)) (.cons (by kernel_rfl) (mem_ok (by kernel_rfl)) (.cons (by kernel_rfl) (mem_ok (by kernel_rfl)) .nil))) (by decide) (sem_tup (sem_cons (sem_call (by decide) (s_lead h1 hW) g_196 k_196 rfl (mem_ok (by kernel_rfl)) (sem_cons (sem_comp (compOk_one (T' := T_law_9) (scOk (by kernel_rfl) rfl) (semI_of h1 (e_var (i := 16) (by kernel_rfl))) (.name (by kernel_rfl) (mem_ok (by kernel_rfl))) semT_nil (by decide) (fun _ _ => rfl) (sem_bin op_sub (e_var (i := 14) (by kernel_rfl)) (sem_int)))) (sem_cons (sem_int) (sem_nil) (fun _ => rfl)) (fun _ => rfl)) (fun _ => rfl) (fun _ => rfl)) (sem_cons (sem_call (by decide) (s_lead h1 hW) g_196 k_196 rfl (mem_ok (by kernel_rfl)) (sem_cons (e_var (i := 16) (by kernel_rfl)) (sem_cons (sem_int) (sem_nil) (fun _ => rfl)) (fun _ => rfl)) (fun _ => rfl) (fun _ => rfl)) (sem_cons (sem_call (by decide) (s_lead h1 hW) g_196 k_196 rfl (mem_ok (by kernel_rfl)) (sem_cons (sem_comp (compOk_one (T' := T_law_10) (scOk (by kernel_rfl) rfl) (semI_of h1 (e_var (i := 16) (by kernel_rfl))) (.name (by kernel_rfl) (mem_ok (by kernel_rfl))) semT_nil (by decide) (fun _ _ => rfl) (sem_bin op_sub (e_var (i := 14) (by kernel_rfl)) (sem_int)))) (sem_cons (sem_int) (sem_nil) (fun _ => rfl)) (fun _ => rfl)) (fun _ => rfl) (fun _ => rfl)) (sem_nil) (fun _ => rfl)) (fun _ => rfl)) (fun _ => rfl)) rfl) (fun _ => rfl) (fun env => swapped3 env rfl rfl rfl (by kernel_rfl))
theorem p_law9 (h1 : ∀ j, j < 10 → (C.P.at' j).length = 1) (hW : C.P.W < 2 ^ 62) : SemS C 4 T_law (lawSt 9) (lw9) := by exact semS_asg (by kernel_rfl) (mem_ok (by kernel_rfl)) (sem_call (by decide) (s_lead h1 hW) g_196 k_196 rfl (mem_ok (by kernel_rfl)) (sem_cons (sem_bin op_add (sem_comp (compOk_one (T' := T_law_11) (scOk (by kernel_rfl) rfl) (semI_of h1 (e_var (i := 16) (by kernel_rfl))) (.name (by kernel_rfl) (mem_ok (by kernel_rfl))) semT_nil (by decide) (fun _ _ => rfl) (sem_bin op_sub (e_var (i := 14) (by kernel_rfl)) (sem_int)))) (sem_lst (sem_cons (e_len (mem_ok (by kernel_rfl)) (e_var (i := 16) (by kernel_rfl)) (fun _ => rfl)) (sem_nil) (fun _ => rfl)) rfl)) (sem_cons (sem_int) (sem_nil) (fun _ => rfl)) (fun _ => rfl)) (fun _ => rfl) (fun _ => rfl)) (fun _ => rfl)
theorem p_law10 (h1 : ∀ j, j < 10 → (C.P.at' j).length = 1) (hW : C.P.W < 2 ^ 62) : SemS C 4 T_law (lawSt 10) (lw10) := by exact semS_asgComp (by kernel_rfl) (mem_ok (by kernel_rfl)) (compOk_one (T' := T_law_12) (scOk (by kernel_rfl) rfl) (i_range2 hW (mem_ok (by kernel_rfl)) (sem_int) (sem_bin op_add (e_max1 (mem_ok (by kernel_rfl)) (sem_bin op_add (sem_lst (sem_cons (sem_int) (sem_nil) (fun _ => rfl)) rfl) (e_var (i := 16) (by kernel_rfl))) (fun _ => rfl)) (sem_int)) (fun _ => rfl) (fun _ => rfl)) (.name (by kernel_rfl) (mem_ok (by kernel_rfl))) semT_nil (by decide) (fun _ _ => rfl) (sem_call (by decide) (s_ends h1 hW) g_184 k_184 rfl (mem_ok (by kernel_rfl)) (sem_cons (e_var (i := 10) (by kernel_rfl)) (sem_cons (e_var (i := 21) (by kernel_rfl)) (sem_nil) (fun _ => rfl)) (fun _ => rfl)) (fun _ => rfl) (fun _ => rfl)))
theorem p_law11 (h1 : ∀ j, j < 10 → (C.P.at' j).length = 1) (hW : C.P.W < 2 ^ 62) : SemS C 4 T_law (lawSt 11) (lw11) := by exact semS_asgo (by kernel_rfl) (mem_ok (by kernel_rfl)) (semN_lst (sem_nil) rfl) (fun _ => rfl)
theorem p_law12 (h1 : ∀ j, j < 10 → (C.P.at' j).length = 1) (hW : C.P.W < 2 ^ 62) : SemS C 4 T_law (lawSt 12) (lw12) := by exact semS_for (.name (by kernel_rfl) (mem_ok (by kernel_rfl))) (i_range2 hW (mem_ok (by kernel_rfl)) (sem_int) (sem_bin op_add (e_len (mem_ok (by kernel_rfl)) (e_var (i := 22) (by kernel_rfl)) (fun _ => rfl)) (sem_int)) (fun _ => rfl) (fun _ => rfl)) (by (refine semS_cons ?_ ?_; exact semS_asgComp (by kernel_rfl) (mem_ok (by kernel_rfl)) (compOk_one (T' := T_law_13) (scOk (by kernel_rfl) rfl) (i_range2 hW (mem_ok (by kernel_rfl)) (sem_int) (sem_int) (fun _ => rfl) (fun _ => rfl)) (.name (by kernel_rfl) (mem_ok (by kernel_rfl))) semT_nil (by decide) (fun _ _ => rfl) (sem_bin op_fdiv (sem_bin op_sub (sem_bin op_sub (sem_meth (by decide) (s_indent h1 hW) (fun _ => ⟨_, rfl⟩) m_45 t_45 k_45 (by kernel_rfl) (e_var (i := 18) (by kernel_rfl)) (sem_cons (sem_bin op_mul (e_var (i := 21) (by kernel_rfl)) (e_var (i := 2) (by kernel_rfl))) (sem_nil) (fun _ => rfl)) (fun _ => rfl) (fun _ => rfl)) (sem_int)) (sem_meth (by decide) (s_indent h1 hW) (fun _ => ⟨_, rfl⟩) m_45 t_45 k_45 (by kernel_rfl) (e_var (i := 17) (by kernel_rfl)) (sem_cons (sem_bin op_mul (e_var (i := 21) (by kernel_rfl)) (e_var (i := 2) (by kernel_rfl))) (sem_nil) (fun _ => rfl)) (fun _ => rfl) (fun _ => rfl))) (sem_bin op_mul (e_var (i := 21) (by kernel_rfl)) (e_var (i := 2) (by kernel_rfl))))); refine semS_cons ?_ ?_; exact semS_asg (by kernel_rfl) (mem_ok (by kernel_rfl)) (sem_bin op_mul (sem_bin op_mul (sem_bin op_pow (sem_int) (sem_bin op_add (sem_sub (e_var (i := 24) (by kernel_rfl)) (sem_int) (fun _ _ => rfl)) (sem_sub (e_var (i := 24) (by kernel_rfl)) (sem_int) (fun _ _ => rfl)))) (sem_bin op_pow (sem_int) (sem_sub (e_var (i := 24) (by kernel_rfl)) (sem_int) (fun _ _ => rfl)))) (sem_bin op_pow (sem_int) (sem_sub (e_var (i := 24) (by kernel_rfl)) (sem_int) (fun _ _ => rfl)))) (fun _ => rfl); refine semS_cons ?_ ?_; exact semS_if (semB_cmp op_ne (sem_sub (e_var (i := 22) (by kernel_rfl)) (sem_bin op_sub (e_var (i := 21) (by kernel_rfl)) (sem_int)) (fun _ _ => rfl)) (sem_lst (sem_cons (sem_tup (sem_cons (sem_sub (e_var (i := 24) (by kernel_rfl)) (sem_int) (fun _ _ => rfl)) (sem_cons (sem_bin op_fdiv (sem_call (by decide) (s_fact h1 hW) g_191 k_191 rfl (mem_ok (by kernel_rfl)) (sem_cons (sem_sub (e_var (i := 24) (by kernel_rfl)) (sem_int) (fun _ _ => rfl)) (sem_nil) (fun _ => rfl)) (fun _ => rfl) (fun _ => rfl)) (e_var (i := 25) (by kernel_rfl))) (sem_nil) (fun _ => rfl)) (fun _ => rfl)) rfl) (sem_nil) (fun _ => rfl)) rfl) rfl) (by (refine semS_cons ?_ ?_; exact semS_ret (sem_bool); exact semS_nil)) (by (exact semS_nil)); refine semS_cons ?_ ?_; exact semS_asg (by kernel_rfl) (mem_ok (by kernel_rfl)) (e_sum (mem_ok (by kernel_rfl)) (sem_comp (compOk_one (T' := T_law_14) (scOk (by kernel_rfl) rfl) (semI_of h1 (e_var (i := 16) (by kernel_rfl))) (.name (by kernel_rfl) (mem_ok (by kernel_rfl))) semT_nil (by decide) (fun _ _ => rfl) (sem_bin op_mul (e_var (i := 21) (by kernel_rfl)) (sem_bin op_add (sem_bin op_fdiv (sem_bin op_sub (e_var (i := 14) (by kernel_rfl)) (sem_int)) (e_var (i := 21) (by kernel_rfl))) (sem_int))))) (fun _ => rfl)) (fun _ => rfl); refine semS_cons ?_ ?_; exact semS_append (by kernel_rfl) (by kernel_rfl) (by kernel_rfl) (sem_tup (sem_cons (e_var (i := 21) (by kernel_rfl)) (sem_cons (e_var (i := 26) (by kernel_rfl)) (sem_cons (sem_bin op_add (sem_bin op_add (e_var (i := 26) (by kernel_rfl)) (sem_bin op_mul (e_var (i := 21) (by kernel_rfl)) (sem_sub (e_var (i := 24) (by kernel_rfl)) (sem_int) (fun _ _ => rfl)))) (sem_int)) (sem_nil) (fun _ => rfl)) (fun _ => rfl)) (fun _ => rfl)) rfl) (fun _ => rfl) (by kernel_rfl) (fun _ => rfl) inter_ok (fun _ => rfl); refine semS_cons ?_ ?_; exact semS_if (semB_cmp op_ne (sem_meth (by decide) (s_indent h1 hW) (fun _ => ⟨_, rfl⟩) m_45 t_45 k_45 (by kernel_rfl) (e_var (i := 20) (by kernel_rfl)) (sem_cons (e_var (i := 21) (by kernel_rfl)) (sem_nil) (fun _ => rfl)) (fun _ => rfl) (fun _ => rfl)) (sem_bin op_add (e_var (i := 26) (by kernel_rfl)) (sem_bin op_mul (e_var (i := 21) (by kernel_rfl)) (sem_bin op_add (sem_bin op_fdiv (e_len (mem_ok (by kernel_rfl)) (e_var (i := 16) (by kernel_rfl)) (fun _ => rfl)) (e_var (i := 21) (by kernel_rfl))) (sem_int)))) rfl) (by (refine semS_cons ?_ ?_; exact semS_ret (sem_bool); exact semS_nil)) (by (exact semS_nil)); exact semS_nil)) (fun _ _ => rfl)
theorem p_law13 (h1 : ∀ j, j < 10 → (C.P.at' j).length = 1) (hW : C.P.W < 2 ^ 62) {wv : V} (h13 : SemE C 4 T_law wideE (wideN wv)) : SemS C 4 T_law (lawSt 13) (lw13 wv) := by exact semS_freeze (semS_multi (.cons (by kernel_rfl) (mem_ok (by kernel_rfl)) (.cons (by kernel_rfl) (mem_ok (by kernel_rfl)) .nil)) (by decide) (sem_tup (sem_cons (h13) (sem_cons (e_len (mem_ok (by kernel_rfl)) (e_var (i := 16) (by kernel_rfl)) (fun _ => rfl)) sem_nil (fun _ => rfl)) (fun _ => rfl)) rfl) (fun _ => rfl) (fun env => swapped2 env rfl rfl rfl (by kernel_rfl)))
theorem p_law14 (h1 : ∀ j, j < 10 → (C.P.at' j).length = 1) (hW : C.P.W < 2 ^ 62) : SemS C 4 T_law (lawSt 14) (lw14) := by exact semS_if (semB_cmp op_ne (sem_lst (sem_cons (sem_meth (by decide) (s_indent h1 hW) (fun _ => ⟨_, rfl⟩) m_45 t_45 k_45 (by kernel_rfl) (e_var (i := 17) (by kernel_rfl)) (sem_cons (e_var (i := 27) (by kernel_rfl)) (sem_nil) (fun _ => rfl)) (fun _ => rfl) (fun _ => rfl)) (sem_cons (sem_meth (by decide) (s_indent h1 hW) (fun _ => ⟨_, rfl⟩) m_45 t_45 k_45 (by kernel_rfl) (e_var (i := 18) (by kernel_rfl)) (sem_cons (e_var (i := 27) (by kernel_rfl)) (sem_nil) (fun _ => rfl)) (fun _ => rfl) (fun _ => rfl)) (sem_nil) (fun _ => rfl)) (fun _ => rfl)) rfl) (sem_lst (sem_cons (sem_bin op_mul (e_var (i := 27) (by kernel_rfl)) (e_var (i := 28) (by kernel_rfl))) (sem_cons (sem_bin op_add (sem_bin op_mul (e_var (i := 27) (by kernel_rfl)) (e_var (i := 28) (by kernel_rfl))) (sem_int)) (sem_nil) (fun _ => rfl)) (fun _ => rfl)) rfl) rfl) (by (refine semS_cons ?_ ?_; exact semS_ret (sem_bool); exact semS_nil)) (by (exact semS_nil))
theorem p_law15 (h1 : ∀ j, j < 10 → (C.P.at' j).length = 1) (hW : C.P.W < 2 ^ 62) : SemS C 4 T_law (lawSt 15) (lw15) := by exact semS_if (semB_cmp op_ne (sem_meth (by decide) (s_indent h1 hW) (fun _ => ⟨_, rfl⟩) m_45 t_45 k_45 (by kernel_rfl) (e_var (i := 20) (by kernel_rfl)) (sem_cons (e_var (i := 27) (by kernel_rfl)) (sem_nil) (fun _ => rfl)) (fun _ => rfl) (fun _ => rfl)) (sem_bin op_mul (e_var (i := 27) (by kernel_rfl)) (sem_bin op_add (sem_bin op_add (e_var (i := 28) (by kernel_rfl)) (sem_int)) (sem_bin op_fdiv (e_var (i := 28) (by kernel_rfl)) (e_var (i := 27) (by kernel_rfl))))) rfl) (by (refine semS_cons ?_ ?_; exact semS_ret (sem_bool); exact semS_nil)) (by (exact semS_nil))
theorem p_law16 (h1 : ∀ j, j < 10 → (C.P.at' j).length = 1) (hW : C.P.W < 2 ^ 62) : SemS C 4 T_law (lawSt 16) (lw16) := by exact semS_if (semB_or (semB_cmp op_ne (sem_meth (by decide) (s_neq h1 hW) (fun _ => ⟨_, rfl⟩) m_59 t_59 k_59 (by kernel_rfl) (e_var (i := 17) (by kernel_rfl)) (sem_cons (e_var (i := 18) (by kernel_rfl)) (sem_nil) (fun _ => rfl)) (fun _ => rfl) (fun _ => rfl)) (e_var (i := 23) (by kernel_rfl)) rfl) (semB_cmp op_isnt (sem_meth (by decide) (s_less h1 hW) (fun _ => ⟨_, rfl⟩) m_66 t_66 k_66 (by kernel_rfl) (e_var (i := 17) (by kernel_rfl)) (sem_cons (e_var (i := 18) (by kernel_rfl)) (sem_nil) (fun _ => rfl)) (fun _ => rfl) (fun _ => rfl)) (sem_bool) rfl)) (by (refine semS_cons ?_ ?_; exact semS_ret (sem_bool); exact semS_nil)) (by (exact semS_nil))
theorem p_law17 (h1 : ∀ j, j < 10 → (C.P.at' j).length = 1) (hW : C.P.W < 2 ^ 62) : SemS C 4 T_law (lawSt 17) (lw17) := by exact semS_if (semB_cmp op_ne (sem_meth (by decide) (s_nless h1 hW) (fun _ => ⟨_, rfl⟩) m_73 t_73 k_73 (by kernel_rfl) (e_var (i := 18) (by kernel_rfl)) (sem_cons (e_var (i := 17) (by kernel_rfl)) (sem_nil) (fun _ => rfl)) (fun _ => rfl) (fun _ => rfl)) (sem_comp (compOk_one (T' := T_law_15) (scOk (by kernel_rfl) rfl) (semI_of h1 (e_var (i := 23) (by kernel_rfl))) (.tup (.cons (by kernel_rfl) (mem_ok (by kernel_rfl)) (.cons (by kernel_rfl) (mem_ok (by kernel_rfl)) (.cons (by kernel_rfl) (mem_ok (by kernel_rfl)) .nil)))) semT_nil (by decide) (fun _ _ => rfl) (sem_tup (sem_cons (e_var (i := 21) (by kernel_rfl)) (sem_cons (e_var (i := 29) (by kernel_rfl)) (sem_cons (e_var (i := 26) (by kernel_rfl)) (sem_nil) (fun _ => rfl)) (fun _ => rfl)) (fun _ => rfl)) rfl))) rfl) (by (refine semS_cons ?_ ?_; exact semS_ret (sem_bool); exact semS_nil)) (by (exact semS_nil))
theorem p_law18 (h1 : ∀ j, j < 10 → (C.P.at' j).length = 1) (hW : C.P.W < 2 ^ 62) : SemS C 4 T_law (lawSt 18) (lw18) := by exact semS_asgComp (by kernel_rfl) (mem_ok (by kernel_rfl)) (compOk_one (T' := T_law_16) (scOk (by kernel_rfl) rfl) (semI_of h1 (e_var (i := 23) (by kernel_rfl))) (.tup (.cons (by kernel_rfl) (mem_ok (by kernel_rfl)) (.cons (by kernel_rfl) (mem_ok (by kernel_rfl)) (.cons (by kernel_rfl) (mem_ok (by kernel_rfl)) .nil)))) (semT_one (semB_cmp op_ne (e_var (i := 29) (by kernel_rfl)) (sem_bin op_add (e_var (i := 26) (by kernel_rfl)) (sem_int)) rfl)) (by decide) (fun _ _ => rfl) (sem_tup (sem_cons (e_var (i := 21) (by kernel_rfl)) (sem_cons (sem_bin op_add (e_var (i := 26) (by kernel_rfl)) (sem_int)) (sem_cons (e_var (i := 29) (by kernel_rfl)) (sem_nil) (fun _ => rfl)) (fun _ => rfl)) (fun _ => rfl)) rfl))
theorem p_law19 (h1 : ∀ j, j < 10 → (C.P.at' j).length = 1) (hW : C.P.W < 2 ^ 62) : SemS C 4 T_law (lawSt 19) (lw19) := by exact semS_asgComp (by kernel_rfl) (mem_ok (by kernel_rfl)) (compOk_one (T' := T_law_17) (scOk (by kernel_rfl) rfl) (semI_of h1 (e_var (i := 23) (by kernel_rfl))) (.tup (.cons (by kernel_rfl) (mem_ok (by kernel_rfl)) (.cons (by kernel_rfl) (mem_ok (by kernel_rfl)) (.cons (by kernel_rfl) (mem_ok (by kernel_rfl)) .nil)))) (semT_one (semB_cmp op_eq (e_var (i := 29) (by kernel_rfl)) (sem_bin op_add (e_var (i := 26) (by kernel_rfl)) (sem_int)) rfl)) (by decide) (fun _ _ => rfl) (sem_tup (sem_cons (e_var (i := 21) (by kernel_rfl)) (sem_cons (sem_bin op_add (e_var (i := 26) (by kernel_rfl)) (sem_int)) (sem_cons (e_var (i := 29) (by kernel_rfl)) (sem_nil) (fun _ => rfl)) (fun _ => rfl)) (fun _ => rfl)) rfl))
theorem p_law20 (h1 : ∀ j, j < 10 → (C.P.at' j).length = 1) (hW : C.P.W < 2 ^ 62) : SemS C 4 T_law (lawSt 20) (lw20) := by exact semS_if (semB_or (semB_cmp op_ne (sem_meth (by decide) (s_neq h1 hW) (fun _ => ⟨_, rfl⟩) m_59 t_59 k_59 (by kernel_rfl) (e_var (i := 19) (by kernel_rfl)) (sem_cons (e_var (i := 18) (by kernel_rfl)) (sem_nil) (fun _ => rfl)) (fun _ => rfl) (fun _ => rfl)) (e_var (i := 30) (by kernel_rfl)) rfl) (semB_cmp op_ne (sem_meth (by decide) (s_nless h1 hW) (fun _ => ⟨_, rfl⟩) m_73 t_73 k_73 (by kernel_rfl) (e_var (i := 19) (by kernel_rfl)) (sem_cons (e_var (i := 18) (by kernel_rfl)) (sem_nil) (fun _ => rfl)) (fun _ => rfl) (fun _ => rfl)) (e_var (i := 31) (by kernel_rfl)) rfl)) (by (refine semS_cons ?_ ?_; exact semS_ret (sem_bool); exact semS_nil)) (by (exact semS_nil))
theorem p_law21 (h1 : ∀ j, j < 10 → (C.P.at' j).length = 1) (hW : C.P.W < 2 ^ 62) : SemS C 4 T_law (lawSt 21) (lw21) := by exact semS_if (semB_or (semB_cmp op_isnt (sem_meth (by decide) (s_less h1 hW) (fun _ => ⟨_, rfl⟩) m_66 t_66 k_66 (by kernel_rfl) (e_var (i := 19) (by kernel_rfl)) (sem_cons (e_var (i := 18) (by kernel_rfl)) (sem_nil) (fun _ => rfl)) (fun _ => rfl) (fun _ => rfl)) (sem_bool) rfl) (semB_cmp op_isnt (sem_meth (by decide) (s_equal h1 hW) (fun _ => ⟨_, rfl⟩) m_52 t_52 k_52 (by kernel_rfl) (e_var (i := 19) (by kernel_rfl)) (sem_cons (e_var (i := 17) (by kernel_rfl)) (sem_nil) (fun _ => rfl)) (fun _ => rfl) (fun _ => rfl)) (sem_bool) rfl)) (by (refine semS_cons ?_ ?_; exact semS_ret (sem_bool); exact semS_nil)) (by (exact semS_nil))
theorem p_law22 (h1 : ∀ j, j < 10 → (C.P.at' j).length = 1) (hW : C.P.W < 2 ^ 62) : SemS C 4 T_law (lawSt 22) (lw22) := by exact semS_ret (sem_cmp op_is (sem_meth (by decide) (s_equal h1 hW) (fun _ => ⟨_, rfl⟩) m_52 t_52 k_52 (by kernel_rfl) (sem_call (by decide) (s_lead h1 hW) g_196 k_196 rfl (mem_ok (by kernel_rfl)) (sem_cons (sem_bin op_add (e_var (i := 16) (by kernel_rfl)) (sem_lst (sem_cons (sem_int) (sem_nil) (fun _ => rfl)) rfl)) (sem_cons (sem_int) (sem_nil) (fun _ => rfl)) (fun _ => rfl)) (fun _ => rfl) (fun _ => rfl)) (sem_cons (e_var (i := 20) (by kernel_rfl)) (sem_nil) (fun _ => rfl)) (fun _ => rfl) (fun _ => rfl)) (sem_cmp op_eq (sem_sub (sem_sub (sem_sub (e_var (i := 22) (by kernel_rfl)) (sem_int) (fun _ _ => rfl)) (sem_int) (fun _ _ => rfl)) (sem_int) (fun _ _ => rfl)) (sem_int) rfl) rfl)
end Mine.MI
end
-- MiSg
section
namespace Mine.MI
noncomputable def uns : List Nat := [173, 847, 6150, 6155, 6156, 6157, 8203, 8204, 8205, 8288, 65279, 65024, 65025, 65026, 65027, 65028, 65029, 65030, 65031, 65032, 65033, 65034, 65035, 65036, 65037, 65038, 65039]
noncomputable def alph : List Nat := [0, 1, 2, 4, 7, 8, 9, 10, 11, 12]
noncomputable def codeT (al : Nat) : List (Nat × List Nat) := [(119815 + 52 * al, [104]), (119823 + 52 * al, [112]), (13259, [104, 112]), (13271, [112, 104]), (13273, [112, 112, 109]), (13169, [104, 112, 97]), (13261, [107, 107]), (13201, [107, 104, 122])]
noncomputable def unsAt (m : Nat) : Nat := uns.getD (m / 160 % 27) 0
noncomputable def alAt (m : Nat) : Nat := alph.getD (m / 8 % 10) 0
noncomputable def cdAt (m : Nat) : Nat × List Nat := (codeT (alAt m)).getD (m % 8) (0, [])
theorem nth_getD {α : Type} (d : α) : ∀ (l : List α) (k : Nat), k < l.length → nth l k = some (l.getD k d)
  | [], _, h => by simp at h
  | a :: r, 0, _ => rfl
  | a :: r, k + 1, h => by
    have := nth_getD d r k (by simpa using h)
    simpa [nth] using this
theorem nth_map {α β : Type} (f : α → β) : ∀ (l : List α) (k : Nat), nth (l.map f) k = (nth l k).map f
  | [], _ => by simp [nth]
  | a :: r, 0 => rfl
  | a :: r, k + 1 => by simpa [nth] using nth_map f r k
theorem seq_of {a b : DS} {ρ ρ' : Rho} {r : Option (Rho × Fl)} (h : a ρ = some (ρ', .next)) (h2 : b ρ' = r) : seq a b ρ = r := by unfold seq; rw [h]; exact h2
theorem fn_of {ps : List Nat} {b : DS} {vs : List V} {ρ ρ' : Rho} {d : V} (h : puts ps vs [] = some ρ) (h2 : b ρ = some (ρ', .ret d)) : fn ps b vs = some d := by unfold fn; rw [h]; show (match b ρ with | some (_, .ret d) => some d | _ => none) = some d; rw [h2]
theorem seq_ret {a b : DS} {ρ ρ' : Rho} {d : V} (h : a ρ = some (ρ', .ret d)) : seq a b ρ = some (ρ', .ret d) := by unfold seq; rw [h]
theorem bop_of {f : V → V → Option V} {a b : D} {ρ : Rho} {x y : V} {r : Option V} (h1 : a ρ = some x) (h2 : b ρ = some y) (h3 : f x y = r) : bop f a b ρ = r := by unfold bop; rw [h1]; show ob (b ρ) _ = r; rw [h2]; exact h3
theorem un_of {f : V → Option V} {a : D} {ρ : Rho} {x : V} {r : Option V} (h1 : a ρ = some x) (h3 : f x = r) : un f a ρ = r := by unfold un; rw [h1]; exact h3
theorem asg_of {x : Nat} {a : D} {ρ : Rho} {v : V} (h : a ρ = some v) : asg x a ρ = some (put x (.val v) ρ, .next) := by unfold asg; rw [h]; rfl
theorem unpack_of {xs : List Nat} {a : D} {ρ ρ' : Rho} {vs : List V} (h : a ρ = some (.tup vs)) (h2 : puts xs vs ρ = some ρ') : unpack xs a ρ = some (ρ', .next) := by unfold unpack; rw [h]; show ob (puts xs vs ρ) _ = _; rw [h2]; rfl
theorem ret_of {a : D} {ρ : Rho} {v : V} (h : a ρ = some v) : ret a ρ = some (ρ, .ret v) := by unfold ret; rw [h]; rfl
theorem tup2_of {a b : D} {ρ : Rho} {x y : V} (h1 : a ρ = some x) (h2 : b ρ = some y) : tupE [a, b] ρ = some (.tup [x, y]) := by unfold tupE evs; rw [h1]; show ob (ob (evs [b] ρ) _) _ = _; unfold evs; rw [h2]; rfl
theorem item_lst {l : List V} {k : Nat} {v : V} (hk : k ≤ 10000) (h : nth l k = some v) : item (.lst l) (.int (.ofNat k)) = some v := by
  show chk (Nat.ble k 10000) (nth l k) = some v
  rw [Nat.ble_eq_true_of_le hk]; exact h
theorem uns_lt : ∀ k, k < 27 → uns.getD k 0 < 0x110000 := by decide
theorem alph_le : ∀ k, k < 10 → alph.getD k 0 ≤ 12 := by decide
theorem code_lt : ∀ al, al < 13 → ∀ k, k < 8 → ((codeT al).getD k (0, [])).1 < 0x110000 := by decide
noncomputable def codeV (al : Nat) : List V := [.tup [.int (.ofNat (119815 + 52 * al)), .str [104]], .tup [.int (.ofNat (119823 + 52 * al)), .str [112]], .tup [.int (.ofNat 13259), .str [104, 112]], .tup [.int (.ofNat 13271), .str [112, 104]], .tup [.int (.ofNat 13273), .str [112, 112, 109]], .tup [.int (.ofNat 13169), .str [104, 112, 97]], .tup [.int (.ofNat 13261), .str [107, 107]], .tup [.int (.ofNat 13201), .str [107, 104, 122]]]
theorem codeV_eq (al : Nat) : codeV al = (codeT al).map fun p => .tup [.int (.ofNat p.1), .str p.2] := rfl
noncomputable def codesE : D := lstE [tupE [bop add (cInt 119815) (bop mul (cInt 52) (var 1)), cStr [104]], tupE [bop add (cInt 119823) (bop mul (cInt 52) (var 1)), cStr [112]], tupE [cInt 13259, cStr [104, 112]], tupE [cInt 13271, cStr [112, 104]], tupE [cInt 13273, cStr [112, 112, 109]], tupE [cInt 13169, cStr [104, 112, 97]], tupE [cInt 13261, cStr [107, 107]], tupE [cInt 13201, cStr [107, 104, 122]]]
theorem codes_ev (x : V) : ∀ al, al < 13 → codesE (put 1 (.val (.int (.ofNat al))) (put 0 (.val x) [])) = some (.lst (codeV al))
  | 0, _ => by kernel_rfl
  | 1, _ => by kernel_rfl
  | 2, _ => by kernel_rfl
  | 3, _ => by kernel_rfl
  | 4, _ => by kernel_rfl
  | 5, _ => by kernel_rfl
  | 6, _ => by kernel_rfl
  | 7, _ => by kernel_rfl
  | 8, _ => by kernel_rfl
  | 9, _ => by kernel_rfl
  | 10, _ => by kernel_rfl
  | 11, _ => by kernel_rfl
  | 12, _ => by kernel_rfl
theorem chr_of {c : Nat} (h : c < 0x110000) : chrV (.int (.ofNat c)) = some (.str [c]) := by
  show chk (Nat.ble (c + 1) 0x110000) _ = _
  rw [Nat.ble_eq_true_of_le h]; rfl
theorem sign_eq (m : Nat) : gSign [.int (.ofNat m)] = some (.tup [.str (rep [unsAt m] (m / 80 % 2) ++ [(cdAt m).1]), .str (cdAt m).2]) := by
  have l1 : m / 8 % 10 < 10 := Nat.mod_lt _ (by decide)
  have l2 : m % 8 < 8 := Nat.mod_lt _ (by decide)
  have l3 : m / 160 % 27 < 27 := Nat.mod_lt _ (by decide)
  have l4 : m / 80 % 2 < 2 := Nat.mod_lt _ (by decide)
  have hal : alAt m < 13 := Nat.lt_succ_of_le (alph_le _ l1)
  have n1 : nth (alph.map fun a => V.int (.ofNat a)) (m / 8 % 10) = some (.int (.ofNat (alAt m))) := by rw [nth_map, nth_getD 0 alph _ l1]; rfl
  have n2 : nth (codeV (alAt m)) (m % 8) = some (.tup [.int (.ofNat (cdAt m).1), .str (cdAt m).2]) := by rw [codeV_eq, nth_map, nth_getD (0, []) (codeT (alAt m)) _ l2]; rfl
  have n3 : nth (uns.map fun a => V.int (.ofNat a)) (m / 160 % 27) = some (.int (.ofNat (unsAt m))) := by rw [nth_map, nth_getD 0 uns _ l3]; rfl
  have hu : unsAt m < 0x110000 := uns_lt _ l3
  have hc : (cdAt m).1 < 0x110000 := code_lt _ hal _ l2
  refine fn_of rfl (seq_of (asg_of (v := .int (.ofNat (alAt m))) ?_) (seq_of (unpack_of (vs := [.int (.ofNat (cdAt m).1), .str (cdAt m).2]) ?_ rfl) (seq_of (asg_of (v := .lst (uns.map fun a => V.int (.ofNat a))) rfl) (seq_ret (ret_of (tup2_of (bop_of (x := .str (rep [unsAt m] (m / 80 % 2))) (bop_of (un_of ?_ (chr_of hu)) (y := .int (.ofNat (m / 80 % 2))) rfl ?_) (un_of (x := .int (.ofNat (cdAt m).1)) rfl (chr_of hc)) ?_) rfl))))))
  · exact bop_of (y := .int (.ofNat (m / 8 % 10))) rfl rfl (item_lst (by omega) n1)
  · exact bop_of (x := .lst (codeV (alAt m))) (y := .int (.ofNat (m % 8))) (codes_ev _ _ hal) rfl (item_lst (by omega) n2)
  · exact bop_of (x := .lst (uns.map fun a => V.int (.ofNat a))) (y := .int (.ofNat (m / 160 % 27))) rfl rfl (item_lst (by omega) n3)
  · show chk (Nat.ble (m / 80 % 2) 1000 && Nat.ble 1 1000) (some (V.str (rep [unsAt m] (m / 80 % 2)))) = some (V.str (rep [unsAt m] (m / 80 % 2)))
    rw [Nat.ble_eq_true_of_le (show m / 80 % 2 ≤ 1000 by omega)]; rfl
  · have : (rep [unsAt m] (m / 80 % 2)).length ≤ 1 := by
      have : m / 80 % 2 = 0 ∨ m / 80 % 2 = 1 := by omega
      rcases this with h | h <;> rw [h] <;> simp [rep]
    show chk (Nat.ble ((rep [unsAt m] (m / 80 % 2)).length + 1) 10000) (some (V.str (rep [unsAt m] (m / 80 % 2) ++ [(cdAt m).1]))) = some (V.str (rep [unsAt m] (m / 80 % 2) ++ [(cdAt m).1]))
    rw [Nat.ble_eq_true_of_le (by omega)]; rfl
end Mine.MI
end
-- MiOc
section
namespace Mine.MI
variable {C : Cx} {n : Nat} {T T' : St}

noncomputable def baseOf : Nat → Int
  | 0 => 87
  | 1 => 4
  | _ => 25
noncomputable def nOf (script : List Int) (k : Nat) : Int := (baseOf k + (pickNums script (some (k : Int)) none (some 3)).sum) % 1000000
noncomputable def mOf (script : List Int) (k : Nat) : Nat := (nOf script k).toNat
noncomputable def atOf (script : List Int) (j : Nat) : List Nat := if j < 10 then (if j % 2 = 0 then [unsAt (mOf script (j / 2))] else [(cdAt (mOf script (j / 2))).1]) else (cdAt (mOf script (j - 10))).2
noncomputable def bOf (script : List Int) (k : Nat) : Bool := Nat.beq (mOf script k / 80 % 2) 1
/-- the names stand for the script's own -/
structure Lay (C : Cx) : Prop where
  n : C.P.N = nOf C.P.script
  at' : C.P.at' = atOf C.P.script
  len : C.P.script.length ≤ 10000
theorem Lay.h1 (L : Lay C) : ∀ j, j < 10 → (C.P.at' j).length = 1 := fun j h => by
  rw [L.at']; unfold atOf; rw [if_pos h]; split <;> rfl
theorem nOf_eq (s : List Int) (k : Nat) : nOf s k = Int.ofNat (mOf s k) := by
  have h : 0 ≤ nOf s k := Int.emod_nonneg _ (by decide)
  unfold mOf
  exact (Int.toNat_of_nonneg h).symm

theorem s_sign (L : Lay C) (hW : C.P.W < 2 ^ 62) : SemF C 4 172 (oSign (bOf C.P.script)) := fun A F s ds vs d R H r e => by
  obtain ⟨k, rfl⟩ : ∃ k, ds = [.si k] := by unfold oSign at e; split at e <;> first | exact ⟨_, rfl⟩ | cases e
  obtain ⟨hk, e⟩ := chk_some (b := Nat.blt k 3) e
  cases e
  have hk : k < 3 := Nat.le_of_ble_eq_true hk
  simp only [RdL] at r
  obtain ⟨v, r', rfl, r1, rfl⟩ := r
  simp only [Rd] at r1
  obtain ⟨t, rfl⟩ := r1
  rw [L.n, nOf_eq]
  refine wpAny_mono (s_sign0 L.h1 hW A F s [.int (.ofNat (mOf C.P.script k))] _ _ (R.mono (by decide)) H (by simp only [RdL]; exact ⟨_, _, rfl, rd_int _ _, rfl⟩) (sign_eq _)) (fun v s' q => ?_) fun _ _ z => z
  obtain ⟨F', v', h', r'⟩ := q
  refine ⟨F', v', h', ?_⟩
  simp only [Rd, RdL] at r' ⊢
  obtain ⟨a, o, ws, m, rfl, g1, g2, g3, x, w, hw, ⟨_, tx, rfl⟩, y, w', rfl, ⟨_, ty, rfl⟩, rfl⟩ := r'
  refine ⟨a, o, ws, m, rfl, g1, g2, g3, _, _, hw, ⟨tx, ?_⟩, _, _, rfl, ⟨ty, ?_⟩, rfl⟩
  · have e1 : C.P.at' (2 * k) = [unsAt (mOf C.P.script k)] := by rw [L.at']; unfold atOf; rw [if_pos (by omega), if_pos (by omega), show 2 * k / 2 = k by omega]
    have e2 : C.P.at' (2 * k + 1) = [(cdAt (mOf C.P.script k)).1] := by rw [L.at']; unfold atOf; rw [if_pos (by omega), if_neg (by omega), show (2 * k + 1) / 2 = k by omega]
    have h2 : mOf C.P.script k / 80 % 2 = 0 ∨ mOf C.P.script k / 80 % 2 = 1 := by omega
    unfold bOf
    rcases h2 with h2 | h2 <;> rw [h2] <;> simp [Nat.beq, rep, e1, e2]
  · have e3 : C.P.at' (10 + k) = (cdAt (mOf C.P.script k)).2 := by rw [L.at']; unfold atOf; rw [if_neg (by omega), show 10 + k - 10 = k by omega]
    simp [e3]

theorem sumL_map : ∀ (l : List Int) (a : Int), sumL (l.map V.int) a = some (a + l.sum)
  | [], a => by simp [sumL]
  | x :: l, a => by simp [sumL, sumL_map l, Int.add_assoc]
theorem sumV_ints {l : List Int} (h : l.length ≤ 10000) : sumV (.lst (l.map .int)) = some (.int l.sum) := by
  show chk (Nat.ble (l.map V.int).length 10000) (ob (sumL (l.map V.int) 0) fun i => some (V.int i)) = some (V.int l.sum)
  rw [List.length_map, Nat.ble_eq_true_of_le h, sumL_map]
  show some (V.int (0 + l.sum)) = _
  rw [Int.zero_add]
theorem pick_len (l : List Int) (k : Nat) : (pickNums l (some (k : Int)) none (some 3)).length ≤ l.length := by
  have key : ∀ l : List Int, ∃ vs, IntsAre vs l := by
    intro l
    induction l with
    | nil => exact ⟨[], .nil⟩
    | cons x l ih => obtain ⟨vs, h⟩ := ih; exact ⟨_, .cons x 0 h⟩
  obtain ⟨vs, h⟩ := key l
  exact length_pickNums_le h _ _ _
theorem s_wide (L : Lay C) {wv : V} (hwv : ∀ F t, Rd C F wv (.int (8 + C.P.script.sum % 1000000) t)) : SemE C 4 T_law wideE (wideN wv) := by
  refine SemE.conv (f := bop add (cInt 8) (bop md (un sumV (scrL C.P.script 0)) (cInt 1000000))) ?_ fun ρ d e => ?_
  · refine sem_bin ?_ ?_ ?_
    exact op_add
    exact sem_int
    refine sem_bin ?_ ?_ ?_
    exact op_mod
    exact e_sum (mem_ok (by kernel_rfl)) (e_scr (i := 0) (by kernel_rfl)) (fun _ => rfl)
    exact sem_int
  · unfold wideN at e
    split at e
    · rename_i g
      cases e
      refine ⟨.int (8 + C.P.script.sum % 1000000), bop_of rfl (bop_of (un_of (x := .lst (C.P.script.map .int)) (by unfold scrL; rw [g]) (sumV_ints L.len)) rfl rfl) rfl, fun F v r => ?_⟩
      simp only [Rd] at r
      obtain ⟨t, rfl⟩ := r
      exact hwv F t
    · cases e
theorem s_law0 (L : Lay C) (hs : SemF C 4 172 (oSign (bOf C.P.script))) : SemS C 4 T_law (lawSt 0) (lw0 (oSign (bOf C.P.script))) := by
  refine semS_asgComp (T' := T_law_1) ?_ ?_ ?_
  kernel_rfl
  exact mem_ok (by kernel_rfl)
  refine compOk_one (T' := T_law_1) (scOk (by kernel_rfl) rfl) ?_ ?_ ?_ ?_ ?_ ?_
  · exact i_enumL (mem_ok (by kernel_rfl)) (sem_lst (sem_cons sem_int (sem_cons sem_int (sem_cons sem_int sem_nil (fun _ => rfl)) (fun _ => rfl)) (fun _ => rfl)) rfl) (fun _ => rfl)
  · exact (.tup (.cons (by kernel_rfl) (mem_ok (by kernel_rfl)) (.cons (by kernel_rfl) (mem_ok (by kernel_rfl)) .nil)))
  · exact semT_nil
  · decide
  · exact fun _ _ => rfl
  · refine sem_call (by decide) hs g_172 k_172 rfl (mem_ok (by kernel_rfl)) (sem_cons ?_ sem_nil (fun _ => rfl)) (fun _ => rfl) (fun _ => rfl)
    refine SemE.conv (f := bop md (bop add (var 3) (un sumV (scrStep C.P.script 0 2))) (cInt 1000000)) ?_ fun ρ d e => ?_
    · refine sem_bin ?_ ?_ ?_
      exact op_mod
      refine sem_bin ?_ ?_ ?_
      exact op_add
      exact e_var (i := 3) (by kernel_rfl)
      exact e_sum (mem_ok (by kernel_rfl)) (e_step L.len (by kernel_rfl) (by kernel_rfl)) (fun _ => rfl)
      exact sem_int
    · unfold primS at e
      split at e
      · rename_i i j g0 g2 g3
        split at e
        · rename_i q1 q2
          cases e
          have hj := Nat.eq_of_beq_eq_true q1
          have hb : (Int.ofNat j) = baseOf i := by
            subst hj
            match i with
            | 0 => rfl
            | 1 => rfl
            | _ + 2 => rfl
          refine ⟨.int (nOf C.P.script i), bop_of (bop_of (x := .int (.ofNat j)) (by unfold var; rw [g3]) (un_of (x := .lst ((pickNums C.P.script (some (i : Int)) none (some 3)).map .int)) (by unfold scrStep; rw [g0, g2]; rfl) (sumV_ints (Nat.le_trans (pick_len _ _) L.len))) rfl) rfl ?_, fun F v r => ?_⟩
          · rw [hb]; rfl
          · simp only [Rd] at r ⊢
            rw [L.n]; exact r
        · cases e
      · cases e
end Mine.MI
end
-- MiOd
section
namespace Mine.MI
variable {C : Cx} {n : Nat} {T T' : St}

noncomputable def ordV : V → Option V
  | .str [c] => some (.int (.ofNat c))
  | _ => none
theorem op_ord : OpU C n (fun v => PySem.call (.builtin "ord") [v]) ordV := fun A F s x a d R H rx e => by
  unfold ordV at e
  split at e
  · cases e
    simp only [Rd] at rx
    obtain ⟨_, t, rfl⟩ := rx
    exact P.ord_of_char (Ret.tok H (by simp only [Rd]; exact ⟨s.toks, rfl⟩) _)
  · cases e
theorem g_ord : ∀ P, nsIn (K P) mainGlobals ("ord" : Str) = some none := fun P => by kernel_rfl
theorem e_ord {e : Expr} {q p : Pos} {f : D} (hx : ("ord" : Str) ∈ T.globs) (h : SemE C n T e f) (hs : ∀ env, starEach [e] env = (false, eval e env) :: starEach [] env) : SemE C n T (.Call (.Name "ord" q) [e] [] p) (un ordV f) :=
  sem_builtin1 (by kernel_rfl) g_ord (by decide) (by decide) hx op_ord h hs

noncomputable def setEs : Obj → List (Int × Value)
  | ⟨_, _, .set es _ _, _⟩ => es.toList
  | _ => []
noncomputable def b1Has (P : Params) (k : Int) : Bool := (setEs (o109_7 P)).any fun e => Value.isInt k e.2
noncomputable def chkE (e : Int × Value) : Bool := match e.2 with | .int k _ => Value.isInt k e.2 && e.1 == hashInt k && e.2.scannable | _ => false
theorem b1_chk : ∀ P, (setEs (o109_7 P)).all chkE = true := fun P => by kernel_rfl
theorem b1_obj (P : Params) (prog : Program) (w : World) : Obj.SetObjOf (intKind prog w) (o109_7 P) (b1Has P) 27 := by
  refine ⟨⟨rfl, rfl, rfl⟩, _, _, _, rfl, fun e he => ?_, fun k => ?_, rfl, by kernel_rfl⟩
  · have := List.all_eq_true.mp (b1_chk P) e he
    obtain ⟨h, v⟩ := e
    unfold chkE at this
    split at this
    · rename_i k t q
      simp only [Bool.and_eq_true, beq_iff_eq] at this
      exact ⟨⟨k, this.1.1, this.1.2⟩, this.2⟩
    · cases this
  · unfold b1Has
    rw [List.any_eq_true]
    rfl
theorem g_b1 : ∀ P, nsIn (K P) mainGlobals ("b1_set" : Str) = some (some (.ref 109)) := fun P => by kernel_rfl
theorem k_b1 : ∀ P, (K P).lookup 109 = some (o109_7 P) := fun P => by kernel_rfl
noncomputable def inSt : Expr := match fBody (stm 8) with | [.Return (some e) _] => e | _ => .Name "" ⟨0, 0, 0, 0⟩
noncomputable def T_in : St := ⟨["code"], ["ord", "b1_set"], [0], [], none⟩
noncomputable def T_map : St := ⟨["code", "r"], ["ord", "b3_exceptions"], [0, 1], [], none⟩
noncomputable def inV' (P : Params) : V → Option V
  | .int k => some (.bool (b1Has P k))
  | _ => none
theorem e_in : SemE C n T_in inSt (un (inV' C.w.params) (un ordV (var 0))) := fun A env F W ρ s d R I z => by
  obtain ⟨x, ex, z⟩ := ob_some z
  obtain ⟨k, rfl⟩ : ∃ k, x = .int k := by cases x <;> first | exact ⟨_, rfl⟩ | cases z
  cases z
  have h1 : ∀ {q p q' : Pos}, SemE C n T_in (.Call (.Name "ord" q) [.Name "code" q'] [] p) (un ordV (var 0)) := e_ord (mem_ok (by kernel_rfl)) (e_var (i := 0) (by kernel_rfl)) (fun _ => rfl)
  refine wpAny_Compare1 (wpAny_mono (h1 A env F W ρ s _ R I ex) (fun v s₁ q => ?_) fun _ _ z => z) rfl
  obtain ⟨F₁, v₁, H₁, r₁⟩ := q
  simp only [Rd] at r₁
  obtain ⟨t, rfl⟩ := r₁
  refine wp_glob g_b1 (by decide) (I.ev v₁ H₁) (mem_ok (by kernel_rfl)) ?_
  refine wpAny_inSet_of (knd := intKind pg C.w) (k := k) (by show Value.isInt k (.int k t) = true; simp [Value.isInt]) rfl ((b1_obj C.w.params pg C.w).setOf (H₁.K 109 _ (k_b1 _)) (by decide)) ?_
  exact Ret.trans v₁ (Ret.tok H₁ (rd_bool _) _)
theorem fa_119 : ∀ P, (K P).lookup 119 = some (o119_8 P) := fun P => by kernel_rfl
noncomputable def gIn (P : Params) : List V → Option V := fn [0] (block [ret (un (inV' P) (un ordV (var 0)))])
theorem s_in0 : SemF C (n + 1) 119 (gIn C.w.params) :=
  semF_of (T := T_in) (ps := [0]) (scope := fScope (stm 8)) (body := fBody (stm 8)) rfl (frOk (by kernel_rfl)) (⟨fun P => ⟨_, _, fa_119 P, rfl, rfl, rfl, rfl, rfl, rfl, by kernel_rfl, fun vs h => match vs, h with | [v0], _ => by rfl⟩⟩) (by decide) (by decide)
    (by
      refine semS_cons ?_ ?_
      refine semS_ret ?_
      exact e_in
      exact semS_nil)
theorem in_yes : ∀ P, (uns.all fun c => b1Has P (.ofNat c)) = true := fun P => by kernel_rfl
theorem in_no : ∀ P, (alph.all fun al => (codeT al).all fun c => !b1Has P (.ofNat c.1)) = true := fun P => by kernel_rfl
theorem unsAt_mem (m : Nat) : unsAt m ∈ uns := by
  have h : m / 160 % 27 < uns.length := Nat.mod_lt _ (by decide)
  unfold unsAt
  rw [List.getD_eq_getElem?_getD, List.getElem?_eq_getElem h]
  exact List.getElem_mem h
theorem alAt_mem (m : Nat) : alAt m ∈ alph := by
  have h : m / 8 % 10 < alph.length := Nat.mod_lt _ (by decide)
  unfold alAt
  rw [List.getD_eq_getElem?_getD, List.getElem?_eq_getElem h]
  exact List.getElem_mem h
theorem cdAt_mem (m : Nat) : cdAt m ∈ codeT (alAt m) := by
  have h : m % 8 < (codeT (alAt m)).length := Nat.mod_lt _ (by decide)
  unfold cdAt
  rw [List.getD_eq_getElem?_getD, List.getElem?_eq_getElem h]
  exact List.getElem_mem h
theorem at_small (L : Lay C) {a : Nat} (h : a < 10) : ∃ m, C.P.at' a = [if a % 2 = 0 then unsAt m else (cdAt m).1] ∧ C.P.at' (10 + a / 2) = (cdAt m).2 := by
  refine ⟨mOf C.P.script (a / 2), ?_, ?_⟩
  · rw [L.at']; unfold atOf; rw [if_pos h]; split <;> rfl
  · rw [L.at']; unfold atOf; rw [if_neg (by omega), show 10 + a / 2 - 10 = a / 2 by omega]
theorem s_in (L : Lay C) : SemF C 4 119 oIn := fun A F s ds vs d R H r e => by
  obtain ⟨a, rfl⟩ : ∃ a, ds = [.ss [a]] := by unfold oIn at e; split at e <;> first | exact ⟨_, rfl⟩ | cases e
  obtain ⟨ha, e⟩ := chk_some (b := Nat.blt a 10) e
  cases e
  have ha : a < 10 := Nat.le_of_ble_eq_true ha
  obtain ⟨m, hm, _⟩ := at_small L ha
  simp only [RdL] at r
  obtain ⟨v, r', rfl, r1, rfl⟩ := r
  simp only [Rd] at r1
  obtain ⟨t, rfl⟩ := r1
  have hc : ∀ c ∈ C.P.at' a, c < 0x110000 := fun c hc => C.atOk a c hc
  simp only [List.flatMap_cons, List.flatMap_nil, List.append_nil] at hc ⊢
  rw [hm] at hc ⊢
  refine s_in0 (n := 3) A F s [.str [if a % 2 = 0 then unsAt m else (cdAt m).1]] _ _ R H (by simp only [RdL]; exact ⟨_, _, rfl, by simp only [Rd]; exact ⟨hc, t, rfl⟩, rfl⟩) ?_
  show some (V.bool (b1Has C.w.params (.ofNat (if a % 2 = 0 then unsAt m else (cdAt m).1)))) = _
  congr 2
  by_cases h2 : a % 2 = 0
  · rw [if_pos h2, List.all_eq_true.mp (in_yes C.w.params) _ (unsAt_mem m), h2]; rfl
  · have h3 : a % 2 = 1 := by omega
    have := List.all_eq_true.mp (List.all_eq_true.mp (in_no C.w.params) _ (alAt_mem m)) _ (cdAt_mem m)
    rw [if_neg h2, h3]
    simpa [Nat.beq] using this

noncomputable def dictEs : Obj → Array DictEntry
  | ⟨_, _, .dict es _, _⟩ => es
  | _ => #[]
noncomputable def b3Es : List DictEntry := e1N.1 ++ e2N.1
noncomputable def b3At (k : Int) : Option Value := findBy Value.isInt b3Es.toArray k
noncomputable def chkK (e : DictEntry) : Bool := match e.key with | .int k _ => Value.isInt k e.key && e.hash == hashInt k | _ => false
theorem b3_chk : b3Es.all chkK = true := by kernel_rfl
theorem b3_map (h : Heap) (P : Params) (prog : Program) (w : World) (ho : h.get? 120 = some (o120 P)) : h.MapOf (intKind prog w) 120 b3At := by
  refine ⟨_, b3Es.toArray, 650, ho, ⟨rfl, rfl, rfl⟩, rfl, fun e he => ?_, fun k => rfl⟩
  have he : e ∈ b3Es := by simpa using he
  have := List.all_eq_true.mp b3_chk e he
  unfold chkK at this
  split at this
  · rename_i k t q
    simp only [Bool.and_eq_true, beq_iff_eq] at this
    exact ⟨k, this.1, this.2⟩
  · cases this
noncomputable def mapV : V → Option V
  | .int k => match b3At k with
    | some (.str s _) => chk (s.cps.toList.all fun c => Nat.blt c 0x110000) (some (.str s.cps.toList))
    | _ => none
  | _ => none
theorem g_b3 : ∀ P, nsIn (K P) mainGlobals ("b3_exceptions" : Str) = some (some (.ref 120)) := fun P => by kernel_rfl
theorem k_b3 : ∀ P, (K P).lookup 120 = some (o120 P) := fun P => by kernel_rfl
theorem e_map {q q' q'' p p' apos : Pos} (hm : MForm (.Name "b3_exceptions" q) "get" apos [.Call (.Name "ord" q') [.Name "code" q''] [] p'] p) : SemE C n T_map (.Call (.Attribute (.Name "b3_exceptions" q) "get" apos) [.Call (.Name "ord" q') [.Name "code" q''] [] p'] [] p) (un mapV (un ordV (var 0))) := fun A env F W ρ s d R I z => by
  obtain ⟨x, ex, z⟩ := ob_some z
  obtain ⟨k, rfl⟩ : ∃ k, x = .int k := by cases x <;> first | exact ⟨_, rfl⟩ | cases z
  have h1 : ∀ {q p q' : Pos}, SemE C n T_map (.Call (.Name "ord" q) [.Name "code" q'] [] p) (un ordV (var 0)) := e_ord (mem_ok (by kernel_rfl)) (e_var (i := 0) (by kernel_rfl)) (fun _ => rfl)
  obtain ⟨pl, he⟩ := hm env
  refine MethodCall_ (wp_glob g_b3 (by decide) I (mem_ok (by kernel_rfl)) ?_) he
  have M := b3_map s.heap C.w.params pg C.w (I.hp.K 120 _ (k_b3 _))
  refine getMethod_builtin M.typeIs PySem.F.plainAttrs_dict PySem.F.slot_dict_get PySem.F.type_dict_get M.noDict ?_
  refine wpAny_dict_get1 (knd := intKind pg C.w) (by decide) (wpAny_mono (h1 A env F W ρ s _ R I ex) (fun v s₁ w => ?_) fun _ _ z => z)
  obtain ⟨F₁, v₁, H₁, r₁⟩ := w
  simp only [Rd] at r₁
  obtain ⟨t, rfl⟩ := r₁
  refine ⟨k, b3At, (by show Value.isInt k (.int k t) = true; simp [Value.isInt]), b3_map s₁.heap C.w.params pg C.w (H₁.K 120 _ (k_b3 _)), ?_⟩
  have z : mapV (.int k) = some d := z
  unfold mapV at z
  simp only at z
  split at z
  · rename_i st u hq
    obtain ⟨hs, z⟩ := chk_some z
    cases z
    rw [hq]
    refine Ret.trans v₁ (Ret.tok H₁ ?_ _)
    simp only [Rd]
    exact ⟨fun c hc => Nat.le_of_ble_eq_true (List.all_eq_true.mp hs c hc), u, by simp [toS]⟩
  · cases z
noncomputable def isStr (i : Nat) : DB := fun ρ => match get i ρ with | some (.val (.str _)) => some true | _ => none
theorem b_some {x : Str} {i k : Nat} {q p q' : Pos} (h : (x == T.nm i && !(x == ("__debug__" : Str)) && !(x == ("__classdict__" : Str))) = true) (hm : behindInMarks .IsNot (.Constant .none k q') = false) : SemB C n T (.Compare (.Name x q) [.IsNot] [.Constant .none k q'] p) (isStr i) := fun A env F W ρ s b R I e => by
  unfold isStr at e
  split at e
  · rename_i st g
    cases e
    refine wpAny_isTrue_Compare1 (wpAny_mono (e_var h A env F W ρ s _ R I (by unfold var; rw [g])) (fun v s₁ q => ?_) fun _ _ z => z) hm
    obtain ⟨F₁, v₁, H₁, r₁⟩ := q
    simp only [Rd] at r₁
    obtain ⟨_, t, rfl⟩ := r₁
    refine wpAny_Constant_none (wpAny_isNot_other rfl (by simp) (wpAny_truthy_bool ⟨rfl, F₁, v₁, H₁⟩))
  · cases e
theorem semS_never {st : Stmt} : SemS C n T st (fun _ => none) := fun A env F W ρ s ρ' fl R I e => by cases e
noncomputable def gMap : List V → Option V := fn [0] (block [asg 1 (un mapV (un ordV (var 0))), ifS (isStr 1) (block [ret (var 1)]) (block []), fun _ => none])
theorem fa_165 : ∀ P, (K P).lookup 165 = some (o165_13 P) := fun P => by kernel_rfl
theorem s_map0 : SemF C (n + 1) 165 gMap :=
  semF_of (T := T_map) (ps := [0]) (scope := fScope (stm 10)) (body := fBody (stm 10)) rfl (frOk (by kernel_rfl)) (⟨fun P => ⟨_, _, fa_165 P, rfl, rfl, rfl, rfl, rfl, rfl, by kernel_rfl, fun vs h => match vs, h with | [v0], _ => by rfl⟩⟩) (by decide) (by decide)
    (by
      refine semS_cons ?_ ?_
      · exact semS_asg (by kernel_rfl) (mem_ok (by kernel_rfl)) (e_map (fun _ => ⟨_, rfl⟩)) (fun _ => rfl)
      refine semS_cons ?_ ?_
      · refine semS_if ?_ ?_ ?_
        · exact b_some (i := 1) (by kernel_rfl) rfl
        · refine semS_cons ?_ ?_
          · exact semS_ret (e_var (i := 1) (by kernel_rfl))
          · exact semS_nil
        · exact semS_nil
      refine semS_cons ?_ ?_
      · exact semS_never
      · exact semS_nil)
noncomputable def mapOk (c : Nat × List Nat) : Bool := match mapV (.int (.ofNat c.1)) with | some (.str l) => eqL l c.2 | _ => false
theorem map_all : (alph.all fun al => (codeT al).all mapOk) = true := by kernel_rfl
theorem s_map (L : Lay C) : SemF C 4 165 oMap := fun A F s ds vs d R H r e => by
  obtain ⟨a, rfl⟩ : ∃ a, ds = [.ss [a]] := by unfold oMap at e; split at e <;> first | exact ⟨_, rfl⟩ | cases e
  have e : (match Nat.blt a 10, Nat.beq (a % 2) 1 with | true, true => some (V.ss [10 + a / 2]) | _, _ => none) = some d := e
  split at e
  rotate_left
  · cases e
  rename_i q1 q2
  cases e
  have ha : a < 10 := Nat.le_of_ble_eq_true q1
  have h2 : a % 2 = 1 := Nat.eq_of_beq_eq_true q2
  obtain ⟨m, hm, hl⟩ := at_small L ha
  rw [if_neg (by omega)] at hm
  simp only [RdL] at r
  obtain ⟨v, r', rfl, r1, rfl⟩ := r
  simp only [Rd] at r1
  obtain ⟨t, rfl⟩ := r1
  have hc : ∀ c ∈ C.P.at' a, c < 0x110000 := fun c hc => C.atOk a c hc
  simp only [List.flatMap_cons, List.flatMap_nil, List.append_nil] at hc ⊢
  rw [hm] at hc ⊢
  have hk : mapV (.int (.ofNat (cdAt m).1)) = some (.str (cdAt m).2) := by
    have := List.all_eq_true.mp (List.all_eq_true.mp map_all _ (alAt_mem m)) _ (cdAt_mem m)
    unfold mapOk at this
    split at this
    · rename_i l hq
      rw [eqL_iff, decide_eq_true_eq] at this
      rw [hq, this]
    · cases this
  refine wpAny_mono (s_map0 (n := 3) A F s [.str [(cdAt m).1]] _ (.str (cdAt m).2) R H (by simp only [RdL]; exact ⟨_, _, rfl, by simp only [Rd]; exact ⟨hc, t, rfl⟩, rfl⟩) ?_) (fun v s' q => ?_) fun _ _ z => z
  · refine fn_of (ρ' := put 1 (.val (.str (cdAt m).2)) (put 0 (.val (.str [(cdAt m).1])) [])) rfl (seq_of (asg_of (v := .str (cdAt m).2) ?_) ?_)
    · exact un_of (x := .int (.ofNat (cdAt m).1)) rfl hk
    · rfl
  · obtain ⟨F', v', h', r'⟩ := q
    refine ⟨F', v', h', ?_⟩
    simp only [Rd] at r' ⊢
    obtain ⟨_, t', rfl⟩ := r'
    exact ⟨t', by simp [hl]⟩
end Mine.MI
end
-- MiEv
section
namespace Mine.MI
noncomputable def okR (o : Option (Rho × Fl)) : Bool := match o with | some (_, .ret (.bool true)) => true | _ => false
noncomputable def okN (o : Option (Rho × Fl)) : Bool := match o with | some (_, .next) => true | _ => false
theorem okR_some {o : Option (Rho × Fl)} (h : okR o = true) : ∃ ρ, o = some (ρ, .ret (.bool true)) := by
  unfold okR at h
  split at h
  · exact ⟨_, rfl⟩
  · cases h
theorem okN_some {o : Option (Rho × Fl)} (h : okN o = true) : ∃ ρ, o = some (ρ, .next) := by
  unfold okN at h
  split at h
  · exact ⟨_, rfl⟩
  · cases h
noncomputable def pickX : List Nat → Rho → Rho
  | [], _ => []
  | x :: xs, ρ => match get x ρ with
    | some sl => (x, sl) :: pickX xs ρ
    | none => pickX xs ρ
noncomputable def evA (b : Nat → Bool) : DS := block [lw0 (oSign b), lw1, lw2]
noncomputable def evB : DS := block [lw3, lw4, lw5, lw6, lw7]
noncomputable def evD (wv : V) : DS := block [lw13 wv, lw14, lw15]
noncomputable def evE : DS := block [lw16, lw17, lw18, lw19, lw20, lw21, lw22]
noncomputable def lw10e : D := comp1 [10] [21] (range2 (cInt 1) (bop add (un max1 (bop add (lstE [cInt 3]) (var 16))) (cInt 2))) [] (call (gEnds) [var 10, var 21])
theorem lw10_eq : lw10 = asg 22 lw10e := rfl
noncomputable def rA : Rho := [(0, .val .scr)]
noncomputable def rB (l : List Nat) : Rho := [(0, .val .scr), (7, .val (.str l))]
noncomputable def rC (row : List Nat) (far : List Int) : Rho := [(0, .val .scr), (10, .val (.str row)), (16, .val (.lst (far.map .int)))]
noncomputable def xsE : List Nat := [16, 17, 18, 19, 20, 22, 23]
noncomputable def encP (p : List (Int × Int)) : V := .lst (p.map fun q => .lst [.tup [.int q.1, .int q.2]])
noncomputable def isI : V → Int → Bool
  | .int a, b => eqI a b
  | _, _ => false
noncomputable def isTl : List V → Int × Int → Bool
  | [], _ => false
  | x :: r, q => match r with
    | [] => false
    | y :: r' => match r' with
      | [] => match isI x q.1 with | true => isI y q.2 | false => false
      | _ :: _ => false
noncomputable def isT : V → Int × Int → Bool
  | .tup l, q => isTl l q
  | _, _ => false
noncomputable def isQl : List V → Int × Int → Bool
  | [], _ => false
  | x :: r, q => match r with | [] => isT x q | _ :: _ => false
noncomputable def isQ : V → Int × Int → Bool
  | .lst l, q => isQl l q
  | _, _ => false
noncomputable def all2 {α : Type} (f : V → α → Bool) : List V → List α → Bool
  | [], [] => true
  | [], _ :: _ => false
  | _ :: _, [] => false
  | x :: r, b :: t => match f x b with | true => all2 f r t | false => false
noncomputable def isFar (l : List V) (t : List Int) : Bool := all2 isI l t
noncomputable def isPs (l : List V) (t : List (Int × Int)) : Bool := all2 isQ l t
noncomputable def isP : Option V → List (Int × Int) → Bool
  | some (.lst l), p => isPs l p
  | _, _ => false
theorem isI_eq : ∀ (x : V) (a : Int), isI x a = true → x = .int a := fun x a h => by
  cases x with
  | int b =>
    have e : eqI b a = true := h
    rw [eqI_iff, decide_eq_true_eq] at e
    rw [e]
  | _ => exact absurd h Bool.false_ne_true
theorem isTl_eq : ∀ (x : List V) (q : Int × Int), isTl x q = true → x = [.int q.1, .int q.2]
  | [], _, h => absurd h Bool.false_ne_true
  | [_], _, h => absurd h Bool.false_ne_true
  | _ :: _ :: _ :: _, _, h => absurd h Bool.false_ne_true
  | [x, y], q, h => by
    have h : (match isI x q.1 with | true => isI y q.2 | false => false) = true := h
    cases e : isI x q.1 with
    | false => rw [e] at h; exact absurd h Bool.false_ne_true
    | true => rw [e] at h; rw [isI_eq x _ e, isI_eq y _ h]
theorem isQ_eq (x : V) (q : Int × Int) (h : isQ x q = true) : x = .lst [.tup [.int q.1, .int q.2]] := by
  cases x with
  | lst l => match l, h with
    | [], h => exact absurd h Bool.false_ne_true
    | _ :: _ :: _, h => exact absurd h Bool.false_ne_true
    | [y], h =>
      have h : isT y q = true := h
      cases y with
      | tup m => rw [isTl_eq m q h]
      | _ => exact absurd h Bool.false_ne_true
  | _ => exact absurd h Bool.false_ne_true
theorem all2_eq {α : Type} {f : V → α → Bool} {g : α → V} (H : ∀ x a, f x a = true → x = g a) : ∀ {l : List V} {m : List α}, all2 f l m = true → l = m.map g
  | [], [], _ => rfl
  | [], _ :: _, h => absurd h Bool.false_ne_true
  | _ :: _, [], h => absurd h Bool.false_ne_true
  | x :: r, b :: t, h => by
    have h : (match f x b with | true => all2 f r t | false => false) = true := h
    cases e : f x b with
    | false => rw [e] at h; exact absurd h Bool.false_ne_true
    | true => rw [e] at h; rw [H x b e, all2_eq H h]; rfl
theorem isFar_eq {l : List V} {f : List Int} (h : isFar l f = true) : l = f.map .int := all2_eq isI_eq h
theorem isPs_eq {l : List V} {f : List (Int × Int)} (h : isPs l f = true) : l = f.map fun q => .lst [.tup [.int q.1, .int q.2]] := all2_eq isQ_eq h
theorem isP_eq {o : Option V} {p : List (Int × Int)} (h : isP o p = true) : o = some (encP p) := by
  unfold isP at h
  split at h
  · rw [isPs_eq h]; rfl
  · cases h
noncomputable def tA (b : Nat → Bool) : Bool := match evA b rA with
  | some (ρ, .next) => (match get 0 ρ, get 7 ρ with | some (.val .scr), some (.val (.ss l)) => eqL l [10, 11, 12] | _, _ => false)
  | _ => false
/-- what is left once `played` is known -/
noncomputable def tR (row : List Nat) (far : List Int) (p : List (Int × Int)) : Bool := match block [lw8, lw9] (rC row far) with
  | some (r9, .next) => (match block [lw11, lw12] (put 22 (.val (encP p)) r9) with
    | some (r, .next) => okN (evD (.lin 0 1) r) && (okN (evD (.int 8) r) && (okN (evD (.int 9) r) && (match freeze 23 skip r with | some (r', .next) => okR (evE (pickX xsE r')) | _ => false)))
    | _ => false)
  | _ => false
noncomputable def b3 (c0 c1 c2 : Bool) : Nat → Bool
  | 0 => c0
  | 1 => c1
  | _ => c2
noncomputable def words : List (List Nat) := [[104], [112], [104, 112], [112, 104], [112, 112, 109], [104, 112, 97], [107, 107], [107, 104, 122]]
noncomputable def tabF : List (List Int × List (Int × Int)) := [([], [(0, 1), (0, 1), (0, 1), (0, 1)]),
  ([2, 1], [(2, 1), (1, 1), (0, 1), (0, 1)]),
  ([3, 2, 1], [(3, 1), (1, 1), (1, 1), (0, 1)]),
  ([2, 1, 3, 2], [(4, 2), (2, 2), (1, 1), (0, 1)]),
  ([1], [(1, 1), (0, 1), (0, 1), (0, 1)]),
  ([1, 2], [(2, 1), (1, 1), (0, 1), (0, 1)]),
  ([1, 3, 1], [(3, 2), (0, 1), (1, 1), (0, 1)]),
  ([1, 2, 3], [(3, 1), (1, 1), (1, 1), (0, 1)]),
  ([2, 1, 4, 3, 1], [(5, 5), (2, 1), (1, 1), (1, 1), (0, 1)]),
  ([2, 1, 3, 2, 4, 3], [(6, 5), (3, 3), (2, 2), (1, 1), (0, 1)]),
  ([1, 4, 2, 1], [(4, 3), (2, 1), (0, 1), (1, 1), (0, 1)]),
  ([1, 3, 1, 4, 2], [(5, 5), (2, 1), (1, 1), (1, 1), (0, 1)]),
  ([1, 2, 4, 1], [(4, 3), (2, 1), (0, 1), (1, 1), (0, 1)]),
  ([1, 2, 3, 4], [(4, 1), (2, 1), (1, 1), (1, 1), (0, 1)]),
  ([4, 3, 2, 1], [(4, 1), (2, 1), (1, 1), (1, 1), (0, 1)]),
  ([3, 2, 1, 4, 3, 2], [(6, 5), (3, 3), (2, 2), (1, 1), (0, 1)]),
  ([1, 3, 1, 5, 3, 1], [(6, 16), (0, 1), (2, 2), (0, 1), (1, 1), (0, 1)]),
  ([1, 3, 1, 4, 2, 5, 3], [(7, 14), (2, 1), (2, 2), (1, 1), (1, 1), (0, 1)]),
  ([1, 2, 5, 2, 1], [(5, 6), (2, 2), (0, 1), (0, 1), (1, 1), (0, 1)]),
  ([1, 2, 4, 1, 5, 2], [(6, 9), (3, 3), (0, 1), (1, 1), (1, 1), (0, 1)]),
  ([1, 2, 3, 5, 1], [(5, 4), (1, 1), (1, 1), (0, 1), (1, 1), (0, 1)]),
  ([1, 2, 3, 4, 5], [(5, 1), (2, 1), (1, 1), (1, 1), (1, 1), (0, 1)]),
  ([1, 5, 3, 2, 1], [(5, 4), (1, 1), (1, 1), (0, 1), (1, 1), (0, 1)]),
  ([1, 4, 2, 1, 5, 3, 2], [(7, 21), (3, 3), (1, 1), (1, 1), (1, 1), (0, 1)]),
  ([3, 2, 1, 5, 4, 3, 1], [(7, 14), (2, 1), (2, 2), (1, 1), (1, 1), (0, 1)]),
  ([3, 2, 1, 4, 3, 2, 5, 4, 3], [(9, 42), (4, 6), (3, 6), (2, 2), (1, 1), (0, 1)]),
  ([2, 1, 5, 4, 2, 1], [(6, 9), (3, 3), (0, 1), (1, 1), (1, 1), (0, 1)]),
  ([2, 1, 4, 3, 1, 5, 4, 2], [(8, 42), (4, 6), (1, 1), (2, 2), (1, 1), (0, 1)]),
  ([2, 1, 3, 2, 5, 4, 1], [(7, 21), (3, 3), (1, 1), (1, 1), (1, 1), (0, 1)]),
  ([2, 1, 3, 2, 4, 3, 5, 4], [(8, 14), (4, 6), (2, 2), (2, 2), (1, 1), (0, 1)]),
  ([5, 4, 3, 2, 1], [(5, 1), (2, 1), (1, 1), (1, 1), (1, 1), (0, 1)]),
  ([4, 3, 2, 1, 5, 4, 3, 2], [(8, 14), (4, 6), (2, 2), (2, 2), (1, 1), (0, 1)])]
noncomputable def tabR : List (List Nat × Nat) := [([40, 40, 40], 0),
  ([40, 40, 41], 1),
  ([40, 40, 40, 41], 2),
  ([40, 40, 41, 40], 1),
  ([40, 40, 41, 41], 3),
  ([40, 40, 40, 40], 0),
  ([40, 41, 40], 4),
  ([40, 41, 41], 5),
  ([40, 41, 40, 41], 6),
  ([40, 41, 41, 40], 5),
  ([40, 41, 41, 41], 7),
  ([40, 41, 40, 40], 4),
  ([40, 40, 41, 40, 41], 8),
  ([40, 40, 41, 41, 40], 3),
  ([40, 40, 41, 41, 41], 9),
  ([40, 40, 41, 40, 40], 1),
  ([40, 41, 40, 40, 41], 10),
  ([40, 41, 40, 41, 40], 6),
  ([40, 41, 40, 41, 41], 11),
  ([40, 41, 40, 40, 40], 4),
  ([40, 41, 41, 40, 41], 12),
  ([40, 41, 41, 41, 40], 7),
  ([40, 41, 41, 41, 41], 13),
  ([40, 41, 41, 40, 40], 5),
  ([40, 40, 40, 40, 41], 14),
  ([40, 40, 40, 41, 40], 2),
  ([40, 40, 40, 41, 41], 15),
  ([40, 40, 40, 40, 40], 0),
  ([41, 40, 40], 0),
  ([41, 40, 41], 4),
  ([41, 40, 40, 41], 1),
  ([41, 40, 41, 40], 4),
  ([41, 40, 41, 41], 5),
  ([41, 40, 40, 40], 0),
  ([41, 41, 40], 0),
  ([41, 41, 41], 0),
  ([41, 41, 40, 41], 4),
  ([41, 41, 41, 40], 0),
  ([41, 41, 41, 41], 0),
  ([41, 41, 40, 40], 0),
  ([41, 40, 41, 40, 41], 6),
  ([41, 40, 41, 41, 40], 5),
  ([41, 40, 41, 41, 41], 7),
  ([41, 40, 41, 40, 40], 4),
  ([41, 41, 40, 40, 41], 1),
  ([41, 41, 40, 41, 40], 4),
  ([41, 41, 40, 41, 41], 5),
  ([41, 41, 40, 40, 40], 0),
  ([41, 41, 41, 40, 41], 4),
  ([41, 41, 41, 41, 40], 0),
  ([41, 41, 41, 41, 41], 0),
  ([41, 41, 41, 40, 40], 0),
  ([41, 40, 40, 40, 41], 2),
  ([41, 40, 40, 41, 40], 1),
  ([41, 40, 40, 41, 41], 3),
  ([41, 40, 40, 40, 40], 0),
  ([40, 41, 40, 41, 40, 41], 16),
  ([40, 41, 40, 41, 41, 40], 11),
  ([40, 41, 40, 41, 41, 41], 17),
  ([40, 41, 40, 41, 40, 40], 6),
  ([40, 41, 41, 40, 40, 41], 18),
  ([40, 41, 41, 40, 41, 40], 12),
  ([40, 41, 41, 40, 41, 41], 19),
  ([40, 41, 41, 40, 40, 40], 5),
  ([40, 41, 41, 41, 40, 41], 20),
  ([40, 41, 41, 41, 41, 40], 13),
  ([40, 41, 41, 41, 41, 41], 21),
  ([40, 41, 41, 41, 40, 40], 7),
  ([40, 41, 40, 40, 40, 41], 22),
  ([40, 41, 40, 40, 41, 40], 10),
  ([40, 41, 40, 40, 41, 41], 23),
  ([40, 41, 40, 40, 40, 40], 4),
  ([41, 40, 40, 41, 40, 41], 8),
  ([41, 40, 40, 41, 41, 40], 3),
  ([41, 40, 40, 41, 41, 41], 9),
  ([41, 40, 40, 41, 40, 40], 1),
  ([41, 40, 41, 40, 40, 41], 10),
  ([41, 40, 41, 40, 41, 40], 6),
  ([41, 40, 41, 40, 41, 41], 11),
  ([41, 40, 41, 40, 40, 40], 4),
  ([41, 40, 41, 41, 40, 41], 12),
  ([41, 40, 41, 41, 41, 40], 7),
  ([41, 40, 41, 41, 41, 41], 13),
  ([41, 40, 41, 41, 40, 40], 5),
  ([41, 40, 40, 40, 40, 41], 14),
  ([41, 40, 40, 40, 41, 40], 2),
  ([41, 40, 40, 40, 41, 41], 15),
  ([41, 40, 40, 40, 40, 40], 0),
  ([41, 41, 40, 41, 40, 41], 6),
  ([41, 41, 40, 41, 41, 40], 5),
  ([41, 41, 40, 41, 41, 41], 7),
  ([41, 41, 40, 41, 40, 40], 4),
  ([41, 41, 41, 40, 40, 41], 1),
  ([41, 41, 41, 40, 41, 40], 4),
  ([41, 41, 41, 40, 41, 41], 5),
  ([41, 41, 41, 40, 40, 40], 0),
  ([41, 41, 41, 41, 40, 41], 4),
  ([41, 41, 41, 41, 41, 40], 0),
  ([41, 41, 41, 41, 41, 41], 0),
  ([41, 41, 41, 41, 40, 40], 0),
  ([41, 41, 40, 40, 40, 41], 2),
  ([41, 41, 40, 40, 41, 40], 1),
  ([41, 41, 40, 40, 41, 41], 3),
  ([41, 41, 40, 40, 40, 40], 0),
  ([40, 40, 40, 41, 40, 41], 24),
  ([40, 40, 40, 41, 41, 40], 15),
  ([40, 40, 40, 41, 41, 41], 25),
  ([40, 40, 40, 41, 40, 40], 2),
  ([40, 40, 41, 40, 40, 41], 26),
  ([40, 40, 41, 40, 41, 40], 8),
  ([40, 40, 41, 40, 41, 41], 27),
  ([40, 40, 41, 40, 40, 40], 1),
  ([40, 40, 41, 41, 40, 41], 28),
  ([40, 40, 41, 41, 41, 40], 9),
  ([40, 40, 41, 41, 41, 41], 29),
  ([40, 40, 41, 41, 40, 40], 3),
  ([40, 40, 40, 40, 40, 41], 30),
  ([40, 40, 40, 40, 41, 40], 14),
  ([40, 40, 40, 40, 41, 41], 31),
  ([40, 40, 40, 40, 40, 40], 0)]
noncomputable def tB (l : List Nat) (k : Nat) : Bool := match nth tabR k with
  | some (row, fi) => (match nth tabF fi with
    | some (far, _) => (match evB (rB l) with
      | some (ρ, .next) => (match get 0 ρ, get 10 ρ, get 16 ρ with | some (.val .scr), some (.val (.str row')), some (.val (.lst far')) => (match eqL row' row with | true => isFar far' far | false => false) | _, _, _ => false)
      | _ => false)
    | none => false)
  | none => false
noncomputable def tB8 (w : List Nat) : List (List Nat) → List Nat → Bool
  | [], [] => true
  | l :: ls, k :: ks => match tB (w ++ l) k with | true => tB8 w ls ks | false => false
  | _, _ => false
noncomputable def tP (q : List Nat × Nat) : Bool := match nth tabF q.2 with
  | some (far, p) => isP (lw10e (rC q.1 far)) p
  | none => false
end Mine.MI
end
-- MiEb
section
namespace Mine.MI
theorem a_0 : tA (b3 false false false) = true := by kernel_rfl
theorem a_1 : tA (b3 true false false) = true := by kernel_rfl
theorem a_2 : tA (b3 false true false) = true := by kernel_rfl
theorem a_3 : tA (b3 true true false) = true := by kernel_rfl
theorem a_4 : tA (b3 false false true) = true := by kernel_rfl
theorem a_5 : tA (b3 true false true) = true := by kernel_rfl
theorem a_6 : tA (b3 false true true) = true := by kernel_rfl
theorem a_7 : tA (b3 true true true) = true := by kernel_rfl
theorem b_0_0 : tB8 ([104] ++ [104]) words [0, 1, 2, 3, 4, 2, 5, 5] = true := by kernel_rfl
theorem b_0_1 : tB8 ([104] ++ [112]) words [6, 7, 8, 9, 10, 8, 11, 11] = true := by kernel_rfl
theorem b_0_2 : tB8 ([104] ++ [104, 112]) words [3, 4, 12, 13, 14, 12, 15, 15] = true := by kernel_rfl
theorem b_0_3 : tB8 ([104] ++ [112, 104]) words [11, 8, 16, 17, 18, 16, 19, 19] = true := by kernel_rfl
theorem b_0_4 : tB8 ([104] ++ [112, 112, 109]) words [9, 10, 20, 21, 22, 20, 23, 23] = true := by kernel_rfl
theorem b_0_5 : tB8 ([104] ++ [104, 112, 97]) words [3, 4, 12, 13, 14, 12, 15, 15] = true := by kernel_rfl
theorem b_0_6 : tB8 ([104] ++ [107, 107]) words [5, 2, 24, 25, 26, 24, 27, 27] = true := by kernel_rfl
theorem b_0_7 : tB8 ([104] ++ [107, 104, 122]) words [5, 2, 24, 25, 26, 24, 27, 27] = true := by kernel_rfl
theorem b_1_0 : tB8 ([112] ++ [104]) words [28, 29, 30, 31, 32, 30, 33, 33] = true := by kernel_rfl
theorem b_1_1 : tB8 ([112] ++ [112]) words [34, 35, 36, 37, 38, 36, 39, 39] = true := by kernel_rfl
theorem b_1_2 : tB8 ([112] ++ [104, 112]) words [31, 32, 40, 41, 42, 40, 43, 43] = true := by kernel_rfl
theorem b_1_3 : tB8 ([112] ++ [112, 104]) words [39, 36, 44, 45, 46, 44, 47, 47] = true := by kernel_rfl
theorem b_1_4 : tB8 ([112] ++ [112, 112, 109]) words [37, 38, 48, 49, 50, 48, 51, 51] = true := by kernel_rfl
theorem b_1_5 : tB8 ([112] ++ [104, 112, 97]) words [31, 32, 40, 41, 42, 40, 43, 43] = true := by kernel_rfl
theorem b_1_6 : tB8 ([112] ++ [107, 107]) words [33, 30, 52, 53, 54, 52, 55, 55] = true := by kernel_rfl
theorem b_1_7 : tB8 ([112] ++ [107, 104, 122]) words [33, 30, 52, 53, 54, 52, 55, 55] = true := by kernel_rfl
theorem b_2_0 : tB8 ([104, 112] ++ [104]) words [11, 8, 16, 17, 18, 16, 19, 19] = true := by kernel_rfl
theorem b_2_1 : tB8 ([104, 112] ++ [112]) words [9, 10, 20, 21, 22, 20, 23, 23] = true := by kernel_rfl
theorem b_2_2 : tB8 ([104, 112] ++ [104, 112]) words [17, 18, 56, 57, 58, 56, 59, 59] = true := by kernel_rfl
theorem b_2_3 : tB8 ([104, 112] ++ [112, 104]) words [23, 20, 60, 61, 62, 60, 63, 63] = true := by kernel_rfl
theorem b_2_4 : tB8 ([104, 112] ++ [112, 112, 109]) words [21, 22, 64, 65, 66, 64, 67, 67] = true := by kernel_rfl
theorem b_2_5 : tB8 ([104, 112] ++ [104, 112, 97]) words [17, 18, 56, 57, 58, 56, 59, 59] = true := by kernel_rfl
theorem b_2_6 : tB8 ([104, 112] ++ [107, 107]) words [19, 16, 68, 69, 70, 68, 71, 71] = true := by kernel_rfl
theorem b_2_7 : tB8 ([104, 112] ++ [107, 104, 122]) words [19, 16, 68, 69, 70, 68, 71, 71] = true := by kernel_rfl
theorem b_3_0 : tB8 ([112, 104] ++ [104]) words [33, 30, 52, 53, 54, 52, 55, 55] = true := by kernel_rfl
theorem b_3_1 : tB8 ([112, 104] ++ [112]) words [31, 32, 40, 41, 42, 40, 43, 43] = true := by kernel_rfl
theorem b_3_2 : tB8 ([112, 104] ++ [104, 112]) words [53, 54, 72, 73, 74, 72, 75, 75] = true := by kernel_rfl
theorem b_3_3 : tB8 ([112, 104] ++ [112, 104]) words [43, 40, 76, 77, 78, 76, 79, 79] = true := by kernel_rfl
theorem b_3_4 : tB8 ([112, 104] ++ [112, 112, 109]) words [41, 42, 80, 81, 82, 80, 83, 83] = true := by kernel_rfl
theorem b_3_5 : tB8 ([112, 104] ++ [104, 112, 97]) words [53, 54, 72, 73, 74, 72, 75, 75] = true := by kernel_rfl
theorem b_3_6 : tB8 ([112, 104] ++ [107, 107]) words [55, 52, 84, 85, 86, 84, 87, 87] = true := by kernel_rfl
theorem b_3_7 : tB8 ([112, 104] ++ [107, 104, 122]) words [55, 52, 84, 85, 86, 84, 87, 87] = true := by kernel_rfl
theorem b_4_0 : tB8 ([112, 112, 109] ++ [104]) words [39, 36, 44, 45, 46, 44, 47, 47] = true := by kernel_rfl
theorem b_4_1 : tB8 ([112, 112, 109] ++ [112]) words [37, 38, 48, 49, 50, 48, 51, 51] = true := by kernel_rfl
theorem b_4_2 : tB8 ([112, 112, 109] ++ [104, 112]) words [45, 46, 88, 89, 90, 88, 91, 91] = true := by kernel_rfl
theorem b_4_3 : tB8 ([112, 112, 109] ++ [112, 104]) words [51, 48, 92, 93, 94, 92, 95, 95] = true := by kernel_rfl
theorem b_4_4 : tB8 ([112, 112, 109] ++ [112, 112, 109]) words [49, 50, 96, 97, 98, 96, 99, 99] = true := by kernel_rfl
theorem b_4_5 : tB8 ([112, 112, 109] ++ [104, 112, 97]) words [45, 46, 88, 89, 90, 88, 91, 91] = true := by kernel_rfl
theorem b_4_6 : tB8 ([112, 112, 109] ++ [107, 107]) words [47, 44, 100, 101, 102, 100, 103, 103] = true := by kernel_rfl
theorem b_4_7 : tB8 ([112, 112, 109] ++ [107, 104, 122]) words [47, 44, 100, 101, 102, 100, 103, 103] = true := by kernel_rfl
theorem b_5_0 : tB8 ([104, 112, 97] ++ [104]) words [11, 8, 16, 17, 18, 16, 19, 19] = true := by kernel_rfl
theorem b_5_1 : tB8 ([104, 112, 97] ++ [112]) words [9, 10, 20, 21, 22, 20, 23, 23] = true := by kernel_rfl
theorem b_5_2 : tB8 ([104, 112, 97] ++ [104, 112]) words [17, 18, 56, 57, 58, 56, 59, 59] = true := by kernel_rfl
theorem b_5_3 : tB8 ([104, 112, 97] ++ [112, 104]) words [23, 20, 60, 61, 62, 60, 63, 63] = true := by kernel_rfl
theorem b_5_4 : tB8 ([104, 112, 97] ++ [112, 112, 109]) words [21, 22, 64, 65, 66, 64, 67, 67] = true := by kernel_rfl
theorem b_5_5 : tB8 ([104, 112, 97] ++ [104, 112, 97]) words [17, 18, 56, 57, 58, 56, 59, 59] = true := by kernel_rfl
theorem b_5_6 : tB8 ([104, 112, 97] ++ [107, 107]) words [19, 16, 68, 69, 70, 68, 71, 71] = true := by kernel_rfl
theorem b_5_7 : tB8 ([104, 112, 97] ++ [107, 104, 122]) words [19, 16, 68, 69, 70, 68, 71, 71] = true := by kernel_rfl
theorem b_6_0 : tB8 ([107, 107] ++ [104]) words [5, 2, 24, 25, 26, 24, 27, 27] = true := by kernel_rfl
theorem b_6_1 : tB8 ([107, 107] ++ [112]) words [3, 4, 12, 13, 14, 12, 15, 15] = true := by kernel_rfl
theorem b_6_2 : tB8 ([107, 107] ++ [104, 112]) words [25, 26, 104, 105, 106, 104, 107, 107] = true := by kernel_rfl
theorem b_6_3 : tB8 ([107, 107] ++ [112, 104]) words [15, 12, 108, 109, 110, 108, 111, 111] = true := by kernel_rfl
theorem b_6_4 : tB8 ([107, 107] ++ [112, 112, 109]) words [13, 14, 112, 113, 114, 112, 115, 115] = true := by kernel_rfl
theorem b_6_5 : tB8 ([107, 107] ++ [104, 112, 97]) words [25, 26, 104, 105, 106, 104, 107, 107] = true := by kernel_rfl
theorem b_6_6 : tB8 ([107, 107] ++ [107, 107]) words [27, 24, 116, 117, 118, 116, 119, 119] = true := by kernel_rfl
theorem b_6_7 : tB8 ([107, 107] ++ [107, 104, 122]) words [27, 24, 116, 117, 118, 116, 119, 119] = true := by kernel_rfl
theorem b_7_0 : tB8 ([107, 104, 122] ++ [104]) words [5, 2, 24, 25, 26, 24, 27, 27] = true := by kernel_rfl
theorem b_7_1 : tB8 ([107, 104, 122] ++ [112]) words [3, 4, 12, 13, 14, 12, 15, 15] = true := by kernel_rfl
theorem b_7_2 : tB8 ([107, 104, 122] ++ [104, 112]) words [25, 26, 104, 105, 106, 104, 107, 107] = true := by kernel_rfl
theorem b_7_3 : tB8 ([107, 104, 122] ++ [112, 104]) words [15, 12, 108, 109, 110, 108, 111, 111] = true := by kernel_rfl
theorem b_7_4 : tB8 ([107, 104, 122] ++ [112, 112, 109]) words [13, 14, 112, 113, 114, 112, 115, 115] = true := by kernel_rfl
theorem b_7_5 : tB8 ([107, 104, 122] ++ [104, 112, 97]) words [25, 26, 104, 105, 106, 104, 107, 107] = true := by kernel_rfl
theorem b_7_6 : tB8 ([107, 104, 122] ++ [107, 107]) words [27, 24, 116, 117, 118, 116, 119, 119] = true := by kernel_rfl
theorem b_7_7 : tB8 ([107, 104, 122] ++ [107, 104, 122]) words [27, 24, 116, 117, 118, 116, 119, 119] = true := by kernel_rfl
theorem b_all : ∀ i j, i < 8 → j < 8 → ∃ ks, tB8 (words.getD i [] ++ words.getD j []) words ks = true
  | 0, 0, _, _ => ⟨_, b_0_0⟩
  | 0, 1, _, _ => ⟨_, b_0_1⟩
  | 0, 2, _, _ => ⟨_, b_0_2⟩
  | 0, 3, _, _ => ⟨_, b_0_3⟩
  | 0, 4, _, _ => ⟨_, b_0_4⟩
  | 0, 5, _, _ => ⟨_, b_0_5⟩
  | 0, 6, _, _ => ⟨_, b_0_6⟩
  | 0, 7, _, _ => ⟨_, b_0_7⟩
  | 1, 0, _, _ => ⟨_, b_1_0⟩
  | 1, 1, _, _ => ⟨_, b_1_1⟩
  | 1, 2, _, _ => ⟨_, b_1_2⟩
  | 1, 3, _, _ => ⟨_, b_1_3⟩
  | 1, 4, _, _ => ⟨_, b_1_4⟩
  | 1, 5, _, _ => ⟨_, b_1_5⟩
  | 1, 6, _, _ => ⟨_, b_1_6⟩
  | 1, 7, _, _ => ⟨_, b_1_7⟩
  | 2, 0, _, _ => ⟨_, b_2_0⟩
  | 2, 1, _, _ => ⟨_, b_2_1⟩
  | 2, 2, _, _ => ⟨_, b_2_2⟩
  | 2, 3, _, _ => ⟨_, b_2_3⟩
  | 2, 4, _, _ => ⟨_, b_2_4⟩
  | 2, 5, _, _ => ⟨_, b_2_5⟩
  | 2, 6, _, _ => ⟨_, b_2_6⟩
  | 2, 7, _, _ => ⟨_, b_2_7⟩
  | 3, 0, _, _ => ⟨_, b_3_0⟩
  | 3, 1, _, _ => ⟨_, b_3_1⟩
  | 3, 2, _, _ => ⟨_, b_3_2⟩
  | 3, 3, _, _ => ⟨_, b_3_3⟩
  | 3, 4, _, _ => ⟨_, b_3_4⟩
  | 3, 5, _, _ => ⟨_, b_3_5⟩
  | 3, 6, _, _ => ⟨_, b_3_6⟩
  | 3, 7, _, _ => ⟨_, b_3_7⟩
  | 4, 0, _, _ => ⟨_, b_4_0⟩
  | 4, 1, _, _ => ⟨_, b_4_1⟩
  | 4, 2, _, _ => ⟨_, b_4_2⟩
  | 4, 3, _, _ => ⟨_, b_4_3⟩
  | 4, 4, _, _ => ⟨_, b_4_4⟩
  | 4, 5, _, _ => ⟨_, b_4_5⟩
  | 4, 6, _, _ => ⟨_, b_4_6⟩
  | 4, 7, _, _ => ⟨_, b_4_7⟩
  | 5, 0, _, _ => ⟨_, b_5_0⟩
  | 5, 1, _, _ => ⟨_, b_5_1⟩
  | 5, 2, _, _ => ⟨_, b_5_2⟩
  | 5, 3, _, _ => ⟨_, b_5_3⟩
  | 5, 4, _, _ => ⟨_, b_5_4⟩
  | 5, 5, _, _ => ⟨_, b_5_5⟩
  | 5, 6, _, _ => ⟨_, b_5_6⟩
  | 5, 7, _, _ => ⟨_, b_5_7⟩
  | 6, 0, _, _ => ⟨_, b_6_0⟩
  | 6, 1, _, _ => ⟨_, b_6_1⟩
  | 6, 2, _, _ => ⟨_, b_6_2⟩
  | 6, 3, _, _ => ⟨_, b_6_3⟩
  | 6, 4, _, _ => ⟨_, b_6_4⟩
  | 6, 5, _, _ => ⟨_, b_6_5⟩
  | 6, 6, _, _ => ⟨_, b_6_6⟩
  | 6, 7, _, _ => ⟨_, b_6_7⟩
  | 7, 0, _, _ => ⟨_, b_7_0⟩
  | 7, 1, _, _ => ⟨_, b_7_1⟩
  | 7, 2, _, _ => ⟨_, b_7_2⟩
  | 7, 3, _, _ => ⟨_, b_7_3⟩
  | 7, 4, _, _ => ⟨_, b_7_4⟩
  | 7, 5, _, _ => ⟨_, b_7_5⟩
  | 7, 6, _, _ => ⟨_, b_7_6⟩
  | 7, 7, _, _ => ⟨_, b_7_7⟩
  | _ + 8, _, h, _ => absurd h (by omega)
  | _, _ + 8, _, h => absurd h (by omega)
theorem a_all : ∀ c0 c1 c2, tA (b3 c0 c1 c2) = true := by
  intro c0 c1 c2
  cases c0 <;> cases c1 <;> cases c2 <;> first | exact a_0 | exact a_1 | exact a_2 | exact a_3 | exact a_4 | exact a_5 | exact a_6 | exact a_7
end Mine.MI
end
-- MiEp
section
namespace Mine.MI
theorem p_0 : tP ([40, 40, 40], 0) = true := by kernel_rfl
theorem p_1 : tP ([40, 40, 41], 1) = true := by kernel_rfl
theorem p_2 : tP ([40, 40, 40, 41], 2) = true := by kernel_rfl
theorem p_3 : tP ([40, 40, 41, 40], 1) = true := by kernel_rfl
theorem p_4 : tP ([40, 40, 41, 41], 3) = true := by kernel_rfl
theorem p_5 : tP ([40, 40, 40, 40], 0) = true := by kernel_rfl
theorem p_6 : tP ([40, 41, 40], 4) = true := by kernel_rfl
theorem p_7 : tP ([40, 41, 41], 5) = true := by kernel_rfl
theorem p_8 : tP ([40, 41, 40, 41], 6) = true := by kernel_rfl
theorem p_9 : tP ([40, 41, 41, 40], 5) = true := by kernel_rfl
theorem p_10 : tP ([40, 41, 41, 41], 7) = true := by kernel_rfl
theorem p_11 : tP ([40, 41, 40, 40], 4) = true := by kernel_rfl
theorem p_12 : tP ([40, 40, 41, 40, 41], 8) = true := by kernel_rfl
theorem p_13 : tP ([40, 40, 41, 41, 40], 3) = true := by kernel_rfl
theorem p_14 : tP ([40, 40, 41, 41, 41], 9) = true := by kernel_rfl
theorem p_15 : tP ([40, 40, 41, 40, 40], 1) = true := by kernel_rfl
theorem p_16 : tP ([40, 41, 40, 40, 41], 10) = true := by kernel_rfl
theorem p_17 : tP ([40, 41, 40, 41, 40], 6) = true := by kernel_rfl
theorem p_18 : tP ([40, 41, 40, 41, 41], 11) = true := by kernel_rfl
theorem p_19 : tP ([40, 41, 40, 40, 40], 4) = true := by kernel_rfl
theorem p_20 : tP ([40, 41, 41, 40, 41], 12) = true := by kernel_rfl
theorem p_21 : tP ([40, 41, 41, 41, 40], 7) = true := by kernel_rfl
theorem p_22 : tP ([40, 41, 41, 41, 41], 13) = true := by kernel_rfl
theorem p_23 : tP ([40, 41, 41, 40, 40], 5) = true := by kernel_rfl
theorem p_24 : tP ([40, 40, 40, 40, 41], 14) = true := by kernel_rfl
theorem p_25 : tP ([40, 40, 40, 41, 40], 2) = true := by kernel_rfl
theorem p_26 : tP ([40, 40, 40, 41, 41], 15) = true := by kernel_rfl
theorem p_27 : tP ([40, 40, 40, 40, 40], 0) = true := by kernel_rfl
theorem p_28 : tP ([41, 40, 40], 0) = true := by kernel_rfl
theorem p_29 : tP ([41, 40, 41], 4) = true := by kernel_rfl
theorem p_30 : tP ([41, 40, 40, 41], 1) = true := by kernel_rfl
theorem p_31 : tP ([41, 40, 41, 40], 4) = true := by kernel_rfl
theorem p_32 : tP ([41, 40, 41, 41], 5) = true := by kernel_rfl
theorem p_33 : tP ([41, 40, 40, 40], 0) = true := by kernel_rfl
theorem p_34 : tP ([41, 41, 40], 0) = true := by kernel_rfl
theorem p_35 : tP ([41, 41, 41], 0) = true := by kernel_rfl
theorem p_36 : tP ([41, 41, 40, 41], 4) = true := by kernel_rfl
theorem p_37 : tP ([41, 41, 41, 40], 0) = true := by kernel_rfl
theorem p_38 : tP ([41, 41, 41, 41], 0) = true := by kernel_rfl
theorem p_39 : tP ([41, 41, 40, 40], 0) = true := by kernel_rfl
theorem p_40 : tP ([41, 40, 41, 40, 41], 6) = true := by kernel_rfl
theorem p_41 : tP ([41, 40, 41, 41, 40], 5) = true := by kernel_rfl
theorem p_42 : tP ([41, 40, 41, 41, 41], 7) = true := by kernel_rfl
theorem p_43 : tP ([41, 40, 41, 40, 40], 4) = true := by kernel_rfl
theorem p_44 : tP ([41, 41, 40, 40, 41], 1) = true := by kernel_rfl
theorem p_45 : tP ([41, 41, 40, 41, 40], 4) = true := by kernel_rfl
theorem p_46 : tP ([41, 41, 40, 41, 41], 5) = true := by kernel_rfl
theorem p_47 : tP ([41, 41, 40, 40, 40], 0) = true := by kernel_rfl
theorem p_48 : tP ([41, 41, 41, 40, 41], 4) = true := by kernel_rfl
theorem p_49 : tP ([41, 41, 41, 41, 40], 0) = true := by kernel_rfl
theorem p_50 : tP ([41, 41, 41, 41, 41], 0) = true := by kernel_rfl
theorem p_51 : tP ([41, 41, 41, 40, 40], 0) = true := by kernel_rfl
theorem p_52 : tP ([41, 40, 40, 40, 41], 2) = true := by kernel_rfl
theorem p_53 : tP ([41, 40, 40, 41, 40], 1) = true := by kernel_rfl
theorem p_54 : tP ([41, 40, 40, 41, 41], 3) = true := by kernel_rfl
theorem p_55 : tP ([41, 40, 40, 40, 40], 0) = true := by kernel_rfl
theorem p_56 : tP ([40, 41, 40, 41, 40, 41], 16) = true := by kernel_rfl
theorem p_57 : tP ([40, 41, 40, 41, 41, 40], 11) = true := by kernel_rfl
theorem p_58 : tP ([40, 41, 40, 41, 41, 41], 17) = true := by kernel_rfl
theorem p_59 : tP ([40, 41, 40, 41, 40, 40], 6) = true := by kernel_rfl
theorem p_60 : tP ([40, 41, 41, 40, 40, 41], 18) = true := by kernel_rfl
theorem p_61 : tP ([40, 41, 41, 40, 41, 40], 12) = true := by kernel_rfl
theorem p_62 : tP ([40, 41, 41, 40, 41, 41], 19) = true := by kernel_rfl
theorem p_63 : tP ([40, 41, 41, 40, 40, 40], 5) = true := by kernel_rfl
theorem p_64 : tP ([40, 41, 41, 41, 40, 41], 20) = true := by kernel_rfl
theorem p_65 : tP ([40, 41, 41, 41, 41, 40], 13) = true := by kernel_rfl
theorem p_66 : tP ([40, 41, 41, 41, 41, 41], 21) = true := by kernel_rfl
theorem p_67 : tP ([40, 41, 41, 41, 40, 40], 7) = true := by kernel_rfl
theorem p_68 : tP ([40, 41, 40, 40, 40, 41], 22) = true := by kernel_rfl
theorem p_69 : tP ([40, 41, 40, 40, 41, 40], 10) = true := by kernel_rfl
theorem p_70 : tP ([40, 41, 40, 40, 41, 41], 23) = true := by kernel_rfl
theorem p_71 : tP ([40, 41, 40, 40, 40, 40], 4) = true := by kernel_rfl
theorem p_72 : tP ([41, 40, 40, 41, 40, 41], 8) = true := by kernel_rfl
theorem p_73 : tP ([41, 40, 40, 41, 41, 40], 3) = true := by kernel_rfl
theorem p_74 : tP ([41, 40, 40, 41, 41, 41], 9) = true := by kernel_rfl
theorem p_75 : tP ([41, 40, 40, 41, 40, 40], 1) = true := by kernel_rfl
theorem p_76 : tP ([41, 40, 41, 40, 40, 41], 10) = true := by kernel_rfl
theorem p_77 : tP ([41, 40, 41, 40, 41, 40], 6) = true := by kernel_rfl
theorem p_78 : tP ([41, 40, 41, 40, 41, 41], 11) = true := by kernel_rfl
theorem p_79 : tP ([41, 40, 41, 40, 40, 40], 4) = true := by kernel_rfl
theorem p_80 : tP ([41, 40, 41, 41, 40, 41], 12) = true := by kernel_rfl
theorem p_81 : tP ([41, 40, 41, 41, 41, 40], 7) = true := by kernel_rfl
theorem p_82 : tP ([41, 40, 41, 41, 41, 41], 13) = true := by kernel_rfl
theorem p_83 : tP ([41, 40, 41, 41, 40, 40], 5) = true := by kernel_rfl
theorem p_84 : tP ([41, 40, 40, 40, 40, 41], 14) = true := by kernel_rfl
theorem p_85 : tP ([41, 40, 40, 40, 41, 40], 2) = true := by kernel_rfl
theorem p_86 : tP ([41, 40, 40, 40, 41, 41], 15) = true := by kernel_rfl
theorem p_87 : tP ([41, 40, 40, 40, 40, 40], 0) = true := by kernel_rfl
theorem p_88 : tP ([41, 41, 40, 41, 40, 41], 6) = true := by kernel_rfl
theorem p_89 : tP ([41, 41, 40, 41, 41, 40], 5) = true := by kernel_rfl
theorem p_90 : tP ([41, 41, 40, 41, 41, 41], 7) = true := by kernel_rfl
theorem p_91 : tP ([41, 41, 40, 41, 40, 40], 4) = true := by kernel_rfl
theorem p_92 : tP ([41, 41, 41, 40, 40, 41], 1) = true := by kernel_rfl
theorem p_93 : tP ([41, 41, 41, 40, 41, 40], 4) = true := by kernel_rfl
theorem p_94 : tP ([41, 41, 41, 40, 41, 41], 5) = true := by kernel_rfl
theorem p_95 : tP ([41, 41, 41, 40, 40, 40], 0) = true := by kernel_rfl
theorem p_96 : tP ([41, 41, 41, 41, 40, 41], 4) = true := by kernel_rfl
theorem p_97 : tP ([41, 41, 41, 41, 41, 40], 0) = true := by kernel_rfl
theorem p_98 : tP ([41, 41, 41, 41, 41, 41], 0) = true := by kernel_rfl
theorem p_99 : tP ([41, 41, 41, 41, 40, 40], 0) = true := by kernel_rfl
theorem p_100 : tP ([41, 41, 40, 40, 40, 41], 2) = true := by kernel_rfl
theorem p_101 : tP ([41, 41, 40, 40, 41, 40], 1) = true := by kernel_rfl
theorem p_102 : tP ([41, 41, 40, 40, 41, 41], 3) = true := by kernel_rfl
theorem p_103 : tP ([41, 41, 40, 40, 40, 40], 0) = true := by kernel_rfl
theorem p_104 : tP ([40, 40, 40, 41, 40, 41], 24) = true := by kernel_rfl
theorem p_105 : tP ([40, 40, 40, 41, 41, 40], 15) = true := by kernel_rfl
theorem p_106 : tP ([40, 40, 40, 41, 41, 41], 25) = true := by kernel_rfl
theorem p_107 : tP ([40, 40, 40, 41, 40, 40], 2) = true := by kernel_rfl
theorem p_108 : tP ([40, 40, 41, 40, 40, 41], 26) = true := by kernel_rfl
theorem p_109 : tP ([40, 40, 41, 40, 41, 40], 8) = true := by kernel_rfl
theorem p_110 : tP ([40, 40, 41, 40, 41, 41], 27) = true := by kernel_rfl
theorem p_111 : tP ([40, 40, 41, 40, 40, 40], 1) = true := by kernel_rfl
theorem p_112 : tP ([40, 40, 41, 41, 40, 41], 28) = true := by kernel_rfl
theorem p_113 : tP ([40, 40, 41, 41, 41, 40], 9) = true := by kernel_rfl
theorem p_114 : tP ([40, 40, 41, 41, 41, 41], 29) = true := by kernel_rfl
theorem p_115 : tP ([40, 40, 41, 41, 40, 40], 3) = true := by kernel_rfl
theorem p_116 : tP ([40, 40, 40, 40, 40, 41], 30) = true := by kernel_rfl
theorem p_117 : tP ([40, 40, 40, 40, 41, 40], 14) = true := by kernel_rfl
theorem p_118 : tP ([40, 40, 40, 40, 41, 41], 31) = true := by kernel_rfl
theorem p_119 : tP ([40, 40, 40, 40, 40, 40], 0) = true := by kernel_rfl
theorem p_all : ∀ q ∈ tabR, tP q = true := List.forall_mem_cons.mpr ⟨p_0, List.forall_mem_cons.mpr ⟨p_1, List.forall_mem_cons.mpr ⟨p_2, List.forall_mem_cons.mpr ⟨p_3, List.forall_mem_cons.mpr ⟨p_4, List.forall_mem_cons.mpr ⟨p_5, List.forall_mem_cons.mpr ⟨p_6, List.forall_mem_cons.mpr ⟨p_7, List.forall_mem_cons.mpr ⟨p_8, List.forall_mem_cons.mpr ⟨p_9, List.forall_mem_cons.mpr ⟨p_10, List.forall_mem_cons.mpr ⟨p_11, List.forall_mem_cons.mpr ⟨p_12, List.forall_mem_cons.mpr ⟨p_13, List.forall_mem_cons.mpr ⟨p_14, List.forall_mem_cons.mpr ⟨p_15, List.forall_mem_cons.mpr ⟨p_16, List.forall_mem_cons.mpr ⟨p_17, List.forall_mem_cons.mpr ⟨p_18, List.forall_mem_cons.mpr ⟨p_19, List.forall_mem_cons.mpr ⟨p_20, List.forall_mem_cons.mpr ⟨p_21, List.forall_mem_cons.mpr ⟨p_22, List.forall_mem_cons.mpr ⟨p_23, List.forall_mem_cons.mpr ⟨p_24, List.forall_mem_cons.mpr ⟨p_25, List.forall_mem_cons.mpr ⟨p_26, List.forall_mem_cons.mpr ⟨p_27, List.forall_mem_cons.mpr ⟨p_28, List.forall_mem_cons.mpr ⟨p_29, List.forall_mem_cons.mpr ⟨p_30, List.forall_mem_cons.mpr ⟨p_31, List.forall_mem_cons.mpr ⟨p_32, List.forall_mem_cons.mpr ⟨p_33, List.forall_mem_cons.mpr ⟨p_34, List.forall_mem_cons.mpr ⟨p_35, List.forall_mem_cons.mpr ⟨p_36, List.forall_mem_cons.mpr ⟨p_37, List.forall_mem_cons.mpr ⟨p_38, List.forall_mem_cons.mpr ⟨p_39, List.forall_mem_cons.mpr ⟨p_40, List.forall_mem_cons.mpr ⟨p_41, List.forall_mem_cons.mpr ⟨p_42, List.forall_mem_cons.mpr ⟨p_43, List.forall_mem_cons.mpr ⟨p_44, List.forall_mem_cons.mpr ⟨p_45, List.forall_mem_cons.mpr ⟨p_46, List.forall_mem_cons.mpr ⟨p_47, List.forall_mem_cons.mpr ⟨p_48, List.forall_mem_cons.mpr ⟨p_49, List.forall_mem_cons.mpr ⟨p_50, List.forall_mem_cons.mpr ⟨p_51, List.forall_mem_cons.mpr ⟨p_52, List.forall_mem_cons.mpr ⟨p_53, List.forall_mem_cons.mpr ⟨p_54, List.forall_mem_cons.mpr ⟨p_55, List.forall_mem_cons.mpr ⟨p_56, List.forall_mem_cons.mpr ⟨p_57, List.forall_mem_cons.mpr ⟨p_58, List.forall_mem_cons.mpr ⟨p_59, List.forall_mem_cons.mpr ⟨p_60, List.forall_mem_cons.mpr ⟨p_61, List.forall_mem_cons.mpr ⟨p_62, List.forall_mem_cons.mpr ⟨p_63, List.forall_mem_cons.mpr ⟨p_64, List.forall_mem_cons.mpr ⟨p_65, List.forall_mem_cons.mpr ⟨p_66, List.forall_mem_cons.mpr ⟨p_67, List.forall_mem_cons.mpr ⟨p_68, List.forall_mem_cons.mpr ⟨p_69, List.forall_mem_cons.mpr ⟨p_70, List.forall_mem_cons.mpr ⟨p_71, List.forall_mem_cons.mpr ⟨p_72, List.forall_mem_cons.mpr ⟨p_73, List.forall_mem_cons.mpr ⟨p_74, List.forall_mem_cons.mpr ⟨p_75, List.forall_mem_cons.mpr ⟨p_76, List.forall_mem_cons.mpr ⟨p_77, List.forall_mem_cons.mpr ⟨p_78, List.forall_mem_cons.mpr ⟨p_79, List.forall_mem_cons.mpr ⟨p_80, List.forall_mem_cons.mpr ⟨p_81, List.forall_mem_cons.mpr ⟨p_82, List.forall_mem_cons.mpr ⟨p_83, List.forall_mem_cons.mpr ⟨p_84, List.forall_mem_cons.mpr ⟨p_85, List.forall_mem_cons.mpr ⟨p_86, List.forall_mem_cons.mpr ⟨p_87, List.forall_mem_cons.mpr ⟨p_88, List.forall_mem_cons.mpr ⟨p_89, List.forall_mem_cons.mpr ⟨p_90, List.forall_mem_cons.mpr ⟨p_91, List.forall_mem_cons.mpr ⟨p_92, List.forall_mem_cons.mpr ⟨p_93, List.forall_mem_cons.mpr ⟨p_94, List.forall_mem_cons.mpr ⟨p_95, List.forall_mem_cons.mpr ⟨p_96, List.forall_mem_cons.mpr ⟨p_97, List.forall_mem_cons.mpr ⟨p_98, List.forall_mem_cons.mpr ⟨p_99, List.forall_mem_cons.mpr ⟨p_100, List.forall_mem_cons.mpr ⟨p_101, List.forall_mem_cons.mpr ⟨p_102, List.forall_mem_cons.mpr ⟨p_103, List.forall_mem_cons.mpr ⟨p_104, List.forall_mem_cons.mpr ⟨p_105, List.forall_mem_cons.mpr ⟨p_106, List.forall_mem_cons.mpr ⟨p_107, List.forall_mem_cons.mpr ⟨p_108, List.forall_mem_cons.mpr ⟨p_109, List.forall_mem_cons.mpr ⟨p_110, List.forall_mem_cons.mpr ⟨p_111, List.forall_mem_cons.mpr ⟨p_112, List.forall_mem_cons.mpr ⟨p_113, List.forall_mem_cons.mpr ⟨p_114, List.forall_mem_cons.mpr ⟨p_115, List.forall_mem_cons.mpr ⟨p_116, List.forall_mem_cons.mpr ⟨p_117, List.forall_mem_cons.mpr ⟨p_118, List.forall_mem_cons.mpr ⟨p_119, List.forall_mem_nil _⟩⟩⟩⟩⟩⟩⟩⟩⟩⟩⟩⟩⟩⟩⟩⟩⟩⟩⟩⟩⟩⟩⟩⟩⟩⟩⟩⟩⟩⟩⟩⟩⟩⟩⟩⟩⟩⟩⟩⟩⟩⟩⟩⟩⟩⟩⟩⟩⟩⟩⟩⟩⟩⟩⟩⟩⟩⟩⟩⟩⟩⟩⟩⟩⟩⟩⟩⟩⟩⟩⟩⟩⟩⟩⟩⟩⟩⟩⟩⟩⟩⟩⟩⟩⟩⟩⟩⟩⟩⟩⟩⟩⟩⟩⟩⟩⟩⟩⟩⟩⟩⟩⟩⟩⟩⟩⟩⟩⟩⟩⟩⟩⟩⟩⟩⟩⟩⟩⟩⟩
theorem r_0 (row : List Nat) : tR row [] [(0, 1), (0, 1), (0, 1), (0, 1)] = true := by kernel_rfl
theorem r_1 (row : List Nat) : tR row [2, 1] [(2, 1), (1, 1), (0, 1), (0, 1)] = true := by kernel_rfl
theorem r_2 (row : List Nat) : tR row [3, 2, 1] [(3, 1), (1, 1), (1, 1), (0, 1)] = true := by kernel_rfl
theorem r_3 (row : List Nat) : tR row [2, 1, 3, 2] [(4, 2), (2, 2), (1, 1), (0, 1)] = true := by kernel_rfl
theorem r_4 (row : List Nat) : tR row [1] [(1, 1), (0, 1), (0, 1), (0, 1)] = true := by kernel_rfl
theorem r_5 (row : List Nat) : tR row [1, 2] [(2, 1), (1, 1), (0, 1), (0, 1)] = true := by kernel_rfl
theorem r_6 (row : List Nat) : tR row [1, 3, 1] [(3, 2), (0, 1), (1, 1), (0, 1)] = true := by kernel_rfl
theorem r_7 (row : List Nat) : tR row [1, 2, 3] [(3, 1), (1, 1), (1, 1), (0, 1)] = true := by kernel_rfl
theorem r_8 (row : List Nat) : tR row [2, 1, 4, 3, 1] [(5, 5), (2, 1), (1, 1), (1, 1), (0, 1)] = true := by kernel_rfl
theorem r_9 (row : List Nat) : tR row [2, 1, 3, 2, 4, 3] [(6, 5), (3, 3), (2, 2), (1, 1), (0, 1)] = true := by kernel_rfl
theorem r_10 (row : List Nat) : tR row [1, 4, 2, 1] [(4, 3), (2, 1), (0, 1), (1, 1), (0, 1)] = true := by kernel_rfl
theorem r_11 (row : List Nat) : tR row [1, 3, 1, 4, 2] [(5, 5), (2, 1), (1, 1), (1, 1), (0, 1)] = true := by kernel_rfl
theorem r_12 (row : List Nat) : tR row [1, 2, 4, 1] [(4, 3), (2, 1), (0, 1), (1, 1), (0, 1)] = true := by kernel_rfl
theorem r_13 (row : List Nat) : tR row [1, 2, 3, 4] [(4, 1), (2, 1), (1, 1), (1, 1), (0, 1)] = true := by kernel_rfl
theorem r_14 (row : List Nat) : tR row [4, 3, 2, 1] [(4, 1), (2, 1), (1, 1), (1, 1), (0, 1)] = true := by kernel_rfl
theorem r_15 (row : List Nat) : tR row [3, 2, 1, 4, 3, 2] [(6, 5), (3, 3), (2, 2), (1, 1), (0, 1)] = true := by kernel_rfl
theorem r_16 (row : List Nat) : tR row [1, 3, 1, 5, 3, 1] [(6, 16), (0, 1), (2, 2), (0, 1), (1, 1), (0, 1)] = true := by kernel_rfl
theorem r_17 (row : List Nat) : tR row [1, 3, 1, 4, 2, 5, 3] [(7, 14), (2, 1), (2, 2), (1, 1), (1, 1), (0, 1)] = true := by kernel_rfl
theorem r_18 (row : List Nat) : tR row [1, 2, 5, 2, 1] [(5, 6), (2, 2), (0, 1), (0, 1), (1, 1), (0, 1)] = true := by kernel_rfl
theorem r_19 (row : List Nat) : tR row [1, 2, 4, 1, 5, 2] [(6, 9), (3, 3), (0, 1), (1, 1), (1, 1), (0, 1)] = true := by kernel_rfl
theorem r_20 (row : List Nat) : tR row [1, 2, 3, 5, 1] [(5, 4), (1, 1), (1, 1), (0, 1), (1, 1), (0, 1)] = true := by kernel_rfl
theorem r_21 (row : List Nat) : tR row [1, 2, 3, 4, 5] [(5, 1), (2, 1), (1, 1), (1, 1), (1, 1), (0, 1)] = true := by kernel_rfl
theorem r_22 (row : List Nat) : tR row [1, 5, 3, 2, 1] [(5, 4), (1, 1), (1, 1), (0, 1), (1, 1), (0, 1)] = true := by kernel_rfl
theorem r_23 (row : List Nat) : tR row [1, 4, 2, 1, 5, 3, 2] [(7, 21), (3, 3), (1, 1), (1, 1), (1, 1), (0, 1)] = true := by kernel_rfl
theorem r_24 (row : List Nat) : tR row [3, 2, 1, 5, 4, 3, 1] [(7, 14), (2, 1), (2, 2), (1, 1), (1, 1), (0, 1)] = true := by kernel_rfl
theorem r_25 (row : List Nat) : tR row [3, 2, 1, 4, 3, 2, 5, 4, 3] [(9, 42), (4, 6), (3, 6), (2, 2), (1, 1), (0, 1)] = true := by kernel_rfl
theorem r_26 (row : List Nat) : tR row [2, 1, 5, 4, 2, 1] [(6, 9), (3, 3), (0, 1), (1, 1), (1, 1), (0, 1)] = true := by kernel_rfl
theorem r_27 (row : List Nat) : tR row [2, 1, 4, 3, 1, 5, 4, 2] [(8, 42), (4, 6), (1, 1), (2, 2), (1, 1), (0, 1)] = true := by kernel_rfl
theorem r_28 (row : List Nat) : tR row [2, 1, 3, 2, 5, 4, 1] [(7, 21), (3, 3), (1, 1), (1, 1), (1, 1), (0, 1)] = true := by kernel_rfl
theorem r_29 (row : List Nat) : tR row [2, 1, 3, 2, 4, 3, 5, 4] [(8, 14), (4, 6), (2, 2), (2, 2), (1, 1), (0, 1)] = true := by kernel_rfl
theorem r_30 (row : List Nat) : tR row [5, 4, 3, 2, 1] [(5, 1), (2, 1), (1, 1), (1, 1), (1, 1), (0, 1)] = true := by kernel_rfl
theorem r_31 (row : List Nat) : tR row [4, 3, 2, 1, 5, 4, 3, 2] [(8, 14), (4, 6), (2, 2), (2, 2), (1, 1), (0, 1)] = true := by kernel_rfl
theorem r_all : ∀ q ∈ tabF, ∀ row, tR row q.1 q.2 = true := List.forall_mem_cons.mpr ⟨r_0, List.forall_mem_cons.mpr ⟨r_1, List.forall_mem_cons.mpr ⟨r_2, List.forall_mem_cons.mpr ⟨r_3, List.forall_mem_cons.mpr ⟨r_4, List.forall_mem_cons.mpr ⟨r_5, List.forall_mem_cons.mpr ⟨r_6, List.forall_mem_cons.mpr ⟨r_7, List.forall_mem_cons.mpr ⟨r_8, List.forall_mem_cons.mpr ⟨r_9, List.forall_mem_cons.mpr ⟨r_10, List.forall_mem_cons.mpr ⟨r_11, List.forall_mem_cons.mpr ⟨r_12, List.forall_mem_cons.mpr ⟨r_13, List.forall_mem_cons.mpr ⟨r_14, List.forall_mem_cons.mpr ⟨r_15, List.forall_mem_cons.mpr ⟨r_16, List.forall_mem_cons.mpr ⟨r_17, List.forall_mem_cons.mpr ⟨r_18, List.forall_mem_cons.mpr ⟨r_19, List.forall_mem_cons.mpr ⟨r_20, List.forall_mem_cons.mpr ⟨r_21, List.forall_mem_cons.mpr ⟨r_22, List.forall_mem_cons.mpr ⟨r_23, List.forall_mem_cons.mpr ⟨r_24, List.forall_mem_cons.mpr ⟨r_25, List.forall_mem_cons.mpr ⟨r_26, List.forall_mem_cons.mpr ⟨r_27, List.forall_mem_cons.mpr ⟨r_28, List.forall_mem_cons.mpr ⟨r_29, List.forall_mem_cons.mpr ⟨r_30, List.forall_mem_cons.mpr ⟨r_31, List.forall_mem_nil _⟩⟩⟩⟩⟩⟩⟩⟩⟩⟩⟩⟩⟩⟩⟩⟩⟩⟩⟩⟩⟩⟩⟩⟩⟩⟩⟩⟩⟩⟩⟩⟩
end Mine.MI
end
-- MiRn
section
namespace Mine.MI
variable {C : Cx} {n : Nat} {T T' : St}

/-- the body answers True, from these names -/
noncomputable def Runs (C : Cx) (n : Nat) (T : St) (body : List Stmt) (ρ : Rho) : Prop := ∀ (A : Around) (env : Env) (F : Fn) (W : Addr → Prop) (s : Shared), Room n A → Inv C T env F W ρ s →
  wpAny C.M A (execs body env) (fun fl s' => fl = .ret (.bool true) ∧ ∃ F' W', Sp F W s F' W' s' ∧ Hp C F' s') (fun _ _ => False) s
theorem runs_cons {st : Stmt} {body : List Stmt} {den : DS} {ρ ρ' : Rho} (h : SemS C n T st den) (e : den ρ = some (ρ', .next)) (k : Runs C n T body ρ') : Runs C n T (st :: body) ρ := fun A env F W s R I => by
  refine wpAny_execs_cons (wpAny_mono (h A env F W ρ s ρ' .next R I e) (fun r s₁ q => ?_) fun _ _ z => z)
  obtain ⟨F₁, W₁, x, I₁, y⟩ := q
  cases r <;> first | exact y.elim | skip
  refine wpAny_mono (k A env F₁ W₁ s₁ R I₁) (fun r s₂ q => ?_) fun _ _ z => z
  obtain ⟨e, F₂, W₂, x₂, H₂⟩ := q
  exact ⟨e, F₂, W₂, x.trans x₂, H₂⟩
theorem runs_end {body : List Stmt} {den : DS} {ρ ρ' : Rho} (h : SemSs C n T body den) (e : den ρ = some (ρ', .ret (.bool true))) : Runs C n T body ρ := fun A env F W s R I => by
  refine wpAny_mono (h A env F W ρ s ρ' _ R I e) (fun r s₁ q => ?_) fun _ _ z => z
  obtain ⟨F₁, W₁, x, I₁, y⟩ := q
  cases r <;> first | exact y.elim | skip
  have y' : Rd C F₁ (.bool true) _ := y
  simp only [Rd] at y'
  subst y'
  exact ⟨rfl, F₁, W₁, x, I₁.hp⟩
theorem runs_weak {body : List Stmt} {ρ ρ' : Rho} (h : ∀ x sl, get x ρ' = some sl → get x ρ = some sl) (k : Runs C n T body ρ') : Runs C n T body ρ := fun A env F W s R I => k A env F W s R (I.congr h)
theorem Inv.conv {env : Env} {F : Fn} {W : Addr → Prop} {ρ ρ' : Rho} {s : Shared} (I : Inv C T env F W ρ s) (h : ∀ x sl, get x ρ' = some sl → ∃ d d', sl = .val d' ∧ get x ρ = some (.val d) ∧ ∀ v, Rd C F d v → Rd C F d' v) : Inv C T env F W ρ' s :=
  ⟨I.hp, I.nodup, I.kind, I.gl, I.bi, I.globs, I.off, I.wl, I.cal, I.ns, I.locs, fun x sl g => by
    obtain ⟨d, d', rfl, e, r⟩ := h x sl g
    obtain ⟨h1, v, k1, k2⟩ := I.vars x _ e
    exact ⟨h1, v, k1, r v k2⟩, fun x y dx dy a b hxy gx gy => by
    (obtain ⟨d, d', e, _⟩ := h x _ gx; cases e), I.pin⟩
theorem get_rB {l : List Nat} {x : Nat} {sl : Slot} (h : get x (rB l) = some sl) : (x = 0 ∧ sl = .val .scr) ∨ (x = 7 ∧ sl = .val (.str l)) := by
  unfold rB get at h
  split at h
  · rename_i q; cases h; exact .inl ⟨Nat.eq_of_beq_eq_true q, rfl⟩
  · unfold get at h
    split at h
    · rename_i q; cases h; exact .inr ⟨Nat.eq_of_beq_eq_true q, rfl⟩
    · cases h
theorem get_rC {row : List Nat} {far : List Int} {x : Nat} {sl : Slot} (h : get x (rC row far) = some sl) : (x = 0 ∧ sl = .val .scr) ∨ (x = 10 ∧ sl = .val (.str row)) ∨ (x = 16 ∧ sl = .val (.lst (far.map .int))) := by
  unfold rC get at h
  split at h
  · rename_i q; cases h; exact .inl ⟨Nat.eq_of_beq_eq_true q, rfl⟩
  · unfold get at h
    split at h
    · rename_i q; cases h; exact .inr (.inl ⟨Nat.eq_of_beq_eq_true q, rfl⟩)
    · unfold get at h
      split at h
      · rename_i q; cases h; exact .inr (.inr ⟨Nat.eq_of_beq_eq_true q, rfl⟩)
      · cases h
theorem runs_told {body : List Stmt} {ρ : Rho} (h0 : get 0 ρ = some (.val .scr)) (h7 : get 7 ρ = some (.val (.ss [10, 11, 12]))) (k : Runs C n T body (rB (C.P.at' 10 ++ (C.P.at' 11 ++ C.P.at' 12)))) : Runs C n T body ρ := fun A env F W s R I => by
  refine k A env F W s R (I.conv fun x sl g => ?_)
  rcases get_rB g with ⟨rfl, rfl⟩ | ⟨rfl, rfl⟩
  · exact ⟨_, _, rfl, h0, fun v r => r⟩
  · refine ⟨_, _, rfl, h7, fun v r => ?_⟩
    simp only [Rd] at r ⊢
    obtain ⟨t, rfl⟩ := r
    refine ⟨fun c hc => ?_, t, by simp⟩
    simp only [List.mem_append] at hc
    rcases hc with hc | hc | hc <;> exact C.atOk _ c hc
theorem seq_next {a b : DS} {ρ ρ' : Rho} (h : seq a b ρ = some (ρ', .next)) : ∃ ρ₁, a ρ = some (ρ₁, .next) ∧ b ρ₁ = some (ρ', .next) := by
  unfold seq at h
  split at h
  · rename_i ρ₁ e; exact ⟨ρ₁, e, h⟩
  · rename_i hn; exact absurd h (hn _)
theorem get_puts_ne : ∀ {xs : List Nat} {ds : List V} {ρ ρ' : Rho} {y : Nat}, puts xs ds ρ = some ρ' → y ∉ xs → get y ρ' = get y ρ
  | [], [], ρ, ρ', y, h, _ => by cases h; rfl
  | x :: xs, d :: ds, ρ, ρ', y, h, hy => by
    simp only [List.mem_cons, not_or] at hy
    have h : puts xs ds (put x (.val d) ρ) = some ρ' := h
    rw [get_puts_ne h hy.2, get_put, if_neg hy.1]
theorem get_multiV {xs : List Nat} {es : List D} {ρ ρ' : Rho} {fl : Fl} (h : multiV xs es ρ = some (ρ', fl)) {y : Nat} (hy : y ∉ xs) : get y ρ' = get y ρ := by
  obtain ⟨vs, e1, h⟩ := ob_some h
  obtain ⟨ρ₁, e2, h⟩ := ob_some h
  cases h
  exact get_puts_ne e2 hy
theorem get_asg {x : Nat} {e : D} {ρ ρ' : Rho} {fl : Fl} (h : asg x e ρ = some (ρ', fl)) {y : Nat} (hy : y ≠ x) : get y ρ' = get y ρ := by
  obtain ⟨v, e1, h⟩ := ob_some h
  cases h
  rw [get_put, if_neg hy]
theorem get_pickX {x : Nat} {sl : Slot} : ∀ {xs : List Nat} {ρ : Rho}, get x (pickX xs ρ) = some sl → x ∈ xs ∧ get x ρ = some sl
  | [], _, h => by cases h
  | y :: ys, ρ, h => by
    unfold pickX at h
    split at h
    · rename_i sl' g
      unfold get at h
      split at h
      · rename_i q; cases h; have := Nat.eq_of_beq_eq_true q; subst this; exact ⟨by simp, g⟩
      · obtain ⟨h1, h2⟩ := get_pickX h; exact ⟨List.mem_cons_of_mem _ h1, h2⟩
    · obtain ⟨h1, h2⟩ := get_pickX h; exact ⟨List.mem_cons_of_mem _ h1, h2⟩
theorem ifS_next {t : DB} {e : D} {ρ ρ' : Rho} (h : ifS t (block [ret e]) (block []) ρ = some (ρ', .next)) : ρ' = ρ := by
  unfold ifS at h
  split at h
  · have h : seq (ret e) skip ρ = some (ρ', .next) := h
    obtain ⟨ρ₁, e1, _⟩ := seq_next h
    obtain ⟨v, _, e2⟩ := ob_some (o := e ρ) (f := fun v => some (ρ, Fl.ret v)) e1
    cases e2
  · cases h; rfl
  · cases h
theorem nth_mem {α : Type} : ∀ {l : List α} {k : Nat} {x : α}, nth l k = some x → x ∈ l
  | a :: r, 0, x, h => by cases h; simp
  | a :: r, k + 1, x, h => List.mem_cons_of_mem _ (nth_mem (l := r) (k := k) h)
end Mine.MI
end
-- MiRl
section
namespace Mine.MI
variable {C : Cx} {n : Nat} {T T' : St}
theorem law_body : fBody (stm 17) = [lawSt 0, lawSt 1, lawSt 2, lawSt 3, lawSt 4, lawSt 5, lawSt 6, lawSt 7, lawSt 8, lawSt 9, lawSt 10, lawSt 11, lawSt 12, lawSt 13, lawSt 14, lawSt 15, lawSt 16, lawSt 17, lawSt 18, lawSt 19, lawSt 20, lawSt 21, lawSt 22] := by kernel_rfl
theorem oSign_b3 (b : Nat → Bool) : oSign b = oSign (b3 (b 0) (b 1) (b 2)) := by
  funext vs
  unfold oSign
  split
  · rename_i k
    match k with
    | 0 => rfl
    | 1 => rfl
    | 2 => rfl
    | k + 3 => rfl
  · rfl
theorem evA_ok (b : Nat → Bool) : ∃ ρ, evA b rA = some (ρ, .next) ∧ get 0 ρ = some (.val .scr) ∧ get 7 ρ = some (.val (.ss [10, 11, 12])) := by
  have h := a_all (b 0) (b 1) (b 2)
  have e : evA b = evA (b3 (b 0) (b 1) (b 2)) := by unfold evA; rw [oSign_b3 b]
  rw [e]
  unfold tA at h
  split at h
  · rename_i ρ e1
    split at h
    · rename_i l g0 g7
      rw [eqL_iff, decide_eq_true_eq] at h
      subst h
      exact ⟨ρ, e1, g0, g7⟩
    · cases h
  · cases h
/-- what the kernel found for these letters -/
noncomputable def Good (l : List Nat) : Prop := ∃ row far p ρ, evB (rB l) = some (ρ, .next) ∧ get 0 ρ = some (.val .scr) ∧ get 10 ρ = some (.val (.str row)) ∧ get 16 ρ = some (.val (.lst (far.map .int))) ∧ lw10e (rC row far) = some (encP p) ∧ tR row far p = true
theorem good_of {l : List Nat} {q : Nat} (h : tB l q = true) : Good l := by
  unfold tB at h
  split at h
  · rename_i row fi e1
    split at h
    · rename_i far p e2
      split at h
      · rename_i ρ e3
        split at h
        · rename_i row' far' g0 g10 g16
          split at h
          · rename_i er
            rw [eqL_iff, decide_eq_true_eq] at er
            subst er
            rw [isFar_eq h] at g16
            have hp := p_all _ (nth_mem e1)
            have hr := r_all _ (nth_mem e2) row'
            unfold tP at hp
            rw [e2] at hp
            exact ⟨row', far, p, ρ, e3, g0, g10, g16, isP_eq hp, hr⟩
          · cases h
        · cases h
      · cases h
    · cases h
  · cases h
theorem tB8_get {w : List Nat} : ∀ {ls : List (List Nat)} {ks : List Nat}, tB8 w ls ks = true → ∀ k, k < ls.length → ∃ q, tB (w ++ ls.getD k []) q = true
  | [], _, _, k, hk => absurd hk (Nat.not_lt_zero _)
  | l :: ls, [], h, _, _ => by cases h
  | l :: ls, q :: ks, h, k, hk => by
    unfold tB8 at h
    split at h
    · rename_i e
      match k, hk with
      | 0, _ => exact ⟨q, e⟩
      | k + 1, hk => exact tB8_get h k (Nat.lt_of_succ_lt_succ hk)
    · cases h
theorem good_all {i j k : Nat} (hi : i < 8) (hj : j < 8) (hk : k < 8) : Good (words.getD i [] ++ (words.getD j [] ++ words.getD k [])) := by
  obtain ⟨ks, h⟩ := b_all i j hi hj
  obtain ⟨q, h⟩ := tB8_get h k hk
  rw [List.append_assoc] at h
  exact good_of h
theorem code_word (al : Nat) : ∀ k, k < 8 → ((codeT al).getD k (0, [])).2 = words.getD k []
  | 0, _ => rfl
  | 1, _ => rfl
  | 2, _ => rfl
  | 3, _ => rfl
  | 4, _ => rfl
  | 5, _ => rfl
  | 6, _ => rfl
  | 7, _ => rfl
  | _ + 8, h => absurd h (by omega)
theorem good_told (L : Lay C) : Good (C.P.at' 10 ++ (C.P.at' 11 ++ C.P.at' 12)) := by
  have e : ∀ k, k < 3 → C.P.at' (10 + k) = words.getD (mOf C.P.script k % 8) [] := fun k hk => by
    rw [L.at']; unfold atOf; rw [if_neg (by omega), show 10 + k - 10 = k by omega]
    exact code_word _ _ (Nat.mod_lt _ (by decide))
  rw [show C.P.at' 10 = _ from e 0 (by decide), show C.P.at' 11 = _ from e 1 (by decide), show C.P.at' 12 = _ from e 2 (by decide)]
  exact good_all (Nat.mod_lt _ (by decide)) (Nat.mod_lt _ (by decide)) (Nat.mod_lt _ (by decide))
theorem lw10e_dep {ρ ρ' : Rho} (h10 : get 10 ρ = get 10 ρ') (h16 : get 16 ρ = get 16 ρ') : lw10e ρ = lw10e ρ' := by
  simp only [lw10e, comp1, range2, bop, un, lstE, evs, cInt, var, pick, h10, h16]
theorem freeze23 {es : List D} {ρ r' : Rho} (h : freeze 23 skip ρ = some (r', .next)) {ρ' : Rho} {fl : Fl} (e : freeze 23 (multiV [27, 28] es) ρ = some (ρ', fl)) : ∀ y, y ≠ 27 → y ≠ 28 → get y ρ' = get y r' := fun y h1 h2 => by
  unfold freeze at h e
  split at h
  · rename_i d g
    rw [g] at e
    have h : skip (put 23 (.val d) ρ) = some (r', .next) := h
    cases h
    exact get_multiV e (by simp [h1, h2])
  · cases h
theorem wide_val (L : Lay C) (hW : C.P.W = 8 + C.P.script.sum % 1000000) : ∃ wv, (wv = .lin 0 1 ∨ wv = .int 8 ∨ wv = .int 9) ∧ ∀ F t, Rd C F wv (.int (8 + C.P.script.sum % 1000000) t) := by
  have h0 := Int.emod_nonneg C.P.script.sum (show (1000000 : Int) ≠ 0 by decide)
  by_cases h8 : C.P.script.sum % 1000000 = 0
  · exact ⟨.int 8, .inr (.inl rfl), fun F t => by simp only [Rd]; exact ⟨t, by rw [h8]; rfl⟩⟩
  by_cases h9 : C.P.script.sum % 1000000 = 1
  · exact ⟨.int 9, .inr (.inr rfl), fun F t => by simp only [Rd]; exact ⟨t, by rw [h9]; rfl⟩⟩
  · exact ⟨.lin 0 1, .inl rfl, fun F t => by simp only [Rd]; exact ⟨by omega, t, by rw [hW]; simp⟩⟩
theorem and_ok {a b : Bool} (h : (a && b) = true) : a = true ∧ b = true := by cases a <;> cases b <;> first | exact ⟨rfl, rfl⟩ | cases h
theorem block_next {a : DS} {l : List DS} {ρ ρ' : Rho} (h : block (a :: l) ρ = some (ρ', .next)) : ∃ ρ₁, a ρ = some (ρ₁, .next) ∧ block l ρ₁ = some (ρ', .next) := seq_next (a := a) (b := block l) h
theorem block_nil {ρ ρ' : Rho} (h : block [] ρ = some (ρ', .next)) : ρ' = ρ := by cases h; rfl
/-- the law's body answers True -/
theorem law_runs (L : Lay C) (hW : C.P.W = 8 + C.P.script.sum % 1000000) : Runs C 4 T_law (fBody (stm 17)) rA := by
  have h1 := L.h1
  have hlt : C.P.W < 2 ^ 62 := by
    have := Int.emod_lt_of_pos C.P.script.sum (show (0 : Int) < 1000000 by decide)
    rw [hW]; omega
  obtain ⟨wv, hwv, hrd⟩ := wide_val L hW
  have h13 := s_wide L hrd
  obtain ⟨ρ3, eA, g0, g7⟩ := evA_ok (bOf C.P.script)
  replace eA : block [lw0 (oSign (bOf C.P.script)), lw1, lw2] rA = some (ρ3, .next) := eA
  obtain ⟨ρ1, e0, eA⟩ := block_next eA
  obtain ⟨ρ2, e1, eA⟩ := block_next eA
  obtain ⟨ρ3', e2, eA⟩ := block_next eA
  have z := block_nil eA; subst z; clear eA
  obtain ⟨row, far, p, ρ8, eB, k0, k10, k16, hp, hr⟩ := good_told L
  replace eB : block [lw3, lw4, lw5, lw6, lw7] (rB (C.P.at' 10 ++ (C.P.at' 11 ++ C.P.at' 12))) = some (ρ8, .next) := eB
  obtain ⟨ρ4, e3, eB⟩ := block_next eB
  obtain ⟨ρ5, e4, eB⟩ := block_next eB
  obtain ⟨ρ6, e5, eB⟩ := block_next eB
  obtain ⟨ρ7, e6, eB⟩ := block_next eB
  obtain ⟨ρ8', e7, eB⟩ := block_next eB
  have z := block_nil eB; subst z; clear eB
  unfold tR at hr
  split at hr
  rotate_left
  · cases hr
  rename_i r9 eC
  obtain ⟨r8, e8, eC⟩ := block_next eC
  obtain ⟨r9', e9, eC⟩ := block_next eC
  have z := block_nil eC; subst z; clear eC
  have q : ∀ y, y ∉ [17, 18, 19] → y ≠ 20 → get y r9 = get y (rC row far) := fun y a b => (get_asg e9 b).trans (get_multiV e8 a)
  have e10 : lw10 r9 = some (put 22 (.val (encP p)) r9, .next) := by
    rw [lw10_eq]
    exact asg_of ((lw10e_dep (q 10 (by decide) (by decide)) (q 16 (by decide) (by decide))).trans hp)
  split at hr
  rotate_left
  · cases hr
  rename_i r12 eD
  obtain ⟨r11, e11, eD⟩ := block_next eD
  obtain ⟨r12', e12, eD⟩ := block_next eD
  have z := block_nil eD; subst z; clear eD
  obtain ⟨hd1, hr⟩ := and_ok hr
  obtain ⟨hd2, hr⟩ := and_ok hr
  obtain ⟨hd3, hr⟩ := and_ok hr
  have hd : okN (evD wv r12) = true := by rcases hwv with rfl | rfl | rfl <;> assumption
  split at hr
  rotate_left
  · cases hr
  rename_i r' ef
  obtain ⟨ρe, eE⟩ := okR_some hr
  obtain ⟨r15, eG⟩ := okN_some hd
  replace eG : block [lw13 wv, lw14, lw15] r12 = some (r15, .next) := eG
  obtain ⟨r13, e13, eG⟩ := block_next eG
  obtain ⟨r14, e14, eG⟩ := block_next eG
  obtain ⟨r15', e15, eG⟩ := block_next eG
  have z := block_nil eG; subst z; clear eG
  have i14 : r14 = r13 := ifS_next e14
  subst i14
  have i15 : r15 = r14 := ifS_next e15
  subst i15
  rw [law_body]
  refine runs_cons (s_law0 L (s_sign L hlt)) e0 (runs_cons (p_law1 h1 hlt (s_map L) (s_in L)) e1 (runs_cons (p_law2 h1 hlt) e2 (runs_told g0 g7 ?_)))
  refine runs_cons (p_law3 h1 hlt) e3 (runs_cons (p_law4 h1 hlt) e4 (runs_cons (p_law5 h1 hlt (s_paren h1 hlt gen_ok)) e5 (runs_cons (p_law6 h1 hlt) e6 (runs_cons (p_law7 h1 hlt) e7 (runs_weak (ρ' := rC row far) (fun x sl g => ?_) ?_)))))
  · rcases get_rC g with ⟨rfl, rfl⟩ | ⟨rfl, rfl⟩ | ⟨rfl, rfl⟩
    · exact k0
    · exact k10
    · exact k16
  refine runs_cons (p_law8 h1 hlt) e8 (runs_cons (p_law9 h1 hlt) e9 (runs_cons (p_law10 h1 hlt) e10 (runs_cons (p_law11 h1 hlt) e11 (runs_cons (p_law12 h1 hlt) e12 ?_))))
  refine runs_cons (p_law13 h1 hlt h13) e13 (runs_cons (p_law14 h1 hlt) e14 (runs_cons (p_law15 h1 hlt) e15 (runs_weak (ρ' := pickX xsE r') (fun x sl g => ?_) ?_)))
  · obtain ⟨hx, g⟩ := get_pickX g
    rw [freeze23 ef e13 x (fun z => by subst z; exact absurd hx (by decide)) (fun z => by subst z; exact absurd hx (by decide))]
    exact g
  · refine runs_end (den := evE) ?_ eE
    refine semS_cons (p_law16 h1 hlt) (semS_cons (p_law17 h1 hlt) (semS_cons (p_law18 h1 hlt) (semS_cons (p_law19 h1 hlt) (semS_cons (p_law20 h1 hlt) (semS_cons (p_law21 h1 hlt) (semS_cons (p_law22 h1 hlt) semS_nil))))))
end Mine.MI
end
-- MiCl
section
namespace Mine.MI
variable {C : Cx} {n : Nat} {T T' : St}
theorem law_frame : FrOk T_law (fScope (stm 17)) := frOk (by kernel_rfl)
/-- a call of the law -/
theorem law_call (L : Lay C) (hW : C.P.W = 8 + C.P.script.sum % 1000000) {A : Around} (R : Room 5 A) {F : Fn} {s : Shared} (H : Hp C F s) {a : Addr} {o : Obj} {fd : FuncData} (ho : s.heap.get? a = some o) (h2 : o.data = .func fd) (hsc : fd.scope = fScope (stm 17)) (hgl : fd.globals = mainGlobals)
    (hcl : fd.closure = []) (hbo : fd.body = .stmts (fBody (stm 17))) (hbi : fd.builtins = builtinsNs) (hcd : s.heap.CodeRec fd.code fd.qualname) {v : Value} (hbind : bindArgs fd ⟨[v], []⟩ = pure [(T_law.nm 0, v)]) (r : Rd C F .scr v) :
    wpAny C.M A (PySem.call (.ref a) [v]) (fun x s' => x = .bool true ∧ ∃ F', Ev F s F' s' ∧ Hp C F' s') (fun _ _ => False) s := by
  have fr := law_frame
  refine wpAny_call (codeAny_call_function R.limit ho h2 (by rw [hsc]; exact fr.co) (by rw [hsc]; exact fr.gen) hbo hcd (BindsTo.of_eq hbind _ _ _ _ ?_))
  rw [hcl]
  refine wpAny_newFunctionEnv_cells (by rw [hsc]; exact fr.kind) (fun x hx => ?_) fun env he s' x => ?_
  · obtain rfl := List.mem_singleton.mp hx
    rw [hsc]
    rcases (fr.locs 0 (by decide)).2 with q | q
    · exact .inl q
    · exact .inr ⟨q, cellsFrom_some _ _ _ (.inl q)⟩
  have hen : env.scope = fScope (stm 17) ∧ env.globals = mainGlobals ∧ env.builtins = builtinsNs ∧ env.locals = s.heap.objs.size ∧ env.cells = cellsFrom (s.heap.objs.size + 1) (fScope (stm 17)).names [] := by
    rw [he]; exact ⟨hsc, hgl, hbi, rfl, by rw [hsc]; rfl⟩
  obtain ⟨I, v₁, nw⟩ := inv_new (ρ := rA) fr H (by simp) (fun y sl g => by
    unfold rA get at g
    split at g
    · rename_i q
      cases g
      have := Nat.eq_of_beq_eq_true q
      subst this
      exact ⟨(fr.locs 0 (by decide)).1, (fr.locs 0 (by decide)).2, .scr, v, rfl, List.mem_singleton.mpr rfl, r⟩
    · cases g) (fun x a q => by cases q) hen.1 hen.2.1 hen.2.2.1 hen.2.2.2.1 hen.2.2.2.2 x
  refine ⟨C.T.nolimit.keeps fun b o e => x.toInCall.keep b o (H.inn _ _ (H.base _ _ e)), codeAny_func ?_⟩
  refine wpAny_mono (law_runs L hW (A.deeper env) env F _ s' (R.deeper env) I) (fun fl s₂ q => ?_) fun _ _ z => z.elim
  obtain ⟨rfl, F', W', x₂, H₂⟩ := q
  refine ⟨rfl, F', ⟨x₂.sub, fun _ h => h.elim, fun a o q => ?_, fun b o q _ => x₂.keep b o (v₁.keep' _ _ q) fun w => by rw [nw b w] at q; cases q⟩, H₂⟩
  rcases x₂.fok a o q with z | z | z
  · exact .inl z
  · exact .inr (.inr (nw a z))
  · rcases v₁.gone z with z | z
    · exact z.elim
    · exact .inr (.inr z)
end Mine.MI
end
-- MiWk
section
namespace Mine
open MI
theorem at_ok (s : List Int) (j : Nat) : (∀ c ∈ atOf s j, c < 0x110000) ∧ (atOf s j).length ≤ 10 := by
  have hal : ∀ m, alAt m < 13 := fun m => Nat.lt_succ_of_le (alph_le _ (Nat.mod_lt _ (by decide)))
  have wd : ∀ k, k < 8 → (∀ c ∈ words.getD k [], c < 0x110000) ∧ (words.getD k []).length ≤ 10 := by decide
  unfold atOf
  split
  · split
    · exact ⟨fun c hc => by obtain rfl := List.mem_singleton.mp hc; exact uns_lt _ (Nat.mod_lt _ (by decide)), by simp⟩
    · exact ⟨fun c hc => by obtain rfl := List.mem_singleton.mp hc; exact code_lt _ (hal _) _ (Nat.mod_lt _ (by decide)), by simp⟩
  · rw [show (cdAt (mOf s (j - 10))).2 = _ from code_word _ _ (Nat.mod_lt _ (by decide))]
    exact wd _ (Nat.mod_lt _ (by decide))
theorem bind_law {fd : FuncData} (h : fd.params = fArgs (stm 17)) (h1 : fd.defaults = .none) (h2 : fd.kwdefaults = .none) (v : Value) : bindArgs fd ⟨[v], []⟩ = pure [(T_law.nm 0, v)] := by
  cases fd
  cases h
  cases h1
  cases h2
  rfl
theorem walk : WalkO qv lsn (XL qv []) hook.says rr.toRowW dLaw [] fun f vs => PySem.call f vs := by
  intro w s₀ s₁ mg mb G Y fa o pm cd doc dV kV ho hd hcd hD hmg hg args vals as hpre hlay hrd hwl hlo
  have X : (K w.params).In s₁.heap := kIn_of Y
  have TR := topRead_of G.T
  have low := G.low
  wrow_args hpre hlay hrd hwl hlo
  rename_i script h1 h2 h3 h4 h5 a1 a2 la lvs a5 hL h6 h7 h8 hI h9 hlen h10
  have len63 : script.length ≤ 63 := by omega
  let C : Cx := ⟨w, ⟨script, 8 + script.sum % 1000000, nOf script, atOf script⟩, s₁.heap, s₁.os, mg, mb, qv, looseW qv lsn, X, TR, low, fun j => (at_ok script j).1, fun j => (at_ok script j).2, fun _ => none⟩
  have L : Lay C := ⟨rfl, rfl, Nat.le_trans len63 (by decide)⟩
  have H : Hp C s₁.heap.get? s₁ := ⟨fun a o e => e, fun a o e => e, rfl, by rw [hg]; exact AllBare.empty, fun g st e => by cases e⟩
  have R : Room 5 callerA := ⟨rfl, by decide, by decide⟩
  obtain ⟨ol, hol, hlc, m, hld⟩ := hL
  have r : Rd C s₁.heap.get? .scr (.ref la) := by
    simp only [Rd]
    exact ⟨la, ol, _, m, rfl, hol, hlc, hld, hI⟩
  refine wpAny_mono (law_call L rfl R H ho hd (by kernel_rfl) rfl rfl (by kernel_rfl) rfl hcd (bind_law (by kernel_rfl) (hD.none (by kernel_rfl)) hD.noKw _) r) (fun v s' q => ?_) fun _ _ z => z.elim
  obtain ⟨rfl, F', v₁, H'⟩ := q
  exact ⟨.inl ⟨.bool true, .bool true, [], rfl, fun _ => rfl, .bool _, by kernel_rfl, fun _ => ⟨List.nodup_nil, fun _ h => by cases h⟩⟩, OldK.of_keep v₁.keep', H'.os, H'.gens.1⟩
end Mine
end
namespace Mine
theorem chunks_f (w : World) : ∀ j, j < 38 → Chunk (yes false w) j
  | 0, _ => chunk_zero (ch0f w)
  | 1, _ => chunk_succ (by decide) (su1f w) (me1 (yes false w))
  | 2, _ => chunk_succ (by decide) (su2f w) (me2 (yes false w))
  | 3, _ => chunk_succ (by decide) (su3f w) (me3 (yes false w))
  | 4, _ => chunk_succ (by decide) (su4f w) (me4 (yes false w))
  | 5, _ => chunk_succ (by decide) (su5f w) (me5 (yes false w))
  | 6, _ => chunk_succ (by decide) (su6f w) (me6 (yes false w))
  | 7, _ => chunk_succ (by decide) (su7f w) (me7 (yes false w))
  | 8, _ => chunk_succ (by decide) (su8f w) (me8 (yes false w))
  | 9, _ => chunk_succ (by decide) (su9f w) (me9 (yes false w))
  | 10, _ => chunk_succ (by decide) (su10f w) (me10 (yes false w))
  | 11, _ => chunk_succ (by decide) (su11f w) (me11 (yes false w))
  | 12, _ => chunk_succ (by decide) (su12f w) (me12 (yes false w))
  | 13, _ => chunk_succ (by decide) (su13f w) (me13 (yes false w))
  | 14, _ => chunk_succ (by decide) (su14f w) (me14 (yes false w))
  | 15, _ => chunk_succ (by decide) (su15f w) (me15 (yes false w))
  | 16, _ => chunk_succ (by decide) (su16f w) (me16 (yes false w))
  | 17, _ => chunk_succ (by decide) (su17f w) (me17 (yes false w))
  | 18, _ => chunk_succ (by decide) (su18f w) (me18 (yes false w))
  | 19, _ => chunk_succ (by decide) (su19f w) (me19 (yes false w))
  | 20, _ => chunk_succ (by decide) (su20f w) (me20 (yes false w))
  | 21, _ => chunk_succ (by decide) (su21f w) (me21 (yes false w))
  | 22, _ => chunk_succ (by decide) (su22f w) (me22 (yes false w))
  | 23, _ => chunk_succ (by decide) (su23f w) (me23 (yes false w))
  | 24, _ => chunk_succ (by decide) (su24f w) (me24 (yes false w))
  | 25, _ => chunk_succ (by decide) (su25f w) (me25 (yes false w))
  | 26, _ => chunk_succ (by decide) (su26f w) (me26 (yes false w))
  | 27, _ => chunk_succ (by decide) (su27f w) (me27 (yes false w))
  | 28, _ => chunk_succ (by decide) (su28f w) (me28 (yes false w))
  | 29, _ => chunk_succ (by decide) (su29f w) (me29 (yes false w))
  | 30, _ => chunk_succ (by decide) (su30f w) (me30 (yes false w))
  | 31, _ => chunk_succ (by decide) (su31f w) (me31 (yes false w))
  | 32, _ => chunk_succ (by decide) (su32f w) (me32 (yes false w))
  | 33, _ => chunk_succ (by decide) (su33f w) (me33 (yes false w))
  | 34, _ => chunk_succ (by decide) (su34f w) (me34 (yes false w))
  | 35, _ => chunk_succ (by decide) (su35f w) (me35 (yes false w))
  | 36, _ => chunk_succ (by decide) (su36f w) (me36 (yes false w))
  | 37, _ => chunk_succ (by decide) (su37f w) (me37 (yes false w))
  | _ + 38, h => absurd h (by omega)
theorem chunks_t (w : World) : ∀ j, j < 38 → Chunk (yes true w) j
  | 0, _ => chunk_zero (ch0t w)
  | 1, _ => chunk_succ (by decide) (su1t w) (me1 (yes true w))
  | 2, _ => chunk_succ (by decide) (su2t w) (me2 (yes true w))
  | 3, _ => chunk_succ (by decide) (su3t w) (me3 (yes true w))
  | 4, _ => chunk_succ (by decide) (su4t w) (me4 (yes true w))
  | 5, _ => chunk_succ (by decide) (su5t w) (me5 (yes true w))
  | 6, _ => chunk_succ (by decide) (su6t w) (me6 (yes true w))
  | 7, _ => chunk_succ (by decide) (su7t w) (me7 (yes true w))
  | 8, _ => chunk_succ (by decide) (su8t w) (me8 (yes true w))
  | 9, _ => chunk_succ (by decide) (su9t w) (me9 (yes true w))
  | 10, _ => chunk_succ (by decide) (su10t w) (me10 (yes true w))
  | 11, _ => chunk_succ (by decide) (su11t w) (me11 (yes true w))
  | 12, _ => chunk_succ (by decide) (su12t w) (me12 (yes true w))
  | 13, _ => chunk_succ (by decide) (su13t w) (me13 (yes true w))
  | 14, _ => chunk_succ (by decide) (su14t w) (me14 (yes true w))
  | 15, _ => chunk_succ (by decide) (su15t w) (me15 (yes true w))
  | 16, _ => chunk_succ (by decide) (su16t w) (me16 (yes true w))
  | 17, _ => chunk_succ (by decide) (su17t w) (me17 (yes true w))
  | 18, _ => chunk_succ (by decide) (su18t w) (me18 (yes true w))
  | 19, _ => chunk_succ (by decide) (su19t w) (me19 (yes true w))
  | 20, _ => chunk_succ (by decide) (su20t w) (me20 (yes true w))
  | 21, _ => chunk_succ (by decide) (su21t w) (me21 (yes true w))
  | 22, _ => chunk_succ (by decide) (su22t w) (me22 (yes true w))
  | 23, _ => chunk_succ (by decide) (su23t w) (me23 (yes true w))
  | 24, _ => chunk_succ (by decide) (su24t w) (me24 (yes true w))
  | 25, _ => chunk_succ (by decide) (su25t w) (me25 (yes true w))
  | 26, _ => chunk_succ (by decide) (su26t w) (me26 (yes true w))
  | 27, _ => chunk_succ (by decide) (su27t w) (me27 (yes true w))
  | 28, _ => chunk_succ (by decide) (su28t w) (me28 (yes true w))
  | 29, _ => chunk_succ (by decide) (su29t w) (me29 (yes true w))
  | 30, _ => chunk_succ (by decide) (su30t w) (me30 (yes true w))
  | 31, _ => chunk_succ (by decide) (su31t w) (me31 (yes true w))
  | 32, _ => chunk_succ (by decide) (su32t w) (me32 (yes true w))
  | 33, _ => chunk_succ (by decide) (su33t w) (me33 (yes true w))
  | 34, _ => chunk_succ (by decide) (su34t w) (me34 (yes true w))
  | 35, _ => chunk_succ (by decide) (su35t w) (me35 (yes true w))
  | 36, _ => chunk_succ (by decide) (su36t w) (me36 (yes true w))
  | 37, _ => chunk_succ (by decide) (su37t w) (me37 (yes true w))
  | _ + 38, h => absurd h (by omega)
theorem chunks (b : Bool) (h : b = false ∨ b = true) (w : World) (j : Nat) (hj : j < 38) : Chunk (yes b w) j := by
  rcases h with rfl | rfl
  · exact chunks_f w j hj
  · exact chunks_t w j hj
theorem tails (b : Bool) (h : b = false ∨ b = true) (w : World) : Tail (yes b w) := by
  rcases h with rfl | rfl
  · exact taf w
  · exact tat w
end Mine

theorem PySem.Challenge.cw_st0047_01_holds : PySem.Challenge.rw_st0047_01.Holds :=
  Mine.head Mine.chunks Mine.tails Mine.walk
