import PyProof.Rows.All
import Wide.All
import OpenK.AllK
import Wide.FinOn
import Open.Tops
import Lean
import PySem.Challenge.RW_pg0180_01

open PySem PySem.W PyProof.Rows PySem.Calls
set_option Elab.async false
set_option maxRecDepth 100000
namespace Mine
theorem lt_mem {l : List (Addr × Obj)} {d a : Nat} {o : Obj} (h : ∀ p ∈ l, p.1 < d) (hm : (a, o) ∈ l) : a < d := h _ hm
theorem ne_mem {l : List (Addr × Obj)} {d a : Nat} {o : Obj} (h : ∀ p ∈ l, p.1 < d) (hm : (a, o) ∈ l) : a ≠ d := Nat.ne_of_lt (h _ hm)
theorem ne_mem' {l : List (Addr × Obj)} {d a : Nat} {o : Obj} (h : ∀ p ∈ l, p.1 < d) (hm : (a, o) ∈ l) : d ≠ a := Nat.ne_of_gt (h _ hm)
local macro_rules | `(tactic| k_room) => `(tactic| ((simp only [depth_under_make, depth_under_kw, depth_in1, depth_deeper, depth_caller]); (show _ + _ < _); omega))
local macro_rules | `(tactic| k_units) => `(tactic| ktr_units)
local macro_rules | `(tactic| k_ne) => `(tactic| (refine neN ?_; (try dsimp only); first | assumption | exact Ne.symm (by assumption) | exact Nat.ne_of_gt (by assumption) | exact Nat.ne_of_lt (by assumption) | exact ne_mem (by assumption) (by k_mem) | exact ne_mem' (by assumption) (by k_mem)))
local macro_rules | `(tactic| k_lt $_) => `(tactic| skip)

set_option maxHeartbeats 8000000 in
open_shared top for PySem.Challenge.pw_pg0180_01 leaving 0
/-- the objects that the walk asks for -/
noncomputable def KK : Params → Frag := fun P => (nat_lit 2, PySem.W.boot_o_2 P) :: (nat_lit 3, top.o_147 P) :: (nat_lit 20, top.o_12 P) :: (nat_lit 21, top.o_13 P) :: (nat_lit 27, top.o_19 P) :: (nat_lit 28, top.o_20 P) :: (nat_lit 34, top.o_26 P) :: (nat_lit 35, top.o_27 P) :: (nat_lit 41, top.o_33 P) :: (nat_lit 42, top.o_34 P) :: (nat_lit 48, top.o_40 P) :: (nat_lit 49, top.o_41 P) :: (nat_lit 55, top.o_47 P) :: (nat_lit 56, top.o_48 P) :: (nat_lit 62, top.o_54 P) :: (nat_lit 63, top.o_55 P) :: (nat_lit 69, top.o_61 P) :: (nat_lit 70, top.o_62 P) :: (nat_lit 76, top.o_68 P) :: (nat_lit 77, top.o_69 P) :: (nat_lit 83, top.o_75 P) :: (nat_lit 84, top.o_76 P) :: (nat_lit 90, top.o_82 P) :: (nat_lit 91, top.o_83 P) :: (nat_lit 97, top.o_89 P) :: (nat_lit 98, top.o_90 P) :: (nat_lit 104, top.o_99 P) :: (nat_lit 105, top.o_100 P) :: (nat_lit 111, top.o_106 P) :: (nat_lit 112, top.o_107 P) :: (nat_lit 118, top.o_113 P) :: (nat_lit 119, top.o_114 P) :: (nat_lit 125, top.o_120 P) :: (nat_lit 126, top.o_121 P) :: (nat_lit 132, top.o_127 P) :: (nat_lit 133, top.o_128 P) :: (nat_lit 139, top.o_134 P) :: (nat_lit 140, top.o_135 P) :: (nat_lit 141, top.o_141 P) :: (nat_lit 149, top.o_154 P) :: (nat_lit 150, top.o_155 P) :: (nat_lit 154, top.o_159 P) :: (nat_lit 155, top.o_160 P) :: (nat_lit 161, top.o_166 P) :: (nat_lit 162, top.o_167 P) :: (nat_lit 168, top.o_173 P) :: (nat_lit 169, top.o_174 P) :: (nat_lit 175, top.o_180 P) :: (nat_lit 176, top.o_181 P) :: (nat_lit 182, top.o_187 P) :: (nat_lit 183, top.o_188 P) :: (nat_lit 189, top.o_194 P) :: (nat_lit 190, top.o_195 P) :: (nat_lit 194, top.o_199 P) :: (nat_lit 195, top.o_200 P) :: (nat_lit 199, top.o_204 P) :: (nat_lit 200, top.o_205 P) :: []
/-- the heap behind the top -/
noncomputable def H1 : Params → Heap := fun P => Heap.mk (Array.mk (PySem.W.boot_o_0 P :: PySem.W.boot_o_1 P :: PySem.W.boot_o_2 P :: top.o_147 P :: PySem.W.boot_o_4 P :: PySem.W.boot_o_5 P :: PySem.W.boot_o_6 P :: PySem.W.boot_o_7 P :: PySem.W.boot_o_8 P :: PySem.W.boot_o_9 P :: PySem.W.boot_o_10 P :: top.o_1 P :: top.o_148 P :: top.o_3 P :: top.o_4 P :: top.o_7 P :: top.o_8 P :: top.o_9 P :: top.o_10 P :: top.o_11 P :: top.o_12 P :: top.o_13 P :: top.o_14 P :: top.o_15 P :: top.o_16 P :: top.o_17 P :: top.o_18 P :: top.o_19 P :: top.o_20 P :: top.o_21 P :: top.o_22 P :: top.o_23 P :: top.o_24 P :: top.o_25 P :: top.o_26 P :: top.o_27 P :: top.o_28 P :: top.o_29 P :: top.o_30 P :: top.o_31 P :: top.o_32 P :: top.o_33 P :: top.o_34 P :: top.o_35 P :: top.o_36 P :: top.o_37 P :: top.o_38 P :: top.o_39 P :: top.o_40 P :: top.o_41 P :: top.o_42 P :: top.o_43 P :: top.o_44 P :: top.o_45 P :: top.o_46 P :: top.o_47 P :: top.o_48 P :: top.o_49 P :: top.o_50 P :: top.o_51 P :: top.o_52 P :: top.o_53 P :: top.o_54 P :: top.o_55 P :: top.o_56 P :: top.o_57 P :: top.o_58 P :: top.o_59 P :: top.o_60 P :: top.o_61 P :: top.o_62 P :: top.o_63 P :: top.o_64 P :: top.o_65 P :: top.o_66 P :: top.o_67 P :: top.o_68 P :: top.o_69 P :: top.o_70 P :: top.o_71 P :: top.o_72 P :: top.o_73 P :: top.o_74 P :: top.o_75 P :: top.o_76 P :: top.o_77 P :: top.o_78 P :: top.o_79 P :: top.o_80 P :: top.o_81 P :: top.o_82 P :: top.o_83 P :: top.o_84 P :: top.o_85 P :: top.o_86 P :: top.o_87 P :: top.o_88 P :: top.o_89 P :: top.o_90 P :: top.o_94 P :: top.o_95 P :: top.o_96 P :: top.o_97 P :: top.o_98 P :: top.o_99 P :: top.o_100 P :: top.o_101 P :: top.o_102 P :: top.o_103 P :: top.o_104 P :: top.o_105 P :: top.o_106 P :: top.o_107 P :: top.o_108 P :: top.o_109 P :: top.o_110 P :: top.o_111 P :: top.o_112 P :: top.o_113 P :: top.o_114 P :: top.o_115 P :: top.o_116 P :: top.o_117 P :: top.o_118 P :: top.o_119 P :: top.o_120 P :: top.o_121 P :: top.o_122 P :: top.o_123 P :: top.o_124 P :: top.o_125 P :: top.o_126 P :: top.o_127 P :: top.o_128 P :: top.o_129 P :: top.o_130 P :: top.o_131 P :: top.o_132 P :: top.o_133 P :: top.o_134 P :: top.o_135 P :: top.o_141 P :: top.o_142 P :: top.o_143 P :: top.o_149 P :: top.o_150 P :: top.o_151 P :: top.o_152 P :: top.o_153 P :: top.o_154 P :: top.o_155 P :: top.o_156 P :: top.o_157 P :: top.o_158 P :: top.o_159 P :: top.o_160 P :: top.o_161 P :: top.o_162 P :: top.o_163 P :: top.o_164 P :: top.o_165 P :: top.o_166 P :: top.o_167 P :: top.o_168 P :: top.o_169 P :: top.o_170 P :: top.o_171 P :: top.o_172 P :: top.o_173 P :: top.o_174 P :: top.o_175 P :: top.o_176 P :: top.o_177 P :: top.o_178 P :: top.o_179 P :: top.o_180 P :: top.o_181 P :: top.o_182 P :: top.o_183 P :: top.o_184 P :: top.o_185 P :: top.o_186 P :: top.o_187 P :: top.o_188 P :: top.o_189 P :: top.o_190 P :: top.o_191 P :: top.o_192 P :: top.o_193 P :: top.o_194 P :: top.o_195 P :: top.o_196 P :: top.o_197 P :: top.o_198 P :: top.o_199 P :: top.o_200 P :: top.o_201 P :: top.o_202 P :: top.o_203 P :: top.o_204 P :: top.o_205 P :: [])) {}
/-- the program's last def alone -/
def Q0 : Program := { PySem.Challenge.pw_pg0180_01 with main := { PySem.Challenge.pw_pg0180_01.main with body := PySem.Challenge.pw_pg0180_01.main.body.drop 79 } }
def LS : List Str := [Str.ofString "add", Str.ofString "and_", Str.ofString "inv", Str.ofString "mul", Str.ofString "or_", Str.ofString "sub", Str.ofString "xor", Str.ofString "contains", Str.ofString "getitem", Str.ofString "indexOf", Str.ofString "setitem", Str.ofString "iadd", Str.ofString "iand", Str.ofString "ilshift", Str.ofString "imul", Str.ofString "ior", Str.ofString "isub", Str.ofString "ixor", Str.ofString "LPAR", Str.ofString "RPAR", Str.ofString "LSQB", Str.ofString "RSQB", Str.ofString "COLON", Str.ofString "COMMA", Str.ofString "SEMI", Str.ofString "PLUS", Str.ofString "MINUS", Str.ofString "STAR", Str.ofString "SLASH", Str.ofString "VBAR", Str.ofString "AMPER", Str.ofString "LESS", Str.ofString "GREATER", Str.ofString "EQUAL", Str.ofString "DOT", Str.ofString "PERCENT", Str.ofString "LBRACE", Str.ofString "RBRACE", Str.ofString "EQEQUAL", Str.ofString "NOTEQUAL", Str.ofString "LESSEQUAL", Str.ofString "GREATEREQUAL", Str.ofString "TILDE", Str.ofString "CIRCUMFLEX", Str.ofString "LEFTSHIFT", Str.ofString "RIGHTSHIFT", Str.ofString "DOUBLESTAR", Str.ofString "PLUSEQUAL", Str.ofString "MINEQUAL", Str.ofString "STAREQUAL", Str.ofString "SLASHEQUAL", Str.ofString "PERCENTEQUAL", Str.ofString "AMPEREQUAL", Str.ofString "VBAREQUAL", Str.ofString "CIRCUMFLEXEQUAL", Str.ofString "LEFTSHIFTEQUAL", Str.ofString "RIGHTSHIFTEQUAL", Str.ofString "DOUBLESTAREQUAL", Str.ofString "DOUBLESLASH", Str.ofString "DOUBLESLASHEQUAL", Str.ofString "AT", Str.ofString "ATEQUAL", Str.ofString "RARROW", Str.ofString "ELLIPSIS", Str.ofString "COLONEQUAL", Str.ofString "EXCLAMATION", Str.ofString "NT_OFFSET", Str.ofString "EXACT_TOKEN_TYPES", Str.ofString "ISNONTERMINAL", Str.ofString "_law_words", Str.ofString "_law_deed", Str.ofString "_law_run", Str.ofString "_law_woven", Str.ofString "_law_statement", Str.ofString "_law_plain", Str.ofString "_law_agree"]
abbrev AS : List Addr := nat_lit 2 :: nat_lit 3 :: nat_lit 20 :: nat_lit 21 :: nat_lit 27 :: nat_lit 28 :: nat_lit 34 :: nat_lit 35 :: nat_lit 41 :: nat_lit 42 :: nat_lit 48 :: nat_lit 49 :: nat_lit 55 :: nat_lit 56 :: nat_lit 62 :: nat_lit 63 :: nat_lit 69 :: nat_lit 70 :: nat_lit 76 :: nat_lit 77 :: nat_lit 83 :: nat_lit 84 :: nat_lit 90 :: nat_lit 91 :: nat_lit 97 :: nat_lit 98 :: nat_lit 104 :: nat_lit 105 :: nat_lit 111 :: nat_lit 112 :: nat_lit 118 :: nat_lit 119 :: nat_lit 125 :: nat_lit 126 :: nat_lit 132 :: nat_lit 133 :: nat_lit 139 :: nat_lit 140 :: nat_lit 141 :: nat_lit 149 :: nat_lit 150 :: nat_lit 154 :: nat_lit 155 :: nat_lit 161 :: nat_lit 162 :: nat_lit 168 :: nat_lit 169 :: nat_lit 175 :: nat_lit 176 :: nat_lit 182 :: nat_lit 183 :: nat_lit 189 :: nat_lit 190 :: nat_lit 194 :: nat_lit 195 :: nat_lit 199 :: nat_lit 200 :: []
theorem as_is : ∀ P, AS = (KK P).map (·.1) := fun _ => by kernel_rfl
noncomputable abbrev HK : Hook := kHook KK AS as_is
noncomputable abbrev SB (w : World) (os : OsState) : Shared := SharedT.abs ⟨top.tree_4 w.params, 15, {}, Array.mk [], {}, 187, os⟩
theorem pre1 (w : World) (os : OsState) : topGo treeTable PySem.Challenge.rw_pg0180_01.row.toRowW.prog w 11 (some (.ref 6)) 12 ⟨boot_heap w.params, Array.mk [], boot_drawn, boot_toks, os⟩ (topStub PySem.Challenge.rw_pg0180_01.row.toRowW.prog) = some (SB w os, ⟨denote treeTable (.body (behindTheImports PySem.Challenge.rw_pg0180_01.row.toRowW.prog) top.env_1), .body (behindTheImports PySem.Challenge.rw_pg0180_01.row.toRowW.prog) top.env_1, ⟨0, 0, 0, 0⟩, [topFrame ⟨0, 0, 0, 0⟩]⟩) := by kernel_rfl
theorem block1 (w : World) (os : OsState) : segRun treeTable PySem.Challenge.rw_pg0180_01.row.toRowW.prog w 11 (some (.ref 6)) 1 1 (SB w os) (blockOf (behindTheImports PySem.Challenge.rw_pg0180_01.row.toRowW.prog) top.env_1 (.body (behindTheImports PySem.Challenge.rw_pg0180_01.row.toRowW.prog) top.env_1) ⟨0, 0, 0, 0⟩ [topFrame ⟨0, 0, 0, 0⟩]) = some (.next, SB w os, .body (behindTheImports PySem.Challenge.rw_pg0180_01.row.toRowW.prog) top.env_1, ⟨0, 0, 0, 0⟩) := by kernel_rfl
theorem fin1 (w : World) (os : OsState) : topRun treeTable PySem.Challenge.rw_pg0180_01.row.toRowW.prog w 11 (some (.ref 6)) 2 (SharedT.abs ⟨top.tree_205 w.params, 201, {}, Array.mk [], {}, 620, os⟩) (restOf [] top.env_1 (.body (behindTheImports PySem.Challenge.rw_pg0180_01.row.toRowW.prog) top.env_1) ⟨177, 0, 180, 75⟩ [topFrame ⟨0, 0, 0, 0⟩]) = some ⟨H1 w.params, Array.mk [], {}, 620, os⟩ := by kernel_rfl
theorem body1 : top.sts_4 ++ (top.sts_92 ++ (top.sts_137 ++ (top.sts_140 ++ (top.sts_147 ++ [])))) = behindTheImports PySem.Challenge.rw_pg0180_01.row.toRowW.prog := by kernel_rfl
theorem run1 (w : World) (os : OsState) : topRun treeTable PySem.Challenge.rw_pg0180_01.row.toRowW.prog w 11 (some (.ref 6)) (Nat.add 12 (Nat.add 1 (Nat.add 372 (Nat.add 397 (Nat.add 235 (Nat.add 979 (Nat.add 288 2))))))) ⟨boot_heap w.params, Array.mk [], boot_drawn, boot_toks, os⟩ (topStub PySem.Challenge.rw_pg0180_01.row.toRowW.prog) = some ⟨H1 w.params, Array.mk [], {}, 620, os⟩ := by
  have k := top.chain PySem.Challenge.rw_pg0180_01.row.toRowW.prog (behindTheImports PySem.Challenge.rw_pg0180_01.row.toRowW.prog) w os [] 2 _ (fin1 w os)
  rw [body1] at k
  exact go_top (n := 12) (pre1 w os) (piece_block (n := 1) (block1 w os) k)
theorem left1 : LeftO PySem.Challenge.rw_pg0180_01.row.toRowW.prog Q0 LS (fun s => xlAt Q0 [] s && recOk (RowW.records PySem.Challenge.rw_pg0180_01.row.toRowW) s) HK.obs HK.val 4658 :=
  LeftO.of_pieces (boot_open (by kernel_rfl) (by decide) (fun _ => by kernel_rfl)) (fun _ => by kernel_rfl) run1 (by decide +kernel) (fun _ => by kernel_rfl)

theorem fit2 {d a c N : Nat} (h : d + c < N) (e : a ≤ c) : d + a < N := Nat.lt_of_le_of_lt (Nat.add_le_add_left e d) h
theorem fit3 {d a b c N : Nat} (h : d + c < N) (e : a + b ≤ c) : d + a + b < N := by rw [Nat.add_assoc]; exact fit2 h e
/-- the end of a called def: what the caller gets -/
def EndC (R : Result → Shared → Prop) (v : Value) (s' : Shared) : Prop := R (.ok (.ret v)) s'

section
variable {pr : Program} {w : World} {A A₀ : Around} {s : Shared} {K : Frag} {L : Addr} {h₀ base : Heap} {m mg mb : Str → Option Value} {p : Program} {loose : List Str} {mean : ExcName → Option Value}

/-- a def is entered, the heap at the call is kept whole -/
theorem code_def0 {env : Env} {outer : List Env} {R : Result → Shared → Prop} {name qual : Str} {params : Arguments} {body : List Stmt} {scope : Scope} {dV kV doc pm cdv ct oc : Value} {an od : Option Addr} {osl : Array (Option Value)} {f : Addr} {args : Args} {binds : List (Str × Value)}
    (B : Below A₀ base outer h₀) (F : Fr h₀ L s.heap m) (X₀ : K.In h₀) (T : Top p loose mean mg mb h₀) (hA : A.frames = some (env :: outer)) (hf : env.frame = some L) (hke : env.scope.kind = .function)
    (ho : K.lookup f = some ⟨oc, od, .func (fnOf name qual params body scope dV kV doc pm an cdv ct), osl⟩) (hcd : codeIn K cdv qual = true) (hroom : A.depth < recursionLimit)
    (hbind : BindsTo s (fnOf name qual params body scope dV kV doc pm an cdv ct) args binds) (hloc : ∀ y ∈ binds, scope.names.lookup y.1 = some .local)
    (h : ∀ L' h₁, Fr s.heap L' h₁ (fun y => binds.reverse.lookup y) → News s.heap L' h₁ [] → Below A base (env :: outer) s.heap → K.In s.heap → Top p loose mean mg mb s.heap →
      wpAny (model pr w) (A.deeper (envOf qual scope L' f cdv)) (execs body (envOf qual scope L' f cdv))
        (fun fl s' => EndC R (match fl with | .ret v => v | _ => .none) s')
        (fun e s' => wpAny (model pr w) (A.deeper (envOf qual scope L' f cdv)) («leaving» (envOf qual scope L' f cdv) e) (fun _ s'' => R (.error e) s'') (fun e' s'' => R (.error e') s'') s')
        { s with heap := h₁, toks := s.toks + binds.length })
    (hco : scope.isCoroutine = false) (hgen : scope.isGenerator = false) (hk : scope.kind = .function)
    (hcell : ∀ x ∈ scope.names, x.2 ≠ .cell) : codeAny (model pr w) A (.call (.ref f) args) R s := by
  obtain ⟨_, BG, st, _⟩ := groundX (R := R) B F (News.nil) hA hf hke
  refine codeAny_call_def (fd := fnX name qual params body scope [] dV kV doc pm an cdv ct) (body := body) (binds := binds) hroom ((X₀.keeps F.keep) _ _ ho) rfl (T.nolimit.keeps F.keep) (codeRec_of (X₀.keeps F.keep) hcd) rfl hbind hcell hloc (fun h₁ hns hk₁ => ?_) hco hgen hk
  exact h s.heap.objs.size h₁ ⟨hns, fun b o e => hk₁ b o e, Nat.le_refl _⟩ News.nil BG (X₀.keeps F.keep) (T.keeps st)

/-- the same for a def that has cells -/
theorem code_defC0 {env : Env} {outer : List Env} {R : Result → Shared → Prop} {name qual : Str} {params : Arguments} {body : List Stmt} {scope : Scope} {dV kV doc pm cdv ct oc : Value} {an od : Option Addr} {osl : Array (Option Value)} {f : Addr} {args : Args} {binds : List (Str × Value)}
    (B : Below A₀ base outer h₀) (F : Fr h₀ L s.heap m) (X₀ : K.In h₀) (T : Top p loose mean mg mb h₀) (hA : A.frames = some (env :: outer)) (hf : env.frame = some L) (hke : env.scope.kind = .function)
    (ho : K.lookup f = some ⟨oc, od, .func (fnOf name qual params body scope dV kV doc pm an cdv ct), osl⟩) (hcd : codeIn K cdv qual = true) (hroom : A.depth < recursionLimit)
    (hbind : BindsTo s (fnOf name qual params body scope dV kV doc pm an cdv ct) args binds) (hkind : (binds.all fun y => scope.names.lookup y.1 == some .local || scope.names.lookup y.1 == some .cell) = true)
    (hnd : ((cellsFrom 0 scope.names []).map (·.1)).Nodup)
    (h : ∀ L' h₁ tk cells, Fr s.heap L' h₁ (bindL (envOfC qual scope L' f cdv).kindOf binds fun _ => none) → News s.heap L' h₁ (cells ++ []) →
      CellsAre (bindC (envOfC qual scope L' f cdv).kindOf binds fun _ => none) (cellsFrom (L' + 1) scope.names []) cells → Below A base (env :: outer) s.heap → K.In s.heap → Top p loose mean mg mb s.heap →
      wpAny (model pr w) (A.deeper (envOfC qual scope L' f cdv)) (execs body (envOfC qual scope L' f cdv))
        (fun fl s' => EndC R (match fl with | .ret v => v | _ => .none) s')
        (fun e s' => wpAny (model pr w) (A.deeper (envOfC qual scope L' f cdv)) («leaving» (envOfC qual scope L' f cdv) e) (fun _ s'' => R (.error e) s'') (fun e' s'' => R (.error e') s'') s')
        { s with heap := h₁, toks := tk })
    (hco : scope.isCoroutine = false) (hgen : scope.isGenerator = false) (hk : scope.kind = .function) : codeAny (model pr w) A (.call (.ref f) args) R s := by
  obtain ⟨_, BG, st, _⟩ := groundX (R := R) B F (News.nil) hA hf hke
  refine codeAny_call_function hroom ((X₀.keeps F.keep) _ _ ho) rfl hco hgen rfl (codeRec_of (X₀.keeps F.keep) hcd) (hbind _ _ _ _ ?_)
  refine wpAny_newFunctionEnv_cells hk ((kindsX hkind) _) fun env' he s' x => ?_
  subst he
  refine ⟨(T.nolimit.keeps F.keep).keeps x.toInCall.keep, codeAny_func ?_⟩
  obtain ⟨h₁, tk, rfl, _⟩ := x.done
  have hk₁ := x.toInCall.keep
  obtain ⟨cells, NC, Y⟩ := Cl.news (h₀ := s.heap) (Nat.le_refl _) fun n c hm => ⟨x.cell n c (lookup_of_mem_nodup (cellsFrom_names scope.names 0 (s.heap.objs.size + 1) [] [] rfl ▸ hnd) hm), x.above n c hm⟩
  exact h s.heap.objs.size h₁ tk cells ⟨x.toInCall.ns, fun b o e => hk₁ b o e, Nat.le_refl _⟩ (by rw [List.append_nil]; exact NC) Y BG (X₀.keeps F.keep) (T.keeps st)
end

/-- a called def: what it asks of the heap and its arguments, what it gives back -/
def Claim (w : World) (f : Addr) (need : Nat) (vs : List Value) (Pre : Shared → Prop) (Post : Heap → Heap → Value → Prop) : Prop :=
  ∀ (mean : ExcName → Option Value) (mg mb : Str → Option Value) (dp un : Nat) (gd : Option (List Code)) (cn : Str) (cs : Scope) (a : Addr) (ccd : Value) (cl : List (Str × Addr)) (outer : List Env) (A₀ : Around) (base h₀ : Heap) (L : Addr) (m : Str → Option Value) (s : Shared) (Q E : Value → Shared → Prop),
    Below A₀ base outer h₀ → Fr h₀ L s.heap m → (KK w.params).In h₀ → Top Q0 (looseW Q0 LS) mean mg mb h₀ → cs.kind = .function → dp + need < recursionLimit → un + 8 * need < cLine → Pre s →
    (∀ v h' tk', s.heap.StaysIn h' → Post s.heap h' v → Q v { s with heap := h', toks := tk' }) →
    wpAny (model PySem.Challenge.rw_pg0180_01.row.prog w) (ktrTop dp un gd cn cs L a ccd cl outer) (call (.ref f) vs) Q E s


def deed (k a b : Int) : Int := if k = 36 then a + b else if k = 37 then a - b else if k = 38 then a * b else if k = 41 then Builtin.bitAnd a b else if k = 42 then Builtin.bitOr a b else if k = 43 then Builtin.bitXor a b else a * 2 ^ b.toNat

set_option maxHeartbeats 4000000 in
theorem deed_tells (w : World) (k a b : Int) (t1 t2 t3 : Tok) (hm : k = 38 → IntMulOk a b) (hs : k = 44 → 0 ≤ b ∧ (Builtin.Int.intBits a : Int) + b ≤ 2 ^ 27) (hk : k = 36 ∨ k = 37 ∨ k = 38 ∨ k = 41 ∨ k = 42 ∨ k = 43 ∨ k = 44) :
    Claim w 162 2 [.int k t1, .int a t2, .int b t3] (fun _ => True) (fun _ _ v => ∃ t, v = .int (deed k a b) t) := by
  unfold Claim; k_fill; intro mean mg mb dp un gd cn cs ad ccd cl outer A₀ base h₀ L m s Q E B F X T hkf hd hu hp hret; refine wpAny_call ?_; k_dflt (refine' code_def0 ?k1 ?k2 ?k3 ?k5 ?kA ?kF ?kK ?k6 ?k7 ?k8 ?k9 ?kB ?_ ?c2 ?c3 ?c4 ?c5; (case kA => exact rfl); (case kF => exact rfl); (case kK => assumption); (case k1 => k_asm); (case k2 => k_asm); (case k3 => k_asm); (case k5 => k_asm); (case k6 => k_is); (case k7 => k_is); (case k8 => first | exact Nat.lt_of_le_of_lt (Nat.le_add_right dp _) hd | exact fit2 hd (by decide) | exact fit3 hd (by decide) | (trace "ROOM8"; trace_state; ktr_room)); (case k9 => exact BindsTo.of_eq (binds := [(Str.ofString "kind", .int k t1), (Str.ofString "one", .int a t2), (Str.ofString "two", .int b t3)]) rfl); (case c5 => decide); (case kB => exact locs rfl); (case c2 => exact rfl); (case c3 => exact rfl); (case c4 => exact rfl); k_whole; intro L' h' F' N' B' X' T'; (try dsimp only); (try k_lift B'); (try k_fold)); repeat' (first | ((with_reducible show wpAny _ _ (inplaceOp Operator.Mult _ _) _ _ _); (refine P.imul_int ?_ (hm (by assumption)))) | ((with_reducible show wpAny _ _ (inplaceOp Operator.LShift _ _) _ _ _); (refine ilshift_int (hs (by simp_all only [false_or])).1 (hs (by simp_all only [false_or])).2 ?_)) | (k_unfold; (try dsimp only)) | (k_gentoks; (try dsimp only)) | (k_end; wrow_close) | walk1 | (dsimp only; walk1) | (leave1; try dsimp only))
  all_goals (refine hret (Value.int _ _) _ _ ?_ ⟨_, congrArg (fun z => Value.int z _) ?_⟩; focus exact fun b o e => Fr.keep (by assumption) b o e)
  all_goals (clear hret; simp only [deed, *, if_true, if_false, ite_true, ite_false, reduceIte]; try rfl)

def tokD : List (Str × KTD.Dat) := ([("!", 54), ("!=", 28), ("%", 24), ("%=", 40), ("&", 19), ("&=", 41), ("(", 7), (")", 8), ("*", 16), ("**", 35), ("**=", 46), ("*=", 38), ("+", 14), ("+=", 36), (",", 12), ("-", 15), ("-=", 37), ("->", 51), (".", 23), ("...", 52), ("/", 17), ("//", 47), ("//=", 48), ("/=", 39), (":", 11), (":=", 53), (";", 13), ("<", 20), ("<<", 33), ("<<=", 44), ("<=", 29), ("=", 22), ("==", 27), (">", 21), (">=", 30), (">>", 34), (">>=", 45), ("@", 49), ("@=", 50), ("[", 9), ("]", 10), ("^", 32), ("^=", 43), ("{", 25), ("|", 18), ("|=", 42), ("}", 26), ("~", 31)] : List (String × Int)).map fun p => (Str.ofString p.1, KTD.Dat.flat (.int p.2))

theorem tokTab {w : World} {h : Heap} (X : (KK w.params).In h) : KTD.TextTab h 141 tokD := kt_text_in X (by kernel_rfl)


set_option maxHeartbeats 4000000
section
variable (w : World) (a b : Int) (t u : Tok)
theorem add_tells : Claim w 21 1 [.int a t, .int b u] (fun _ => True) (fun _ _ v => ∃ t, v = .int (a + b) t) := by
  unfold Claim; k_fill; intro mean mg mb dp un gd cn cs ad ccd cl outer A₀ base h₀ L m s Q E B F X T hkf hd hu hp hret; refine wpAny_call ?_; k_dflt (refine' code_def0 ?k1 ?k2 ?k3 ?k5 ?kA ?kF ?kK ?k6 ?k7 ?k8 ?k9 ?kB ?_ ?c2 ?c3 ?c4 ?c5; (case kA => exact rfl); (case kF => exact rfl); (case kK => assumption); (case k1 => k_asm); (case k2 => k_asm); (case k3 => k_asm); (case k5 => k_asm); (case k6 => k_is); (case k7 => k_is); (case k8 => first | exact Nat.lt_of_le_of_lt (Nat.le_add_right dp _) hd | exact fit2 hd (by decide) | exact fit3 hd (by decide) | (trace "ROOM8"; trace_state; ktr_room)); (case k9 => exact BindsTo.of_eq (binds := [(Str.ofString "a", .int a t), (Str.ofString "b", .int b u)]) rfl); (case c5 => decide); (case kB => exact locs rfl); (case c2 => exact rfl); (case c3 => exact rfl); (case c4 => exact rfl); k_whole; intro L' h' F' N' B' X' T'; (try dsimp only); (try k_lift B'); (try k_fold)); repeat' (first | (k_unfold; (try dsimp only)) | (k_gentoks; (try dsimp only)) | (k_end; wrow_close) | walk1 | (dsimp only; walk1) | (leave1; try dsimp only))
  refine hret _ _ _ (fun b o e => Fr.keep (by assumption) b o e) ?_; exact ⟨_, rfl⟩
theorem and_tells : Claim w 28 1 [.int a t, .int b u] (fun _ => True) (fun _ _ v => ∃ t, v = .int (Builtin.bitAnd a b) t) := by
  unfold Claim; k_fill; intro mean mg mb dp un gd cn cs ad ccd cl outer A₀ base h₀ L m s Q E B F X T hkf hd hu hp hret; refine wpAny_call ?_; k_dflt (refine' code_def0 ?k1 ?k2 ?k3 ?k5 ?kA ?kF ?kK ?k6 ?k7 ?k8 ?k9 ?kB ?_ ?c2 ?c3 ?c4 ?c5; (case kA => exact rfl); (case kF => exact rfl); (case kK => assumption); (case k1 => k_asm); (case k2 => k_asm); (case k3 => k_asm); (case k5 => k_asm); (case k6 => k_is); (case k7 => k_is); (case k8 => first | exact Nat.lt_of_le_of_lt (Nat.le_add_right dp _) hd | exact fit2 hd (by decide) | exact fit3 hd (by decide) | (trace "ROOM8"; trace_state; ktr_room)); (case k9 => exact BindsTo.of_eq (binds := [(Str.ofString "a", .int a t), (Str.ofString "b", .int b u)]) rfl); (case c5 => decide); (case kB => exact locs rfl); (case c2 => exact rfl); (case c3 => exact rfl); (case c4 => exact rfl); k_whole; intro L' h' F' N' B' X' T'; (try dsimp only); (try k_lift B'); (try k_fold)); repeat' (first | (k_unfold; (try dsimp only)) | (k_gentoks; (try dsimp only)) | (k_end; wrow_close) | walk1 | (dsimp only; walk1) | (leave1; try dsimp only))
  refine hret _ _ _ (fun b o e => Fr.keep (by assumption) b o e) ?_; exact ⟨_, rfl⟩
theorem or_tells : Claim w 49 1 [.int a t, .int b u] (fun _ => True) (fun _ _ v => ∃ t, v = .int (Builtin.bitOr a b) t) := by
  unfold Claim; k_fill; intro mean mg mb dp un gd cn cs ad ccd cl outer A₀ base h₀ L m s Q E B F X T hkf hd hu hp hret; refine wpAny_call ?_; k_dflt (refine' code_def0 ?k1 ?k2 ?k3 ?k5 ?kA ?kF ?kK ?k6 ?k7 ?k8 ?k9 ?kB ?_ ?c2 ?c3 ?c4 ?c5; (case kA => exact rfl); (case kF => exact rfl); (case kK => assumption); (case k1 => k_asm); (case k2 => k_asm); (case k3 => k_asm); (case k5 => k_asm); (case k6 => k_is); (case k7 => k_is); (case k8 => first | exact Nat.lt_of_le_of_lt (Nat.le_add_right dp _) hd | exact fit2 hd (by decide) | exact fit3 hd (by decide) | (trace "ROOM8"; trace_state; ktr_room)); (case k9 => exact BindsTo.of_eq (binds := [(Str.ofString "a", .int a t), (Str.ofString "b", .int b u)]) rfl); (case c5 => decide); (case kB => exact locs rfl); (case c2 => exact rfl); (case c3 => exact rfl); (case c4 => exact rfl); k_whole; intro L' h' F' N' B' X' T'; (try dsimp only); (try k_lift B'); (try k_fold)); repeat' (first | (k_unfold; (try dsimp only)) | (k_gentoks; (try dsimp only)) | (k_end; wrow_close) | walk1 | (dsimp only; walk1) | (leave1; try dsimp only))
  refine hret _ _ _ (fun b o e => Fr.keep (by assumption) b o e) ?_; exact ⟨_, rfl⟩
theorem xor_tells : Claim w 63 1 [.int a t, .int b u] (fun _ => True) (fun _ _ v => ∃ t, v = .int (Builtin.bitXor a b) t) := by
  unfold Claim; k_fill; intro mean mg mb dp un gd cn cs ad ccd cl outer A₀ base h₀ L m s Q E B F X T hkf hd hu hp hret; refine wpAny_call ?_; k_dflt (refine' code_def0 ?k1 ?k2 ?k3 ?k5 ?kA ?kF ?kK ?k6 ?k7 ?k8 ?k9 ?kB ?_ ?c2 ?c3 ?c4 ?c5; (case kA => exact rfl); (case kF => exact rfl); (case kK => assumption); (case k1 => k_asm); (case k2 => k_asm); (case k3 => k_asm); (case k5 => k_asm); (case k6 => k_is); (case k7 => k_is); (case k8 => first | exact Nat.lt_of_le_of_lt (Nat.le_add_right dp _) hd | exact fit2 hd (by decide) | exact fit3 hd (by decide) | (trace "ROOM8"; trace_state; ktr_room)); (case k9 => exact BindsTo.of_eq (binds := [(Str.ofString "a", .int a t), (Str.ofString "b", .int b u)]) rfl); (case c5 => decide); (case kB => exact locs rfl); (case c2 => exact rfl); (case c3 => exact rfl); (case c4 => exact rfl); k_whole; intro L' h' F' N' B' X' T'; (try dsimp only); (try k_lift B'); (try k_fold)); repeat' (first | (k_unfold; (try dsimp only)) | (k_gentoks; (try dsimp only)) | (k_end; wrow_close) | walk1 | (dsimp only; walk1) | (leave1; try dsimp only))
  refine hret _ _ _ (fun b o e => Fr.keep (by assumption) b o e) ?_; exact ⟨_, rfl⟩
theorem sub_tells : Claim w 56 1 [.int a t, .int b u] (fun _ => True) (fun _ _ v => ∃ t, v = .int (a - b) t) := by
  unfold Claim; k_fill; intro mean mg mb dp un gd cn cs ad ccd cl outer A₀ base h₀ L m s Q E B F X T hkf hd hu hp hret; refine wpAny_call ?_; k_dflt (refine' code_def0 ?k1 ?k2 ?k3 ?k5 ?kA ?kF ?kK ?k6 ?k7 ?k8 ?k9 ?kB ?_ ?c2 ?c3 ?c4 ?c5; (case kA => exact rfl); (case kF => exact rfl); (case kK => assumption); (case k1 => k_asm); (case k2 => k_asm); (case k3 => k_asm); (case k5 => k_asm); (case k6 => k_is); (case k7 => k_is); (case k8 => first | exact Nat.lt_of_le_of_lt (Nat.le_add_right dp _) hd | exact fit2 hd (by decide) | exact fit3 hd (by decide) | (trace "ROOM8"; trace_state; ktr_room)); (case k9 => exact BindsTo.of_eq (binds := [(Str.ofString "a", .int a t), (Str.ofString "b", .int b u)]) rfl); (case c5 => decide); (case kB => exact locs rfl); (case c2 => exact rfl); (case c3 => exact rfl); (case c4 => exact rfl); k_whole; intro L' h' F' N' B' X' T'; (try dsimp only); (try k_lift B'); (try k_fold)); repeat' (first | (k_unfold; (try dsimp only)) | (k_gentoks; (try dsimp only)) | (k_end; wrow_close) | walk1 | (dsimp only; walk1) | (leave1; try dsimp only))
  refine hret _ _ _ (fun b o e => Fr.keep (by assumption) b o e) ?_; exact ⟨_, rfl⟩
theorem inv_tells : Claim w 35 1 [.int a t] (fun _ => True) (fun _ _ v => ∃ t, v = .int (-a - 1) t) := by
  unfold Claim; k_fill; intro mean mg mb dp un gd cn cs ad ccd cl outer A₀ base h₀ L m s Q E B F X T hkf hd hu hp hret; refine wpAny_call ?_; k_dflt (refine' code_def0 ?k1 ?k2 ?k3 ?k5 ?kA ?kF ?kK ?k6 ?k7 ?k8 ?k9 ?kB ?_ ?c2 ?c3 ?c4 ?c5; (case kA => exact rfl); (case kF => exact rfl); (case kK => assumption); (case k1 => k_asm); (case k2 => k_asm); (case k3 => k_asm); (case k5 => k_asm); (case k6 => k_is); (case k7 => k_is); (case k8 => first | exact Nat.lt_of_le_of_lt (Nat.le_add_right dp _) hd | exact fit2 hd (by decide) | exact fit3 hd (by decide) | (trace "ROOM8"; trace_state; ktr_room)); (case k9 => exact BindsTo.of_eq (binds := [(Str.ofString "a", .int a t)]) rfl); (case c5 => decide); (case kB => exact locs rfl); (case c2 => exact rfl); (case c3 => exact rfl); (case c4 => exact rfl); k_whole; intro L' h' F' N' B' X' T'; (try dsimp only); (try k_lift B'); (try k_fold)); repeat' (first | (k_unfold; (try dsimp only)) | (k_gentoks; (try dsimp only)) | (k_end; wrow_close) | walk1 | (dsimp only; walk1) | (leave1; try dsimp only))
  refine hret _ _ _ (fun b o e => Fr.keep (by assumption) b o e) ?_; exact ⟨_, rfl⟩
theorem nonterm_tells : Claim w 150 1 [.int a t] (fun _ => True) (fun _ _ v => v = .bool (decide (256 ≤ a))) := by
  unfold Claim; k_fill; intro mean mg mb dp un gd cn cs ad ccd cl outer A₀ base h₀ L m s Q E B F X T hkf hd hu hp hret; refine wpAny_call ?_; k_dflt (refine' code_def0 ?k1 ?k2 ?k3 ?k5 ?kA ?kF ?kK ?k6 ?k7 ?k8 ?k9 ?kB ?_ ?c2 ?c3 ?c4 ?c5; (case kA => exact rfl); (case kF => exact rfl); (case kK => assumption); (case k1 => k_asm); (case k2 => k_asm); (case k3 => k_asm); (case k5 => k_asm); (case k6 => k_is); (case k7 => k_is); (case k8 => first | exact Nat.lt_of_le_of_lt (Nat.le_add_right dp _) hd | exact fit2 hd (by decide) | exact fit3 hd (by decide) | (trace "ROOM8"; trace_state; ktr_room)); (case k9 => exact BindsTo.of_eq (binds := [(Str.ofString "x", .int a t)]) rfl); (case c5 => decide); (case kB => exact locs rfl); (case c2 => exact rfl); (case c3 => exact rfl); (case c4 => exact rfl); k_whole; intro L' h' F' N' B' X' T'; (try dsimp only); (try k_lift B'); (try k_fold)); repeat' (first | (k_unfold; (try dsimp only)) | (k_gentoks; (try dsimp only)) | (k_end; wrow_close) | walk1 | (dsimp only; walk1) | (leave1; try dsimp only))
  refine hret _ _ _ (fun b o e => Fr.keep (by assumption) b o e) ?_; rfl
theorem mul_tells (hm : IntMulOk a b) : Claim w 42 1 [.int a t, .int b u] (fun _ => True) (fun _ _ v => ∃ t, v = .int (a * b) t) := by
  unfold Claim; k_fill; intro mean mg mb dp un gd cn cs ad ccd cl outer A₀ base h₀ L m s Q E B F X T hkf hd hu hp hret; refine wpAny_call ?_; k_dflt (refine' code_def0 ?k1 ?k2 ?k3 ?k5 ?kA ?kF ?kK ?k6 ?k7 ?k8 ?k9 ?kB ?_ ?c2 ?c3 ?c4 ?c5; (case kA => exact rfl); (case kF => exact rfl); (case kK => assumption); (case k1 => k_asm); (case k2 => k_asm); (case k3 => k_asm); (case k5 => k_asm); (case k6 => k_is); (case k7 => k_is); (case k8 => first | exact Nat.lt_of_le_of_lt (Nat.le_add_right dp _) hd | exact fit2 hd (by decide) | exact fit3 hd (by decide) | (trace "ROOM8"; trace_state; ktr_room)); (case k9 => exact BindsTo.of_eq (binds := [(Str.ofString "a", .int a t), (Str.ofString "b", .int b u)]) rfl); (case c5 => decide); (case kB => exact locs rfl); (case c2 => exact rfl); (case c3 => exact rfl); (case c4 => exact rfl); k_whole; intro L' h' F' N' B' X' T'; (try dsimp only); (try k_lift B'); (try k_fold)); repeat' (first | ((with_reducible show wpAny _ _ (binaryOp _ _ _) _ _ _); refine P.mul_int ?_ hm) | (k_unfold; (try dsimp only)) | (k_gentoks; (try dsimp only)) | (k_end; wrow_close) | walk1 | (dsimp only; walk1) | (leave1; try dsimp only))
  refine hret _ _ _ (fun b o e => Fr.keep (by assumption) b o e) ?_; exact ⟨_, rfl⟩
end
theorem containsT_tells (w : World) (x : Str) (t : Tok) : Claim w 70 1 [.ref 141, .str x t] (fun _ => True) (fun _ _ v => v = .bool (KTD.inKeys x tokD)) := by
  unfold Claim; k_fill; intro mean mg mb dp un gd cn cs ad ccd cl outer A₀ base h₀ L m s Q E B F X T hkf hd hu hp hret; refine wpAny_call ?_; k_dflt (refine' code_def0 ?k1 ?k2 ?k3 ?k5 ?kA ?kF ?kK ?k6 ?k7 ?k8 ?k9 ?kB ?_ ?c2 ?c3 ?c4 ?c5; (case kA => exact rfl); (case kF => exact rfl); (case kK => assumption); (case k1 => k_asm); (case k2 => k_asm); (case k3 => k_asm); (case k5 => k_asm); (case k6 => k_is); (case k7 => k_is); (case k8 => first | exact Nat.lt_of_le_of_lt (Nat.le_add_right dp _) hd | exact fit2 hd (by decide) | exact fit3 hd (by decide) | (trace "ROOM8"; trace_state; ktr_room)); (case k9 => exact BindsTo.of_eq (binds := [(Str.ofString "a", .ref 141), (Str.ofString "b", .str x t)]) rfl); (case c5 => decide); (case kB => exact locs rfl); (case c2 => exact rfl); (case c3 => exact rfl); (case c4 => exact rfl); k_whole; intro L' h' F' N' B' X' T'; (try dsimp only); (try k_lift B'); (try k_fold)); repeat' (first | ((with_reducible show wpAny _ _ (compareOp _ _ _) _ _ _); refine KTD.in_text (h₀ := _) ⟨tokTab (by assumption), Fr.keep (by assumption)⟩ ?_) | (k_unfold; (try dsimp only)) | (k_gentoks; (try dsimp only)) | (k_end; wrow_close) | walk1 | (dsimp only; walk1) | (leave1; try dsimp only))
  refine hret _ _ _ (fun b o e => Fr.keep (by assumption) b o e) ?_; rfl
theorem containsS_tells (w : World) (x y : Str) (t u : Tok) : Claim w 70 1 [.str y u, .str x t] (fun _ => True) (fun _ _ v => v = .bool (Txt.contains y x)) := by
  unfold Claim; k_fill; intro mean mg mb dp un gd cn cs ad ccd cl outer A₀ base h₀ L m s Q E B F X T hkf hd hu hp hret; refine wpAny_call ?_; k_dflt (refine' code_def0 ?k1 ?k2 ?k3 ?k5 ?kA ?kF ?kK ?k6 ?k7 ?k8 ?k9 ?kB ?_ ?c2 ?c3 ?c4 ?c5; (case kA => exact rfl); (case kF => exact rfl); (case kK => assumption); (case k1 => k_asm); (case k2 => k_asm); (case k3 => k_asm); (case k5 => k_asm); (case k6 => k_is); (case k7 => k_is); (case k8 => first | exact Nat.lt_of_le_of_lt (Nat.le_add_right dp _) hd | exact fit2 hd (by decide) | exact fit3 hd (by decide) | (trace "ROOM8"; trace_state; ktr_room)); (case k9 => exact BindsTo.of_eq (binds := [(Str.ofString "a", .str y u), (Str.ofString "b", .str x t)]) rfl); (case c5 => decide); (case kB => exact locs rfl); (case c2 => exact rfl); (case c3 => exact rfl); (case c4 => exact rfl); k_whole; intro L' h' F' N' B' X' T'; (try dsimp only); (try k_lift B'); (try k_fold)); repeat' (first | (k_unfold; (try dsimp only)) | (k_gentoks; (try dsimp only)) | (k_end; wrow_close) | walk1 | (dsimp only; walk1) | (leave1; try dsimp only))
  refine hret _ _ _ (fun b o e => Fr.keep (by assumption) b o e) ?_; rfl

/-- no run makes the tokens fewer -/
theorem runs_toks {M : Model} {Γ : Ctx} {p : Pos} {t : Sem Fin} {fs : List Frame} {s s' : Shared} {e : End} (h : Runs M Γ p t fs s e s') : s.toks ≤ s'.toks := by
  induction h with
  | fresh _ ih => exact Nat.le_trans (Nat.le_succ _) ih
  | call _ _ i1 i2 => exact Nat.le_trans i1 i2
  | resumeFresh _ _ _ _ i1 i2 => exact Nat.le_trans i1 i2
  | resumeSuspended _ _ _ _ i1 i2 => exact Nat.le_trans i1 i2
  | segRet _ _ i1 i2 => exact Nat.le_trans i1 i2
  | segGen _ _ i1 i2 => exact Nat.le_trans i1 i2
  | segSuspGen _ _ _ _ i1 i2 => exact Nat.le_trans i1 i2
  | _ => first | exact Nat.le_refl _ | assumption

theorem wp_grow {α : Type} {M : Model} {Γ : Ctx} {t : Sem α} {n : Nat} {Q : α → Pos → Shared → Prop} {E : Value → Pos → Shared → Prop} {p : Pos} {s : Shared} (hn : n ≤ s.toks)
    (h : Sem.wp M Γ t (fun a p' s' => n ≤ s'.toks → Q a p' s') (fun e p' s' => n ≤ s'.toks → E e p' s') p s) : Sem.wp M Γ t Q E p s := by
  induction t generalizing p s with
  | pure _ => rw [Sem.wp] at *; exact h hn
  | raise _ => rw [Sem.wp] at *; exact h hn
  | load _ _ _ ih => rw [Sem.wp] at *; obtain ⟨o, h1, h2⟩ := h; exact ⟨o, h1, ih _ hn h2⟩
  | update _ _ _ _ ih => rw [Sem.wp] at *; exact ⟨h.1, ih _ hn h.2⟩
  | fresh _ ih => rw [Sem.wp] at *; exact ih _ (Nat.le_succ_of_le hn) h
  | choose _ _ _ ih => rw [Sem.wp] at *; exact ⟨h.1, ih _ hn h.2⟩
  | genState _ _ ih => rw [Sem.wp] at *; obtain ⟨o, h1, h2⟩ := h; exact ⟨o, h1, ih _ hn h2⟩
  | call _ _ _ _ _ ih =>
    rw [Sem.wp] at *
    obtain ⟨r, s', h1, h2⟩ := h
    exact ⟨r, s', h1, ih _ (Nat.le_trans hn (runs_toks h1)) h2⟩
  | resume g r _ _ ih =>
    rw [Sem.wp] at *
    obtain ⟨res, s', h1, h2⟩ := h
    refine ⟨res, s', h1, ih _ (Nat.le_trans hn ?_) h2⟩
    unfold Wakes at h1
    split at h1
    · exact h1.elim
    · split at h1
      · obtain ⟨e₁, s₁, h3, _, _, rfl⟩ := h1; have h4 := runs_toks h3; exact h4
      · rw [h1.2]; exact Nat.le_refl _
      · rw [h1.2]; exact Nat.le_refl _
    · obtain ⟨e₁, s₁, h3, _, _, rfl⟩ := h1; have h4 := runs_toks h3; exact h4
    · rw [h1.2]; exact Nat.le_refl _
    · rw [h1.2]; exact Nat.le_refl _
  | unsupported _ => rw [Sem.wp] at h; exact h.elim
  | finish _ => rw [Sem.wp] at h; exact h.elim
  | register _ _ _ => rw [Sem.wp] at h; exact h.elim
  | yield _ _ _ _ _ => rw [Sem.wp] at h; exact h.elim
  | fork _ _ _ => rw [Sem.wp] at h; exact h.elim
  | await _ _ _ _ _ _ => rw [Sem.wp] at h; exact h.elim
  | _ => rw [Sem.wp] at *; rename_i ih; exact ih _ hn h

/-- behind a tree the tokens are no fewer -/
theorem wpAny_grow {α : Type} {M : Model} {A : Around} {t : Sem α} {Q : α → Shared → Prop} {E : Value → Shared → Prop} {s : Shared} {n : Nat} (hn : n ≤ s.toks)
    (h : wpAny M A t (fun a s' => n ≤ s'.toks → Q a s') (fun e s' => n ≤ s'.toks → E e s') s) : wpAny M A t Q E s :=
  fun Γ p hΓ => wp_grow hn (h Γ p hΓ)

theorem ns_none_of {K : Frag} {h : Heap} {m : Str → Option Value} {a : Addr} {n : Str} (X : K.In h) (G : h.Ns a m) (e : nsIn K a n = some none) : m n = none := by
  obtain ⟨o, es, ep, ho, hd, _, hf⟩ := G
  unfold nsIn at e
  split at e
  · rename_i c d es' n' sl q
    have := X _ _ q
    rw [ho] at this
    cases this
    cases hd
    split at e
    · cases e
    · rename_i he
      rw [← hf]
      unfold nsFind findBy
      rw [← Array.find?_toList, he]
      rfl
  · cases e
theorem booked_K {w : World} {h : Heap} (X : (KK w.params).In h) (L : h.NoLimit) : NoneBooked h := by
  obtain ⟨mc, h1, _⟩ := L
  exact ⟨mc, h1, ns_none_of X h1 (by kernel_rfl)⟩

theorem wpAny_tokP {α : Type} {M : Model} {A : Around} {t : Sem α} {Q : α → Shared → Prop} {E : Value → Shared → Prop} {h : Heap} {g : Array GenState} {d : Drawn} {k : Nat} {o : OsState}
    (H : ∀ tk, 0 < tk → wpAny M A t Q E ⟨h, g, d, tk, o⟩) : wpAny M A t Q E ⟨h, g, d, k + 1, o⟩ := H (k + 1) (Nat.succ_pos k)

theorem fr_stays {h₀ h h' : Heap} {L : Addr} {m : Str → Option Value} (F : Fr h₀ L h m) (st : h.StaysIn h') : Fr h₀ L h' m := by
  obtain ⟨⟨oL, es, ep, hL, r⟩, k, a⟩ := F
  exact ⟨⟨oL, es, ep, st _ _ hL, r⟩, fun b o e => st _ _ (k b o e), a⟩
theorem news_stays {h₀ h h' : Heap} {L : Addr} {news : List (Addr × Obj)} (N : News h₀ L h news) (st : h.StaysIn h') : News h₀ L h' news := fun p hp => ⟨st _ _ (N p hp).1, (N p hp).2⟩
theorem news_more {h₀ h h' : Heap} {L : Addr} {m : Str → Option Value} {news : List (Addr × Obj)} {l : Addr} {o : Obj} (F : Fr h₀ L h m) (N : News h₀ L h news) (st : h.StaysIn h') (hn : h.get? l = none) (hl : h'.get? l = some o) : News h₀ L h' ((l, o) :: news) := by
  intro p hp
  rcases List.mem_cons.mp hp with rfl | hp
  · refine ⟨hl, ?_, ?_⟩
    · rintro rfl
      obtain ⟨oL, es, ep, hL, r⟩ := F.ns
      rw [hn] at hL; cases hL
    · cases q : h₀.get? l with
      | none => rfl
      | some o' => have := F.keep _ _ q; rw [hn] at this; cases this
  · exact news_stays N st p hp

section
variable {w : World} {f : Addr} {need : Nat} {vs : List Value} {Pre : Shared → Prop} {Post : Heap → Heap → Value → Prop}
  {mean : ExcName → Option Value} {mg mb : Str → Option Value} {dp un : Nat} {gd : Option (List Code)} {cn : Str} {cs : Scope} {a : Addr} {ccd : Value} {cl : List (Str × Addr)} {outer : List Env} {A₀ : Around} {base h₀ : Heap} {L : Addr} {m : Str → Option Value} {s : Shared} {Q E : Value → Shared → Prop} {news : List (Addr × Obj)}
/-- a call of a def whose claim is shown -/
theorem Claim.use (B : Below A₀ base outer h₀) (F : Fr h₀ L s.heap m) (X : (KK w.params).In h₀) (N : News h₀ L s.heap news) (T : Top Q0 (looseW Q0 LS) mean mg mb h₀) (hk : cs.kind = .function)
    (C : Claim w f need vs Pre Post) (hd : dp + need < recursionLimit) (hu : un + 8 * need < cLine) (hp : Pre s)
    (ret : ∀ v h' tk', s.toks ≤ tk' → Fr h₀ L h' m → News h₀ L h' news → s.heap.StaysIn h' → Post s.heap h' v → Q v { s with heap := h', toks := tk' }) :
    wpAny (model PySem.Challenge.rw_pg0180_01.row.prog w) (ktrTop dp un gd cn cs L a ccd cl outer) (call (.ref f) vs) Q E s :=
  wpAny_grow (Nat.le_refl _) (wpAny_mono (C mean mg mb dp un gd cn cs a ccd cl outer A₀ base h₀ L m s (fun v s' => s.toks ≤ s'.toks → Q v s') E B F X T hk hd hu hp fun v h' tk' st ps g => ret v h' tk' g (fr_stays F st) (news_stays N st) st ps) (fun _ _ x => x) fun _ _ x _ => x)
end

def allNe (l : Nat) : List (Addr × Obj) → Prop
  | [] => True
  | p :: r => @Ne Nat p.1 l ∧ allNe l r
theorem allNe_of {l : Addr} : ∀ {news : List (Addr × Obj)}, (∀ p ∈ news, p.1 ≠ l) → allNe l news
  | [], _ => trivial
  | p :: _, h => ⟨h p (.head _), allNe_of fun q hq => h q (.tail _ hq)⟩
theorem news_ne {h₀ h : Heap} {L l : Addr} {news : List (Addr × Obj)} (N : News h₀ L h news) (hn : h.get? l = none) : ∀ p ∈ news, p.1 ≠ l := by
  rintro p hp rfl
  have := (N p hp).1
  rw [hn] at this; cases this

/-- the letter of a register -/
def regS (k : Nat) : Str := match k with | 0 => Str.ofString "a" | 1 => Str.ofString "b" | 2 => Str.ofString "c" | _ => Str.ofString "d"
def numS (n : Nat) : Str := Str.ofString (toString (n : Int))
def stmtS (sg : List Str) (c : Int) : Str := (regS ((c / 4) % 4).toNat ++ sg.getD (c % 4).toNat default) ++ (if c % 4 < 2 then regS ((c / 16) % 4).toNat else numS ((c / 16) % 24).toNat)

theorem item_strsK {prog : Program} {w : World} {A : Around} {E : Value → Shared → Prop} {s : Shared} {value slice : PySem.Expr} {l : Addr} {vs : List Value} {sg : List Str} {k : Int} {u : Tok} {Q : Value → Shared → Prop} {n : Nat} (hl : s.heap.IsList l vs.toArray) (hs : StrsAre vs sg) (h0 : 0 ≤ k) (hk : k < (sg.length : Int)) (hhi : k < 2 ^ 63)
    (hm : ∀ x ∈ sg, x.length ≤ n) (h : ∀ t, (sg.getD k.toNat default).length ≤ n → Q (.str (sg.getD k.toNat default) t) s)
    (he : subscripted slice false (.ref l) (.int k u) = operate [.ref l, .int k u] (getItem (.ref l) (.int k u)) := by with_unfolding_all rfl) :
    wpAny (model prog w) A (subscriptTail value slice (.ref l) (.int k u)) Q E s := by
  have hlt : k.toNat < sg.length := by omega
  obtain ⟨t, ht⟩ := hs.get k.toNat sg[k.toNat] (by simp [hlt])
  have e : sg.getD k.toNat default = sg[k.toNat] := by simp [hlt]
  refine item_litK hl h0 hhi ht ?_ he
  rw [← e]
  exact h t (by rw [e]; exact hm _ (List.getElem_mem hlt))

theorem item_reg {i : Int} (h0 : 0 ≤ i) (h : i < 4) : Txt.item (Str.ofString "abcd") i = regS i.toNat := by
  have : i = 0 ∨ i = 1 ∨ i = 2 ∨ i = 3 := by omega
  rcases this with rfl | rfl | rfl | rfl <;> decide +kernel
theorem fm4 (c : Int) : c.fmod 4 = c % 4 := Int.fmod_eq_emod_of_nonneg _ (by omega)
theorem fm24 (c : Int) : c.fmod 24 = c % 24 := Int.fmod_eq_emod_of_nonneg _ (by omega)
theorem fd4 (c : Int) : c.fdiv 4 = c / 4 := Int.fdiv_eq_ediv_of_nonneg _ (by omega)
theorem fd16 (c : Int) : c.fdiv 16 = c / 16 := Int.fdiv_eq_ediv_of_nonneg _ (by omega)

set_option maxHeartbeats 4000000 in
theorem statement_tells (w : World) (l : Addr) (vs : List Value) (sg : List Str) (c : Int) (t : Tok) (hs : StrsAre vs sg) (hl : sg.length = 4) (hm : ∀ x ∈ sg, x.length ≤ 10) :
    Claim w 183 1 [.ref l, .int c t] (fun s => s.heap.IsList l vs.toArray) (fun _ _ v => ∃ t, v = .str (stmtS sg c) t) := by
  unfold Claim; k_fill; intro mean mg mb dp un gd cn cs ad ccd cl outer A₀ base h₀ L m s Q E B F X T hkf hd hu hp hret; refine wpAny_call ?_; k_dflt (refine' code_def0 ?k1 ?k2 ?k3 ?k5 ?kA ?kF ?kK ?k6 ?k7 ?k8 ?k9 ?kB ?_ ?c2 ?c3 ?c4 ?c5; (case kA => exact rfl); (case kF => exact rfl); (case kK => assumption); (case k1 => k_asm); (case k2 => k_asm); (case k3 => k_asm); (case k5 => k_asm); (case k6 => k_is); (case k7 => k_is); (case k8 => first | exact Nat.lt_of_le_of_lt (Nat.le_add_right dp _) hd | exact fit2 hd (by decide) | exact fit3 hd (by decide) | (trace "ROOM8"; trace_state; ktr_room)); (case k9 => exact BindsTo.of_eq (binds := [(Str.ofString "signs", .ref l), (Str.ofString "cell", .int c t)]) rfl); (case c5 => decide); (case kB => exact locs rfl); (case c2 => exact rfl); (case c3 => exact rfl); (case c4 => exact rfl); k_whole; intro L' h' F' N' B' X' T'; (try dsimp only); (try k_lift B'); (try k_fold)); repeat' (first | ((with_reducible show wpAny _ _ (subscriptTail _ _ (Value.ref l) (Value.int _ _)) _ _ _); ((with_unfolding_all refine' item_strsK (n := 10) (hp.at fun o e => Fr.keep (by assumption) _ _ e) hs ?k2 ?k3 ?k4 hm ?_ ?k6); (case k2 => exact Int.fmod_nonneg_of_pos _ (by omega)); (case k3 => (rw [hl]; exact Int.fmod_lt_of_pos _ (by omega))); (case k4 => exact Int.lt_trans (Int.fmod_lt_of_pos _ (by omega)) (by decide)); (case k6 => with_unfolding_all rfl); intro t9 h9)) | (k_unfold; (try dsimp only)) | (k_gentoks; (try dsimp only)) | (k_end; wrow_close) | walk1 | (dsimp only; walk1) | (leave1; try dsimp only))
  all_goals (refine hret (Value.str _ _) _ _ ?_ ⟨_, congrArg (fun z => Value.str z _) ?_⟩; focus exact fun b o e => Fr.keep (by assumption) b o e)
  all_goals (clear hret; simp only [fm4, fm24, fd4, fd16] at *; unfold stmtS)
  · rw [if_pos (by assumption), item_reg (by omega) (by omega), item_reg (by omega) (by omega)]
  · rw [if_neg (by assumption), item_reg (by omega) (by omega), numS, Int.toNat_of_nonneg (by omega)]

abbrev tupOf (its : Array Value) (n : Nat) : Obj := { cls := .type "tuple", data := .seq its n }

def tupIn (ax : Addr) (its : Array Value) (nw : List (Addr × Obj)) : Prop := False ∨ ∃ o, (ax, o) ∈ nw ∧ o.cls = .type "tuple" ∧ ∃ n, o.data = .seq its n

section
variable {prog : Program} {w : World} {A : Around} {E : Value → Shared → Prop} {s : Shared} {h₀ : Heap} {L : Addr} {m : Str → Option Value} {env : Env}
/-- a comprehension with one test over a written tuple of ints, its list folded -/
theorem ListComp_Tup {ct elt iter : Expr} {x : Str} {px : Pos} {scope : Scope} {cl : List (Str × Addr)} {pos : Pos} {Q : Value → Shared → Prop} (F₀ : Fr h₀ L s.heap m) (ns : List Int) (G : List Int → Int → List Int) (hgr : KPfGrows G)
    (hclos : closureFor scope env = pure cl) (hcell : ∀ y ∈ scope.names, y.2 ≠ .cell) (hkind : scope.kind = .function)
    (hnames : ∀ y ∈ scope.names, y.2 = .local → scope.names.lookup y.1 = some .local) (hx : scope.names.lookup x = some .local)
    (hsz : ns.length ≤ sizeLine)
    (h : wpAny (model prog w) A (eval iter env) (fun xv s₁ => ∃ ax n news vs, xv = .ref ax ∧ IntsAre vs ns ∧ A.handled = none ∧ Fr h₀ L s₁.heap m ∧ News h₀ L s₁.heap news ∧ (ax, tupOf vs.toArray n) ∈ news ∧
      (∀ k t I oI C oC D m₂ ys l h tk (E' : Value → Shared → Prop), k ∈ ns → IntsAre ys l → LCg.NsObj oC m₂ → m₂ x = some (.int k t) → Fr h₀ L h m → News h₀ L h ((I, oI) :: (C, oC) :: (D, LCg.lst ys) :: news) → LCg.Off3 I C D news → ((@Ne Nat I C) ∧ (@Ne Nat I D) ∧ (@Ne Nat C D)) →
        wpAny (model prog w) A (isTrue ct (compEnvC scope cl C env) (eval ct (compEnvC scope cl C env))) (fun b s' => if b = true then wpAny (model prog w) A (eval elt (compEnvC scope cl C env)) (LCg.CompEnd h₀ L m { s₁ with heap := h, toks := tk } I oI C oC D (LCg.lst ys) (tupIn ax vs.toArray) (fun y news' => KCiEl news l (G l k) y news')) E' s'
          else LCg.CompEnd h₀ L m { s₁ with heap := h, toks := tk } I oI C oC D (LCg.lst ys) (tupIn ax vs.toArray) (fun _ news' => KCiNo news l (G l k) news') Value.none s') E' { s₁ with heap := h, toks := tk }) ∧
      (∀ D h tk ys, IntsAre ys (ns.foldl G []) → Fr h₀ L h m → News h₀ L h ((D, LCg.lst ys) :: news) → LCg.Off1 D news → Q (.ref D) { s₁ with heap := h, toks := tk })) E s)
    (hs : ∀ x, foldedSetIterable iter env x = pure x := by intro _; rfl) :
    wpAny (model prog w) A (eval (.ListComp elt [⟨.Name x px, iter, [ct], 0⟩] scope pos) env) Q E s := by
  rw [eval_ListComp]
  refine wpAny_comprehension_free (use := none) rfl hs hclos hkind hnames (wpAny_mono h (fun xv s₁ h₁ => ?_) fun _ _ e => e)
  obtain ⟨ax, n, news, vs, rfl, hvs, hh, F, N, hm, turn, fin⟩ := h₁
  have hl : s₁.heap.IsTuple ax vs.toArray := ⟨_, (N _ hm).1, rfl, _, rfl⟩
  have hlt : ax < s₁.heap.objs.size := Heap.lt_size (N _ hm).1
  refine wpAny_pyIter_tuple hl ?_
  have up : ∀ b o, s₁.heap.get? b = some o → (s₁.heap.push { cls := .type "tuple_iterator", data := .fields #[.ref ax, .int 0 0] }).get? b = some o := fun b o e => Heap.get?_push_of_some _ e
  have hlen : vs.toArray.size = vs.length := List.size_toArray
  have R : ∀ g, LCt.CompRestT prog w A h₀ L m env ct elt x scope cl { s₁ with heap := g } (tupIn ax vs.toArray) (fun i v => vs.toArray[i]? = some v) (fun ys news' => ∃ _ : IntsAre ys (ns.foldl G []), news' = news) vs.toArray.size 0 [] news := fun g =>
    kci_rest (ks := ns) G (by rw [hlen]; exact hvs.length.symm) (fun i v _ hv => by
      obtain ⟨k, t, e, hk⟩ := IntsAre.at hvs i v (by simpa using hv)
      exact ⟨k, t, hk, e⟩) (fun k t I oI C oC D m₂ ys l h tk E' hk hI hC hx F N off ne _ => turn k t I oI C oC D m₂ ys l h tk E' hk hI hC hx F N off ne) (show KPfDone _ from fun ys hy _ => ⟨hy, rfl⟩) hgr
  refine LCt.block_T (Walks.tuple hh s₁.heap.objs.size ax (Nat.ne_of_lt hlt) vs.toArray) (by rw [hlen, hvs.length]; exact hsz) (fun i h st => by obtain ⟨o, e, _⟩ := st.1; exact ⟨o, e⟩)
    (fun i h h' o nw st e e' k N S => ⟨by obtain ⟨o', q, r⟩ := st.1; rw [e] at q; cases q; exact ⟨o, e', r⟩, S.elim False.elim fun ⟨o2, hm2, r2⟩ => ⟨o2, (N _ hm2).1, r2⟩⟩) hcell hkind hx ⟨⟨_, Heap.get?_push_size _ rfl, rfl, rfl⟩, ⟨_, up _ _ (N _ hm).1, rfl, _, rfl⟩⟩ (fun b hb => ?_)
    (F.keeps up) (N.grown up) (Nat.ne_of_lt F.ns.lt) (next_is_new F) (fun p hp => Nat.ne_of_lt (Heap.lt_size (N p hp).1)) (.inr ⟨_, hm, rfl, _, rfl⟩) (R _) ?_
  · show b < (s₁.heap.push _).objs.size
    rw [Heap.size_push]
    rcases List.mem_cons.mp hb with rfl | hb
    · exact Nat.lt_succ_self _
    · rw [List.mem_singleton.mp hb]; exact Nat.lt_succ_of_lt hlt
  · rintro D C h tk m' ys news' F' N' o1 hn hC₀ hD₀ hCL hDL hCD offC ⟨fi, rfl⟩
    refine ⟨m', hn, fun h'' hs'' => fin D h'' tk ys fi (F'.change hs'' hCL hC₀) (fun p hp => ?_) o1⟩
    refine ⟨hs''.extBut _ _ ?_ (N' p hp).1, (N' p hp).2⟩
    rcases List.mem_cons.mp hp with rfl | hp
    · exact Ne.symm hCD
    · exact offC p hp
end

section
variable {prog : Program} {w : World} {A : Around} {E : Value → Shared → Prop} {s : Shared}
theorem enumS_next {e it : Addr} {i c : Nat} {x : Str} {t : Tok} {old : Value} {Q : Option Value → Shared → Prop}
    (he : IsEnum s.heap e it i old) (hit : s.heap.IsStrIter it "str_ascii_iterator" x t i) (hx : x.cps[i]? = some c) (hne : e ≠ it)
    (hQ : ∀ h' tk, IsEnumOut h' e it ((i : Int) + 1) (.str ⟨#[c]⟩ s.toks) s.heap.objs.size → h'.IsStrIter it "str_ascii_iterator" x t (i + 1) →
      (∃ u, h'.get? s.heap.objs.size = some { cls := .type "tuple", data := .seq #[.int i u, .str ⟨#[c]⟩ s.toks] }) → h'.objs.size = s.heap.objs.size + 1 → s.toks < tk →
      (∀ b o, b ≠ e → b ≠ it → s.heap.get? b = some o → h'.get? b = some o) → Q (some (.ref s.heap.objs.size)) { s with heap := h', toks := tk }) :
    wpAny (model prog w) A (pyNext (.ref e)) Q E s := by
  have hT : s.TypeIs (.ref e) "enumerate" := ⟨_, he, rfl⟩
  unfold pyNext
  refine wpAny_bind (wpAny_attempt (wpAny_callSpecial?_slot (name := Str.ofString "__next__") hT F.slot_enumerate_next
    (wpAny_call_entry F.slot_enumerate_next hT F.entry_enumerate_next ?_ (F.args_enumerate_next_1 _))))
  obtain ⟨hp, g, d, tk, os⟩ := s
  show wpAny _ _ (field (.ref e) 2 >>= _) _ _ _
  refine wpAny_bind (wpAny_field he rfl (x := .ref it) rfl ?_)
  refine wpAny_bind (wpAny_nextOf_ascii_item hit hx fun h₁ hit₁ hs₁ => ?_)
  replace hs₁ : Heap.SameBut it hp h₁ := hs₁
  have he₁ : IsEnum h₁ e it i old := (hs₁.2 e hne).trans he
  show wpAny _ _ (field (.ref e) 3 >>= _) _ _ ⟨h₁, g, d, tk + 1, os⟩
  refine wpAny_bind (wpAny_field he₁ rfl (x := rawInt i) rfl ?_)
  show wpAny _ _ (field (.ref e) 4 >>= _) _ _ ⟨h₁, g, d, tk + 1, os⟩
  refine wpAny_bind (wpAny_field he₁ rfl (x := .none) rfl ?_)
  show wpAny _ _ (mkInt i >>= _) _ _ ⟨h₁, g, d, tk + 1, os⟩
  refine wpAny_bind (wpAny_mkInt ?_)
  show wpAny _ _ (setField (.ref e) 3 (rawInt ((i : Int) + 1)) >>= _) _ _ ⟨h₁, g, d, tk + 1 + 1, os⟩
  refine wpAny_bind (wpAny_setField_rec he₁ (by simp) fun h₂ he₂ hs₂ => ?_)
  replace hs₂ : Heap.SameBut e h₁ h₂ := hs₂
  replace he₂ : IsEnum h₂ e it ((i : Int) + 1) old := he₂
  show wpAny _ _ (setField (.ref e) 4 .none >>= _) _ _ ⟨h₂, g, d, tk + 1 + 1, os⟩
  refine wpAny_bind (wpAny_setField_rec he₂ (by simp) fun h₃ he₃ hs₃ => ?_)
  replace hs₃ : Heap.SameBut e h₂ h₃ := hs₃
  replace he₃ : IsEnum h₃ e it ((i : Int) + 1) old := he₃
  show wpAny _ _ (newTuple [.int i (tk + 1), .str ⟨#[c]⟩ tk] >>= _) _ _ ⟨h₃, g, d, tk + 1 + 1, os⟩
  refine wpAny_bind (wpAny_newTuple ?_)
  have he₄ : IsEnum (h₃.push { cls := .type "tuple", data := .seq #[.int i (tk + 1), .str ⟨#[c]⟩ tk] }) e it ((i : Int) + 1) old := Heap.get?_push_of_some _ he₃
  generalize hh₄ : h₃.push { cls := .type "tuple", data := .seq #[.int i (tk + 1), .str ⟨#[c]⟩ tk] } = h₄ at he₄
  have hsz : h₃.objs.size = hp.objs.size := by rw [hs₃.1, hs₂.1, hs₁.1]
  have hel : e < hp.objs.size := Heap.lt_size he
  have ht₄ : h₄.get? hp.objs.size = some { cls := .type "tuple", data := .seq #[.int i (tk + 1), .str ⟨#[c]⟩ tk] } := by rw [← hh₄, ← hsz]; exact Heap.get?_push_size _ rfl
  have hz₄ : h₄.objs.size = hp.objs.size + 1 := by rw [← hh₄, Heap.size_push, hsz]
  have hk₄ : ∀ b o, b ≠ e → b ≠ it → hp.get? b = some o → h₄.get? b = some o := fun b o hbe hbi hb => by
    rw [← hh₄]; exact Heap.get?_push_of_some _ (hs₃.extBut b o hbe (hs₂.extBut b o hbe (hs₁.extBut b o hbi hb)))
  have hit₄ : h₄.IsStrIter it "str_ascii_iterator" x t (i + 1) := by
    obtain ⟨o, ho, r⟩ := hit₁
    exact ⟨o, by rw [← hh₄]; exact Heap.get?_push_of_some _ (hs₃.extBut _ _ (Ne.symm hne) (hs₂.extBut _ _ (Ne.symm hne) ho)), r⟩
  show wpAny _ _ (Builtin.SmallTypes.ownedTupleIsFree (.ref e) >>= _) _ _ ⟨h₄, g, d, tk + 1 + 1, os⟩
  rw [hsz]
  clear hh₄ he₃ hs₃ he₂ hs₂ he₁ hs₁ hit₁ hsz h₃ h₂ h₁
  refine wpAny_bind ?_
  unfold Builtin.SmallTypes.ownedTupleIsFree
  refine wpAny_bind (wpAny_field he₄ rfl (x := .none) rfl (wpAny_pure ?_))
  simp only [if_true]
  refine wpAny_bind (wpAny_rule ?_)
  refine wpAny_bind (wpAny_field he₄ rfl (x := old) rfl ?_)
  refine wpAny_bind (wpAny_setField_rec he₄ (by simp) fun h₅ he₅ hs₅ => ?_)
  replace hs₅ : Heap.SameBut e h₄ h₅ := hs₅
  replace he₅ : IsEnum h₅ e it ((i : Int) + 1) (.str ⟨#[c]⟩ tk) := he₅
  show wpAny _ _ (Builtin.SmallTypes.ownedTupleHandOut (.ref e) (.ref hp.objs.size) >>= _) _ _ ⟨h₅, g, d, tk + 1 + 1, os⟩
  refine wpAny_bind ?_
  unfold Builtin.SmallTypes.ownedTupleHandOut
  refine wpAny_bind (wpAny_setField_rec he₅ (by simp) fun h₆ he₆ hs₆ => ?_)
  replace hs₆ : Heap.SameBut e h₅ h₆ := hs₆
  replace he₆ : IsEnumOut h₆ e it ((i : Int) + 1) (.str ⟨#[c]⟩ tk) hp.objs.size := he₆
  refine wpAny_setField_rec he₆ (by simp) fun h₇ he₇ hs₇ => ?_
  replace hs₇ : Heap.SameBut e h₆ h₇ := hs₇
  replace he₇ : IsEnumOut h₇ e it ((i : Int) + 1) (.str ⟨#[c]⟩ tk) hp.objs.size := he₇
  refine wpAny_bind (wpAny_letGo (wpAny_pure ⟨_, rfl, wpAny_pure (hQ h₇ _ he₇ ?_ ⟨tk + 1, ?_⟩ ?_ ?_ ?_)⟩))
  · obtain ⟨o, ho, r⟩ := hit₄
    exact ⟨o, hs₇.extBut _ _ (Ne.symm hne) (hs₆.extBut _ _ (Ne.symm hne) (hs₅.extBut _ _ (Ne.symm hne) ho)), r⟩
  · exact hs₇.extBut _ _ (Nat.ne_of_gt hel) (hs₆.extBut _ _ (Nat.ne_of_gt hel) (hs₅.extBut _ _ (Nat.ne_of_gt hel) ht₄))
  · rw [hs₇.1, hs₆.1, hs₅.1, hz₄]
  · exact Nat.lt_succ_of_lt (Nat.lt_succ_self _)
  · exact fun b o hbe hbi hb => hs₇.extBut b o hbe (hs₆.extBut b o hbe (hs₅.extBut b o hbe (hk₄ b o hbe hbi hb)))
end

abbrev enumO (it : Addr) (i : Int) (old : Value) : Obj := { cls := .type "enumerate", dict := none, data := .fields #[.none, .bool false, .ref it, rawInt i, .none, old], slots := #[] }
def strIt (o : Obj) (x : Str) (t : Tok) (i : Nat) : Prop := o.cls = .type "str_ascii_iterator" ∧ o.data = .fields #[.str x t, rawInt i]
theorem strIt.iter {h : Heap} {it : Addr} {o : Obj} {x : Str} {t : Tok} {i : Nat} (y : strIt o x t i) (e : h.get? it = some o) : h.IsStrIter it "str_ascii_iterator" x t i := ⟨o, e, y⟩

section
variable {prog : Program} {w : World} {A : Around} {E : Value → Shared → Prop} {s : Shared} {env : Env} {h₀ : Heap}
/-- a loop over enumerate of a text that is left at the k-th sign at the latest -/
theorem loop_enumS {R : Result → Shared → Prop} {xi xv : Str} {pi pv pt : Pos} {x1} {body orelse : List Stmt} {e it : Addr} {x : Str} {t : Tok} {m : Str → Option Value} {oI : Obj} {k n₀ : Nat}
    (hh : A.handled = none) (hxi : env.kindOf xi = some .local) (hxv : env.kindOf xv = some .local)
    (hp : (env.scope.kind == .class || (env.scope.kind == .module && env.locals != env.globals)) = false)
    (hei : e ≠ it) (F : Fr h₀ env.locals s.heap m) (N : News h₀ env.locals s.heap [(e, enumO it 0 .none), (it, oI)]) (hI : strIt oI x t 0) (hk : k < x.cps.size) (hn₀ : n₀ ≤ s.toks)
    (step : ∀ i c tj ti h tk oI, x.cps[i]? = some c → i ≤ k → n₀ ≤ tj → strIt oI x t (i + 1) → Fr h₀ env.locals h (fun y => if y = xv then some (.str ⟨#[c]⟩ tj) else if y = xi then some (.int i ti) else m y) →
      News h₀ env.locals h [(e, enumO it ((i : Int) + 1) (.str ⟨#[c]⟩ tj)), (it, oI)] →
      wpAny (model prog w) A (execs body env) (fun f s₂ => (f = .next ∧ i < k ∧ ∃ h₂ tk₂ m₂, s₂ = { s with heap := h₂, toks := tk₂ } ∧ Fr h₀ env.locals h₂ m₂ ∧ (∀ y, y ≠ xi → y ≠ xv → m₂ y = m y) ∧
        News h₀ env.locals h₂ [(e, enumO it ((i : Int) + 1) (.str ⟨#[c]⟩ tj)), (it, oI)]) ∨ ∃ v, f = .ret v ∧ R (.ok (.ret v)) s₂) (notedBy (model prog w) A env fun e s' => R (.error e) s') { s with heap := h, toks := tk }) :
    codeAny (model prog w) A (.forLoop (.Tuple [.Name xi pi, .Name xv pv] x1 pt) (.ref e) body orelse env) R s := by
  refine codeAny_forLoop_any
    (fun n s' => ∃ h' tk m' i old oI, s' = { s with heap := h', toks := tk } ∧ n₀ ≤ tk ∧ Fr h₀ env.locals h' m' ∧ News h₀ env.locals h' [(e, enumO it ((i : Nat) : Int) old), (it, oI)] ∧ strIt oI x t i ∧ (∀ y, y ≠ xi → y ≠ xv → m' y = m y) ∧ i ≤ k ∧ n = k + 1 - i) ?_ (k + 1)
    ⟨s.heap, s.toks, m, 0, .none, oI, rfl, hn₀, F, N, hI, fun _ _ _ => rfl, Nat.zero_le _, rfl⟩
  rintro n s' ⟨H, tk, m', i, old, oI, rfl, htk, F', N', hI', hm, hi, rfl⟩
  have he' := (N' _ (.head _)).1
  have hit' := (N' _ (.tail _ (.head _))).1
  have heL : e ≠ env.locals := (N' _ (.head _)).2.1
  have hiL : it ≠ env.locals := (N' _ (.tail _ (.head _))).2.1
  have he₀ : h₀.get? e = none := (N' _ (.head _)).2.2
  have hi₀ : h₀.get? it = none := (N' _ (.tail _ (.head _))).2.2
  have heH : e < H.objs.size := Heap.lt_size he'
  have hiH : it < H.objs.size := Heap.lt_size hit'
  have hLH : env.locals < H.objs.size := F'.ns.lt
  have hv : x.cps[i]? = some x.cps[i] := by simp
  refine enumS_next he' (hI'.iter hit') hv hei fun h₁ tk₁ heo hit₁ ht₁ hz₁ htk₁ hk₁ => ?_
  obtain ⟨ti, ht₁⟩ := ht₁
  replace htk₁ : tk < tk₁ := htk₁
  refine wpAny_letOwnedTupleGo_enum heo fun h₂ he₂ hs₂ => ?_
  replace hs₂ : Heap.SameBut e h₁ h₂ := hs₂
  have ht₂ : h₂.IsTuple H.objs.size #[.int i ti, .str ⟨#[x.cps[i]]⟩ tk] := ⟨_, (hs₂.2 _ (Nat.ne_of_gt heH)).trans ht₁, rfl, _, rfl⟩
  have hz₂ : h₂.objs.size = H.objs.size + 1 := hs₂.1.trans hz₁
  refine wpAny_assign_Tuple hh ht₂ rfl rfl fun h₃ hx₃ => ?_
  replace hx₃ : Heap.ExtBut h₂.objs.size h₂ h₃ := hx₃
  have old₃ : ∀ b o, b < H.objs.size → h₂.get? b = some o → h₃.get? b = some o := fun b o hb x => hx₃ b o (by rw [hz₂]; exact Nat.ne_of_lt (Nat.lt_succ_of_lt hb)) x
  have hn₃ : h₃.Ns env.locals m' := (F'.ns.at fun o x => hk₁ _ o (Ne.symm heL) (Ne.symm hiL) x).sameBut hs₂ (Ne.symm heL) |>.at fun o x => old₃ _ o hLH x
  show wpAny _ A (do holding [.str ⟨#[x.cps[i]]⟩ tk] (assign (.Name xi pi) env (.int i ti)); do holding [] (assign (.Name xv pv) env (.str ⟨#[x.cps[i]]⟩ tk)); pure ()) _ _ _
  refine wpAny_bind (wpAny_holding (wpAny_assign_Name (wpAny_storeName_local hxi hn₃ (fun h₄ hn₄ hs₄ => ?_) hp)))
  replace hs₄ : Heap.SameBut env.locals h₃ h₄ := hs₄
  refine wpAny_bind (wpAny_holding (wpAny_assign_Name (wpAny_storeName_local hxv hn₄ (fun h₅ hn₅ hs₅ => wpAny_pure ?_) hp)))
  replace hs₅ : Heap.SameBut env.locals h₄ h₅ := hs₅
  have up : ∀ b o, b ≠ env.locals → b < H.objs.size → h₂.get? b = some o → h₅.get? b = some o := fun b o hbL hb x => hs₅.extBut b o hbL (hs₄.extBut b o hbL (old₃ b o hb x))
  obtain ⟨oJ, hoJ, hJ⟩ := hit₁
  have F₅ : Fr h₀ env.locals h₅ (fun y => if y = xv then some (.str ⟨#[x.cps[i]]⟩ tk) else if y = xi then some (.int i ti) else m y) := by
    refine ⟨?_, fun b o q => ?_, F'.above⟩
    · have em : (fun y => if y = xv then some (Value.str ⟨#[x.cps[i]]⟩ tk) else if y = xi then some (.int i ti) else m y) = fun y => if y = xv then some (Value.str ⟨#[x.cps[i]]⟩ tk) else if y = xi then some (.int i ti) else m' y := by
        funext y
        by_cases h1 : y = xv
        · simp [h1]
        · by_cases h2 : y = xi
          · simp [h1, h2]
          · simp only [h1, h2, if_false]; exact (hm y h2 h1).symm
      rw [em]; exact hn₅
    · have hbe : b ≠ e := fun z => by rw [z, he₀] at q; cases q
      have hbi : b ≠ it := fun z => by rw [z, hi₀] at q; cases q
      have hbH := F'.keep b o q
      have hbL : b ≠ env.locals := fun z => absurd (Nat.lt_of_lt_of_le (Heap.lt_size q) F'.above) (by rw [z]; exact Nat.lt_irrefl _)
      exact up b o hbL (Heap.lt_size hbH) (hs₂.extBut b o hbe (hk₁ b o hbe hbi hbH))
  have N₅ : News h₀ env.locals h₅ [(e, enumO it ((i : Int) + 1) (.str ⟨#[x.cps[i]]⟩ tk)), (it, oJ)] := by
    intro p hp
    rcases List.mem_cons.mp hp with rfl | hp
    · exact ⟨up e _ heL heH he₂, heL, he₀⟩
    · rw [List.mem_singleton.mp hp]
      exact ⟨up it _ hiL hiH (hs₂.extBut _ _ (Ne.symm hei) hoJ), hiL, hi₀⟩
  refine wpAny_grow (n := n₀) (by show n₀ ≤ tk₁ + 1 + 1; omega) (wpAny_mono (step i _ tk ti h₅ _ oJ hv hi htk hJ F₅ N₅) (fun f s₃ h₆ g => ?_) fun _ _ x _ => x)
  rcases h₆ with ⟨rfl, hlt, h₆, tk₆, m₆, rfl, F₆, hm₆, N₆⟩ | ⟨v, rfl, hr⟩
  · exact ⟨k + 1 - (i + 1), by omega, h₆, tk₆, m₆, i + 1, _, oJ, rfl, g, F₆, N₆, hJ, hm₆, hlt, rfl⟩
  · exact hr
end

theorem is_strU {M : Model} {A : Around} {E : Value → Shared → Prop} {s : Shared} {y z : Str} {u v : Tok} {Q : Value → Shared → Prop}
    (h0 : @LT.lt Nat _ 0 v) (h1 : @LT.lt Nat _ v u) (hb : NoneBooked s.heap) (ht : y = z → Q (.bool true) s) (hf : Q (.bool false) s) : wpAny M A (compareOp .Is (.str y u) (.str z v)) Q E s := by
  show wpAny M A (do return .bool (← isSame (.str y u) (.str z v))) Q E s
  refine wpAny_bind ?_
  by_cases e : y = z
  · refine wpAny_isSame_str ?_ hb fun b => wpAny_pure (by cases b; exact hf; exact ht e)
    exact Bool.or_eq_false_iff.mpr ⟨beq_eq_false_iff_ne.mpr (Nat.ne_of_gt (Nat.lt_trans h0 h1)), beq_eq_false_iff_ne.mpr (Nat.ne_of_gt h0)⟩
  · show wpAny M A (isSame.created (y == z) u v) _ E s
    unfold isSame.created
    have hu : (u == 0 || v == 0) = false := Bool.or_eq_false_iff.mpr ⟨beq_eq_false_iff_ne.mpr (Nat.ne_of_gt (Nat.lt_trans h0 h1)), beq_eq_false_iff_ne.mpr (Nat.ne_of_gt h0)⟩
    have huv : (u == v) = false := beq_eq_false_iff_ne.mpr (Nat.ne_of_gt h1)
    have hyz : (y == z) = false := by simpa using e
    simp only [hu, huv, hyz, Bool.false_eq_true, if_false, Bool.not_false, if_true]
    exact wpAny_pure (wpAny_pure hf)

theorem reg_sign {i c : Nat} (h : (Str.ofString "abcd").cps[i]? = some c) : (⟨#[c]⟩ : Str) = regS i ∧ i < 4 := by
  have e : (Str.ofString "abcd").cps = #[97, 98, 99, 100] := by decide +kernel
  rw [e] at h
  have hi : i < 4 := by
    have := (Array.getElem?_eq_some_iff.mp h).1
    simpa using this
  have : i = 0 ∨ i = 1 ∨ i = 2 ∨ i = 3 := by omega
  rcases this with rfl | rfl | rfl | rfl <;> (cases h; exact ⟨by decide +kernel, by decide⟩)
theorem reg_inj {i k : Nat} (hi : i < 4) (hk : k < 4) (h : regS i = regS k) : i = k := by
  have h1 : i = 0 ∨ i = 1 ∨ i = 2 ∨ i = 3 := by omega
  have h2 : k = 0 ∨ k = 1 ∨ k = 2 ∨ k = 3 := by omega
  rcases h1 with rfl | rfl | rfl | rfl <;> rcases h2 with rfl | rfl | rfl | rfl <;> first | rfl | exact absurd h (by decide +kernel)

set_option maxHeartbeats 4000000 in
theorem indexOf_tells (w : World) (k : Nat) (hk : k < 4) (t u : Tok) : Claim w 84 1 [.str (Str.ofString "abcd") u, .str (regS k) t] (fun s => 0 < t ∧ t < s.toks) (fun _ _ v => ∃ t, v = .int (k : Int) t) := by
  unfold Claim; k_fill; intro mean mg mb dp un gd cn cs ad ccd cl outer A₀ base h₀ L m s Q E B F X T hkf hd hu hp hret; refine wpAny_call ?_
  k_dflt (refine' code_def0 ?k1 ?k2 ?k3 ?k5 ?kA ?kF ?kK ?k6 ?k7 ?k8 ?k9 ?kB ?_ ?c2 ?c3 ?c4 ?c5; (case kA => exact rfl); (case kF => exact rfl); (case kK => assumption); (case k1 => k_asm); (case k2 => k_asm); (case k3 => k_asm); (case k5 => k_asm); (case k6 => k_is); (case k7 => k_is); (case k8 => first | exact Nat.lt_of_le_of_lt (Nat.le_add_right dp _) hd | exact fit2 hd (by decide) | exact fit3 hd (by decide) | (trace "ROOM8"; trace_state; ktr_room)); (case k9 => exact BindsTo.of_eq (binds := [(Str.ofString "a", .str (Str.ofString "abcd") u), (Str.ofString "b", .str (regS k) t)]) rfl); (case c5 => decide); (case kB => exact locs rfl); (case c2 => exact rfl); (case c3 => exact rfl); (case c4 => exact rfl); k_whole; intro L' h' F' N' B' X' T'; (try dsimp only); (try k_lift B'); (try k_fold))
  refine wpAny_execs_cons ?_
  refine wpAny_For ?_
  repeat' ((fail_if_success (with_reducible show wpAny _ _ (call (Value.type _) _) _ _ _)); first | (k_unfold; (try dsimp only)) | (k_end; wrow_close) | walk1 | (dsimp only; walk1) | (leave1; try dsimp only))
  refine call_enumerate_str fun h9 hE hI hz hk9 => wpAny_pyIter_enum hE ?_
  obtain ⟨oI, hoI, hI⟩ := hI
  rw [show strIterType (Str.ofString "abcd") = "str_ascii_iterator" by decide +kernel] at hI
  have hlt := F'.ns.lt
  have hne := next_is_new F'
  refine loop_enumS (k := k) (n₀ := t + 1) rfl rfl rfl rfl (Nat.succ_ne_self _) (F'.keeps hk9) ?_ hI hk (Nat.le_trans (Nat.succ_le_of_lt hp.2) (Nat.le_add_right _ _)) ?_
  · intro p hp
    rcases List.mem_cons.mp hp with rfl | hp
    · exact ⟨hE, Nat.ne_of_gt (Nat.lt_succ_of_lt hlt), Heap.get?_none_of_le (Nat.le_trans F'.above (Nat.le_of_lt (Nat.lt_succ_of_lt hlt)))⟩
    · rw [List.mem_singleton.mp hp]
      exact ⟨hoI, Nat.ne_of_gt hlt, hne⟩
  · clear hI hoI hz hk9 hE
    intro i c tj ti h tk oI hx hik htj hI F N
    obtain ⟨hc, hi4⟩ := reg_sign hx
    rw [hc] at F N
    (rw [hc])
    k_fold
    repeat' (first | ((with_reducible show wpAny _ _ (compareOp CmpOp.Is _ _) _ _ _); (refine is_strU hp.1 htj (booked_K (X'.keeps F.keep) (T'.nolimit.keeps F.keep)) (fun e9 => ?_) ?_)) | (k_unfold; (try dsimp only)) | (k_gentoks; (try dsimp only)) | (k_end; wrow_close) | walk1 | (dsimp only; walk1) | (leave1; try dsimp only))
    any_goals (show (_ ∨ _))
    · exact Or.inr ⟨_, rfl, hret _ _ _ F.keep ⟨ti, by rw [reg_inj hi4 hk e9]⟩⟩
    · exact Or.inr ⟨_, rfl, hret _ _ _ F.keep ⟨ti, by rw [reg_inj hi4 hk (beq_iff_eq.mp (by assumption))]⟩⟩
    · refine Or.inl ⟨rfl, Nat.lt_of_le_of_ne hik fun z => ?_, h, _, _, rfl, F, fun y h1 h2 => by simp only [h1, h2, if_false], N⟩
      (rename (_ = false) => h8)
      rw [z, beq_self_eq_true] at h8
      cases h8

/-- the number of a sign -/
def tokV (x : Str) : Int := match KTD.datumAt x tokD with
  | some (.flat (.int v)) => v
  | _ => 0
theorem tokD_at {x : Str} (h : KTD.inKeys x tokD = true) : KTD.datumAt x tokD = some (.flat (.int (tokV x))) := by
  have all : ∀ (D : List (String × Int)), KTD.inKeys x (D.map fun p => (Str.ofString p.1, KTD.Dat.flat (.int p.2))) = true → ∃ v, KTD.datumAt x (D.map fun p => (Str.ofString p.1, KTD.Dat.flat (.int p.2))) = some (.flat (.int v)) := by
    intro D
    induction D with
    | nil => intro h; cases h
    | cons p D ih =>
      intro h
      simp only [List.map_cons, KTD.inKeys, KTD.datumAt] at *
      by_cases e : x = Str.ofString p.1
      · exact ⟨p.2, by rw [if_pos (decide_eq_true e)]⟩
      · rw [decide_eq_false e, Bool.false_or] at h
        obtain ⟨v, hv⟩ := ih h
        exact ⟨v, by rw [if_neg (by simp [e])]; exact hv⟩
  obtain ⟨v, hv⟩ := all _ h
  have hv' : KTD.datumAt x tokD = some (.flat (.int v)) := hv
  rw [tokV, hv']

open PyProof.Rows.KTD in
theorem item_known {prog : Program} {w : World} {A : Around} {E : Value → Shared → Prop} {s : Shared} {h₀ : Heap} {a : Addr} {D : List (Str × KTD.Dat)} {k : Str} {tk : Tok} {i : Int} {value slice : Expr} {Q : Value → Shared → Prop} (T : KTD.Here h₀ s.heap a D) (hat : KTD.datumAt k D = some (.flat (.int i))) (h : ∀ t, Q (.int i t) { s with toks := s.toks + 1 })
    (hs : subscripted slice false (.ref a) (.str k tk) = operate [.ref a, .str k tk] (getItem (.ref a) (.str k tk)) := by with_unfolding_all rfl) :
    wpAny (model prog w) A (subscriptTail value slice (.ref a) (.str k tk)) Q E s := by
  refine subscriptTail_builtin_flat T.typeIs slot_dict_getitem.lookup ?_ hs
  unfold getItem
  try with_reducible refine wpAny_holding ?_
  refine wpAny_bind (wpAny_sequenceKey T.typeIs (by decide) ?_)
  refine wpAny_bind (wpAny_callSpecial?_slot (name := Str.ofString "__getitem__") T.typeIs slot_dict_getitem
    (wpAny_call_entry slot_dict_getitem T.typeIs entry_dict_getitem ?_ (args_dict_getitem _ _)))
  show wpAny _ _ (dictGet a (.str k tk) >>= _) _ _ s
  refine wpAny_bind (KTD.dictGet_text T (fun d v ha hv => ?_) fun hn => absurd (hat.symm.trans hn) (by simp))
  rw [hat] at ha
  cases ha
  have hv' := hv s.heap
  cases hv'
  exact wpAny_pure ⟨_, rfl, wpAny_pure ⟨(fun _ e => nomatch e), h _⟩⟩

set_option maxHeartbeats 4000000 in
theorem getT_tells (w : World) (x : Str) (t : Tok) (hx : KTD.inKeys x tokD = true) : Claim w 77 1 [.ref 141, .str x t] (fun _ => True) (fun _ _ v => ∃ t, v = .int (tokV x) t) := by
  unfold Claim; k_fill; intro mean mg mb dp un gd cn cs ad ccd cl outer A₀ base h₀ L m s Q E B F X T hkf hd hu hp hret; refine wpAny_call ?_; k_dflt (refine' code_def0 ?k1 ?k2 ?k3 ?k5 ?kA ?kF ?kK ?k6 ?k7 ?k8 ?k9 ?kB ?_ ?c2 ?c3 ?c4 ?c5; (case kA => exact rfl); (case kF => exact rfl); (case kK => assumption); (case k1 => k_asm); (case k2 => k_asm); (case k3 => k_asm); (case k5 => k_asm); (case k6 => k_is); (case k7 => k_is); (case k8 => first | exact Nat.lt_of_le_of_lt (Nat.le_add_right dp _) hd | exact fit2 hd (by decide) | exact fit3 hd (by decide) | (trace "ROOM8"; trace_state; ktr_room)); (case k9 => exact BindsTo.of_eq (binds := [(Str.ofString "a", .ref 141), (Str.ofString "b", .str x t)]) rfl); (case c5 => decide); (case kB => exact locs rfl); (case c2 => exact rfl); (case c3 => exact rfl); (case c4 => exact rfl); k_whole; intro L' h' F' N' B' X' T'; (try dsimp only); (try k_lift B'); (try k_fold)); repeat' (first | ((with_reducible show wpAny _ _ (subscriptTail _ _ _ _) _ _ _); (refine item_known (h₀ := s.heap) ⟨tokTab (by assumption), Fr.keep (by assumption)⟩ (tokD_at hx) ?_; intro t9)) | (k_unfold; (try dsimp only)) | (k_gentoks; (try dsimp only)) | (k_end; wrow_close) | walk1 | (dsimp only; walk1) | (leave1; try dsimp only))
  refine hret _ _ _ (fun b o e => Fr.keep (by assumption) b o e) ?_; exact ⟨_, rfl⟩

/-- a list of ints made by the call -/
def newInts (ws : List Int) (h h' : Heap) (v : Value) : Prop := ∃ l n vs, v = .ref l ∧ h.get? l = none ∧ h'.get? l = some (listOf (List.toArray vs) n) ∧ IntsAre vs ws
theorem listIn {h₀ h : Heap} {L l : Addr} {news : List (Addr × Obj)} {its : Array Value} {n : Nat} (N : News h₀ L h news) (hm : (l, listOf its n) ∈ news) : h.IsList l its := ⟨_, (N _ hm).1, rfl, _, rfl⟩
/-- what a turn leaves -/
def TurnEnd {σ : Type} (s : Shared) (h₀ : Heap) (L : Addr) (x : Str) (stored : List Str) (m₀ : Str → Option Value) (led : σ → List (Addr × Obj)) (P : σ → Prop) (f : Flow) (s₂ : Shared) : Prop :=
  f = .next ∧ ∃ d' h' tk' m', s₂ = { s with heap := h', toks := tk' } ∧ Fr h₀ L h' m' ∧ News h₀ L h' (led d') ∧ (∀ y, y ≠ x → stored.contains y = false → m' y = m₀ y) ∧ P d'
section
variable {prog : Program} {w : World} {A : Around} {E : Value → Shared → Prop} {s : Shared} {env : Env} {h₀ : Heap} {x : Str} {body : List Stmt} {Q : Flow → Shared → Prop}
/-- a loop over a range, of any length and step: what it keeps is a ledger of the state -/
theorem range_loop {σ : Type} {r : Addr} {a₀ b₀ c : Int} {t₀ u₀ v₀ : Tok} {n : Nat} {m₀ : Str → Option Value} (Led : σ → List (Addr × Obj)) (stored : List Str) (P : Nat → σ → Prop) (c₀ : σ) (adr : ∀ c, (Led c).map (·.1) = (Led c₀).map (·.1))
    (hh : A.handled = none) (hr : IsRange s.heap r a₀ b₀ c t₀ u₀ v₀) (hsmall : Builtin.Range.small a₀ b₀ c = true) (hn : Builtin.Range.rangeSize a₀ b₀ c = (n : Int)) (F : Fr h₀ env.locals s.heap m₀) (N : News h₀ env.locals s.heap (Led c₀)) (hp : P 0 c₀)
    (turn : ∀ (I : Addr) i d t (u : Str → Option Value) h tk, (∀ p ∈ Led d, p.1 < I) → i < n → P i d →
      Fr h₀ env.locals h (fun y => if y = x then some (.int (a₀ + (i : Int) * c) t) else if stored.contains y = true then u y else m₀ y) → News h₀ env.locals h ((I, krsIt (a₀ + ((i + 1 : Nat) : Int) * c) ((n : Int) - ((i + 1 : Nat) : Int)) c) :: Led d) →
      wpAny (model prog w) A (execs body env) (TurnEnd s h₀ env.locals x stored m₀ (fun d' => (I, krsIt (a₀ + ((i + 1 : Nat) : Int) * c) ((n : Int) - ((i + 1 : Nat) : Int)) c) :: Led d') (P (i + 1))) E { s with heap := h, toks := tk })
    (done : ∀ d (u : Str → Option Value) h tk, P n d → Fr h₀ env.locals h (fun y => if (x :: stored).contains y = true then u y else m₀ y) → News h₀ env.locals h (Led d) → Q .next { s with heap := h, toks := tk }) :
    wpAny (model prog w) A (pyIter (.ref r)) (fun it s₂ => LoopAtV prog w A h₀ env x body Q E it s₂) E s := by
  refine krs_iter hh hr hsmall hn F N fun I hI => ?_
  have low : ∀ d, ∀ p ∈ Led d, p.1 < I := by
    intro d p hp
    have h1 : p.1 ∈ (Led d).map (·.1) := List.mem_map.mpr ⟨p, hp, rfl⟩
    rw [adr d] at h1
    obtain ⟨q, hq, e⟩ := List.mem_map.mp h1
    rw [← e]; exact hI q hq
  have key : ∀ k i d m, i + k = n → P i d → (∀ y, y ≠ x → stored.contains y = false → m y = m₀ y) → KrsRest prog w A E h₀ env x body Q s I a₀ c n k i m (Led d) := by
    intro k
    induction k with
    | zero =>
      intro i d m hi hp hm
      refine KrsRest.zero fun h tk F₁ N₁ => done d m h tk (by rw [← show i = n by omega]; exact hp) ?_ N₁
      have em : (fun y => if (x :: stored).contains y = true then m y else m₀ y) = m := by
        funext y
        cases hc : (x :: stored).contains y with
        | true => simp
        | false =>
          simp only [Bool.false_eq_true, if_false]
          rw [List.contains_cons, Bool.or_eq_false_iff] at hc
          exact (hm y (fun e => by rw [e] at hc; simp at hc) hc.2).symm
      rw [em]; exact F₁
    | succ k ih =>
      intro i d m hi hp hm
      refine KrsRest.succ rfl fun t h tk F₁ N₁ => ?_
      have em : (fun y => if y = x then some (.int (a₀ + (i : Int) * c) t) else m y) = fun y => if y = x then some (Value.int (a₀ + (i : Int) * c) t) else if stored.contains y = true then m y else m₀ y := by
        funext y
        by_cases h1 : y = x
        · simp only [h1, if_true]
        · simp only [h1, if_false]
          cases hc : stored.contains y with
          | true => simp
          | false => simp only [Bool.false_eq_true, if_false]; exact hm y h1 hc
      rw [em] at F₁
      refine wpAny_mono (turn I i d t m h tk (low d) (by omega) hp F₁ N₁) (fun f s₂ q => ?_) fun _ _ e => e
      obtain ⟨rfl, d', h', tk', m', rfl, F', N', hm', hp'⟩ := q
      exact ⟨h', tk', m', Led d', rfl, F', N', fun p hp => Nat.ne_of_lt (low d' p hp), ih (i + 1) d' m' (by omega) hp' hm'⟩
  exact key n 0 c₀ m₀ (by omega) hp fun _ _ _ => rfl
end

section
variable {prog : Program} {w : World} {A : Around} {E : Value → Shared → Prop} {s : Shared} {env : Env} {h₀ : Heap} {x : Str} {body : List Stmt} {Q : Flow → Shared → Prop}
/-- a loop over a list of ints that lies below -/
theorem list_loop {σ : Type} {l : Addr} {vs : List Value} {ns : List Int} {m₀ : Str → Option Value} (Led : σ → List (Addr × Obj)) (stored : List Str) (P : Nat → σ → Prop) (c₀ : σ) (adr : ∀ c, (Led c).map (·.1) = (Led c₀).map (·.1))
    (hh : A.handled = none) (hl : h₀.IsList l vs.toArray) (hi : IntsAre vs ns) (F : Fr h₀ env.locals s.heap m₀) (N : News h₀ env.locals s.heap (Led c₀)) (hp : P 0 c₀)
    (turn : ∀ (I : Addr) (oI : Obj) i n d t (u : Str → Option Value) h tk, (∀ p ∈ Led d, p.1 < I) → ns[i]? = some n → P i d →
      Fr h₀ env.locals h (fun y => if y = x then some (.int n t) else if stored.contains y = true then u y else m₀ y) → News h₀ env.locals h ((I, oI) :: Led d) →
      wpAny (model prog w) A (execs body env) (TurnEnd s h₀ env.locals x stored m₀ (fun d' => (I, oI) :: Led d') (P (i + 1))) E { s with heap := h, toks := tk })
    (done : ∀ d (u : Str → Option Value) h tk, P ns.length d → Fr h₀ env.locals h (fun y => if (x :: stored).contains y = true then u y else m₀ y) → News h₀ env.locals h (Led d) → Q .next { s with heap := h, toks := tk }) :
    wpAny (model prog w) A (pyIter (.ref l)) (fun it s₂ => LoopAtV prog w A h₀ env x body Q E it s₂) E s := by
  have hls : s.heap.IsList l vs.toArray := hl.at fun o e => F.keep l o e
  obtain ⟨ol, hol, _⟩ := id hl
  have hlt : l < h₀.objs.size := Heap.lt_size hol
  have hne : l ≠ s.heap.objs.size := Nat.ne_of_lt (Nat.lt_trans (Nat.lt_of_lt_of_le hlt F.above) F.ns.lt)
  refine wpAny_pyIter_list hls ?_
  have W := Walks.list (prog := prog) (w := w) hh s.heap.objs.size l hne vs.toArray
  have hlen : vs.toArray.size = ns.length := by rw [List.size_toArray, hi.length]
  rw [hlen] at W
  have hnew := next_is_new F
  have low : ∀ d, ∀ p ∈ Led d, p.1 < s.heap.objs.size := by
    intro d p hp
    have h1 : p.1 ∈ (Led d).map (·.1) := List.mem_map.mpr ⟨p, hp, rfl⟩
    rw [adr d] at h1
    obtain ⟨q, hq, e⟩ := List.mem_map.mp h1
    rw [← e]; exact Heap.lt_size (N q hq).1
  let J : Nat → (Str → Option Value) → List (Addr × Obj) → Prop := fun i m₁ nx => ∃ d, nx = Led d ∧ P i d ∧ ∀ y, y ≠ x → stored.contains y = false → m₁ y = m₀ y
  refine ⟨_, _, _, ns.length, _, _, m₀, Led c₀, J, rfl, W, ?_, ?_, ?_, ⟨⟨_, Heap.get?_push_size _ rfl, rfl, rfl⟩, hls.at fun o e => Heap.get?_push_of_some _ e⟩, F.push _, (fun p hp => ⟨Heap.get?_push_of_some _ (N p hp).1, (N p hp).2⟩), ⟨c₀, rfl, hp, fun _ _ _ => rfl⟩, ?_, ?_⟩
  · intro hm
    rcases List.mem_cons.mp hm with e | hm
    · exact absurd F.ns.lt (e ▸ Nat.lt_irrefl _)
    · exact absurd (Nat.lt_of_lt_of_le hlt F.above) ((List.mem_singleton.mp hm) ▸ Nat.lt_irrefl _)
  · intro b hb
    rw [List.mem_singleton.mp hb]
    exact hnew
  · intro p hp hI
    exact absurd (Heap.lt_size (N p hp).1) ((List.mem_singleton.mp hI) ▸ Nat.lt_irrefl _)
  · rintro i v m₁ nx s₁ own ⟨hh', tk', rfl⟩ hin hP ⟨d, rfl, hd, hm⟩ hoff hown hget hall hst F₁ N₁
    have hlt' : i < ns.length := hin
    obtain ⟨t, hx⟩ := hi.get i ns[i] (by simp [hlt'])
    have hv : v = .int ns[i] t := by
      have hP' : vs[i]? = some v := by simpa using hP
      rw [hx] at hP'; exact (Option.some.inj hP').symm
    subst hv
    obtain ⟨⟨oI, hoI, _⟩, _⟩ := hst
    have hmem := hall s.heap.objs.size (.head _) hnew _ hoI
    have N₂ : News h₀ env.locals hh' ((s.heap.objs.size, oI) :: Led d) := fun p hp => by
      rcases List.mem_cons.mp hp with rfl | hp
      · exact N₁ _ (List.mem_append_left _ hmem)
      · exact N₁ _ (List.mem_append_right _ hp)
    have em : (fun y => if y = x then some (.int ns[i] t) else m₁ y) = fun y => if y = x then some (Value.int ns[i] t) else if stored.contains y = true then m₁ y else m₀ y := by
      funext y
      by_cases h1 : y = x
      · simp only [h1, if_true]
      · simp only [h1, if_false]
        cases hc : stored.contains y with
        | true => simp
        | false => simp only [Bool.false_eq_true, if_false]; exact hm y h1 hc
    rw [em] at F₁
    refine wpAny_mono (turn s.heap.objs.size oI i ns[i] d t m₁ hh' tk' (low d) (by simp [hlt']) hd F₁ N₂) (fun f s₂ q => ?_) fun _ _ e => e
    obtain ⟨rfl, d', h', tk, m', rfl, F', N', hm', hp'⟩ := q
    refine .next ⟨rfl, h', tk, m', Led d', rfl, F', fun p hp => ?_, fun p hp hI => absurd (low d' p hp) ((List.mem_singleton.mp hI) ▸ Nat.lt_irrefl _), d', rfl, hp', hm'⟩
    rcases List.mem_append.mp hp with hp | hp
    · have h2 : hh'.get? p.1 = some p.2 := hget p hp
      rcases List.mem_cons.mp (hown p hp) with h1 | h1
      · have h3 : p = (s.heap.objs.size, oI) := by
          rw [h1, hoI] at h2
          exact Prod.ext h1 (Option.some.inj h2).symm
        rw [h3]; exact N' _ (List.mem_cons_self ..)
      · have h4 := (N₁ p (List.mem_append_left _ hp)).2.2
        rw [List.mem_singleton.mp h1, hol] at h4
        cases h4
    · exact N' _ (List.mem_cons_of_mem _ hp)
  · rintro h' tk m' nx F' N' _ ⟨d, rfl, hd, hm⟩
    have em : (fun y => if (x :: stored).contains y = true then m' y else m₀ y) = m' := by
      funext y
      cases hc : (x :: stored).contains y with
      | true => simp
      | false =>
        simp only [Bool.false_eq_true, if_false]
        rw [List.contains_cons, Bool.or_eq_false_iff] at hc
        exact (hm y (fun e => by rw [e] at hc; simp at hc) hc.2).symm
    exact done d m' h' tk hd (by rw [em]; exact F') N'
end

structure WSt where
  x : Str
  t : Tok
  vs : List Value
  n : Nat
  o : Obj

/-- the loop over a text that stands in a cell, a list grown beside it -/
theorem words_while {prog : Program} {w : World} {A : Around} {E : Value → Shared → Prop} {Q : Flow → Shared → Prop} {s : Shared} {env : Env} {h₀ : Heap} {L lw ca : Addr} {oc : Obj} {x : Str} {t : Tok} {test : Expr} {body : List Stmt} {pos : Pos} {m₀ : Str → Option Value}
    (Inv : Str → List Value → Prop)
    (F : Fr h₀ L s.heap m₀) (N : News h₀ L s.heap [(lw, listOf (List.toArray []) 0), (ca, oc)]) (hd : oc.data = .cell (some (.str x t))) (hp : Inv x [])
    (turn : ∀ (c : WSt) (u : Str → Option Value) h tk, c.o.data = .cell (some (.str c.x c.t)) → Inv c.x c.vs → Fr h₀ L h (fun z => if [Str.ofString "size"].contains z then u z else m₀ z) → News h₀ L h [(lw, listOf c.vs.toArray c.n), (ca, c.o)] →
      wpAny (model prog w) A (isTrue test env (eval test env)) (fun b s₂ =>
        if b = true then wpAny (model prog w) A (execs body env) (KswPost h₀ L s (fun c : WSt => [(lw, listOf c.vs.toArray c.n), (ca, c.o)]) (fun _ => []) (fun c => c.o.data = .cell (some (.str c.x c.t))) [Str.ofString "size"] m₀ (fun c => Inv c.x c.vs) (fun c => c.x.length) Q c) E s₂ else Q .next s₂) E { s with heap := h, toks := tk })
    (hE : PassesOwn (model prog w) A env E) :
    wpAny (model prog w) A (exec (.While test body [] pos) env) Q E s :=
  ksw_while (σ := WSt) _ (fun _ => []) _ _ (fun c => Inv c.x c.vs) _ ⟨x, t, [], 0, oc⟩ F N hd (fun _ h => nomatch h) hp (fun c u h tk hf hp F N => turn c u h tk hf hp F N) hE

/-- what a try of two or three signs finds -/
def fits (x : Str) (k : Int) : Bool := KTD.inKeys (Txt.slice x none (some k)) tokD
def sizesG (x : Str) (l : List Int) (k : Int) : List Int := if fits x k = true then l ++ [k] else l
theorem sizesG_yes {x : Str} {l : List Int} {k : Int} (h : KTD.inKeys (Txt.slice x none (some k)) tokD = true) : sizesG x l k = l ++ [k] := if_pos h
theorem sizesG_no {x : Str} {l : List Int} {k : Int} (h : ¬ KTD.inKeys (Txt.slice x none (some k)) tokD = true) : sizesG x l k = l := if_neg h
theorem sizesG_grows (x : Str) : KPfGrows (sizesG x) := by
  intro l k
  unfold sizesG
  split
  · rw [List.length_append]; exact Nat.le_refl _
  · exact Nat.le_succ _
/-- the size of the word at the text's head -/
def szOf (x : Str) : Int := if fits x 3 = true then 3 else if fits x 2 = true then 2 else 1
theorem sizes_are (x : Str) : [2, 3].foldl (sizesG x) [] = if fits x 2 = true then (if fits x 3 = true then [2, 3] else [2]) else (if fits x 3 = true then [3] else []) := by
  simp only [List.foldl_cons, List.foldl_nil, sizesG]
  cases fits x 2 <;> cases fits x 3 <;> rfl
theorem sizes_len (x : Str) : [(1 : Int)].length + ([2, 3].foldl (sizesG x) []).length ≤ sizeLine := by
  rw [sizes_are, sizeLine_eq]
  cases fits x 2 <;> cases fits x 3 <;> decide
theorem szOf_is {x : Str} {M : Int} (h : M ∈ [1] ++ [2, 3].foldl (sizesG x) []) (hle : ∀ a, a ∈ [1] ++ [2, 3].foldl (sizesG x) [] → a ≤ M) : M = szOf x := by
  rw [sizes_are] at h hle
  unfold szOf
  cases h2 : fits x 2 <;> cases h3 : fits x 3 <;> simp only [h2, h3, if_true, if_false, Bool.false_eq_true, List.mem_append, List.mem_cons, List.not_mem_nil, or_false] at h hle ⊢
  · exact h
  · have := hle 3 (.inr rfl); omega
  · have := hle 2 (.inr rfl); omega
  · have := hle 3 (.inr (.inr rfl)); omega

/-- a word at the head of a text, and what is left -/
inductive Tok1 (x : Str) : Int → Str → Prop
  | op : KTD.inKeys (Txt.slice x none (some (szOf x))) tokD = true → Tok1 x (tokV (Txt.slice x none (some (szOf x)))) (Txt.slice x (some (szOf x)) none)
  | reg (k : Nat) : k < 4 → KTD.inKeys (Txt.slice x none (some (szOf x))) tokD = false → Txt.item x 0 = regS k → Tok1 x (256 + k) (Txt.slice x (some (szOf x)) none)
  | num (n : Nat) (d : Int) : KTD.inKeys (Txt.slice x none (some (szOf x))) tokD = false → Txt.contains (Str.ofString "abcd") (Txt.item x 0) = false → n < 24 → szOf x ≤ d → d ≤ x.length → Txt.slice x none (some d) = numS n →
      (∀ i, szOf x ≤ i → i < d → Txt.isdigit (Txt.item x i) = true) → (d < x.length → Txt.isdigit (Txt.item x d) = false) → Tok1 x (-(n : Int) - 1) (Txt.slice x (some d) none)

theorem kst_sub2 {α : Type} {a b c d e f : α} : ∀ p ∈ [e, f], p ∈ [a, b, c, d, e, f] := by
  intro p hp
  simp only [List.mem_cons, List.not_mem_nil, or_false] at hp ⊢
  rcases hp with rfl | rfl <;> simp
theorem fr_rest {h₀ h : Heap} {L : Addr} {x : Str} {v : Value} {mm : Str → Option Value} (_ : Fr h₀ L h (fun z => if z = x then some v else mm z)) : ∃ m2, m2 = mm := ⟨_, rfl⟩
theorem wpAny_cut {M : Model} {A : Around} {E : Value → Shared → Prop} {s : Shared} {env : Env} {st : Stmt} {rest : List Stmt} {Q : Flow → Shared → Prop} (Mid : Shared → Prop) (hA : wpAny M A (exec st env) (fun f s' => f = .next ∧ Mid s') E s) (hB : ∀ s', Mid s' → wpAny M A (execs rest env) Q E s') : wpAny M A (execs (st :: rest) env) Q E s :=
  wpAny_execs_cons (wpAny_mono hA (fun f s' h => by obtain ⟨rfl, h⟩ := h; exact hB s' h) fun _ _ x => x)

inductive Toks : Str → List Int → Prop
  | nil {x : Str} : x.length = 0 → Toks x []
  | cons {x y : Str} {v : Int} {ws : List Int} : Tok1 x v y → y.length < x.length → Toks y ws → Toks x (v :: ws)
def Inv (ws : List Int) (x : Str) (vs : List Value) : Prop := x.length ≤ 200 ∧ ∃ had rest, IntsAre vs had ∧ Toks x rest ∧ had ++ rest = ws

/-- what the branches of a turn leave: the size, the word, the rest -/
def WMid (s : Shared) (h₀ : Heap) (L lw ca : Addr) (mm : Str → Option Value) (c : WSt) (v : Int) (y : Str) (s' : Shared) : Prop :=
  ∃ h' tk' M t u, s' = { s with heap := h', toks := tk' } ∧ Fr h₀ L h' (fun z => if z = Str.ofString "size" then some (.int M t) else mm z) ∧ News h₀ L h' [(lw, listOf (c.vs.toArray.push (.int v u)) (c.n + 1)), (ca, c.o)] ∧ y = Txt.slice c.x (some M) none
theorem words_cut {prog : Program} {w : World} {A : Around} {E : Value → Shared → Prop} {Q : Flow → Shared → Prop} {s : Shared} {env : Env} {h₀ : Heap} {L lw ca : Addr} {mm : Str → Option Value} {st : Stmt} {rest : List Stmt} {c : WSt} {M : Int} {t : Tok} (v : Int) (y : Str)
    (F : Fr h₀ L s.heap (fun z => if z = Str.ofString "size" then some (.int M t) else mm z)) (N : News h₀ L s.heap [(lw, listOf c.vs.toArray c.n), (ca, c.o)])
    (hA : wpAny (model prog w) A (exec st env) (fun f s' => f = .next ∧ WMid s h₀ L lw ca mm c v y s') E s)
    (hB : ∀ h' tk' M t u, Fr h₀ L h' (fun z => if z = Str.ofString "size" then some (.int M t) else mm z) → News h₀ L h' [(lw, listOf (c.vs.toArray.push (.int v u)) (c.n + 1)), (ca, c.o)] → y = Txt.slice c.x (some M) none → wpAny (model prog w) A (execs rest env) Q E { s with heap := h', toks := tk' }) :
    wpAny (model prog w) A (execs (st :: rest) env) Q E s :=
  wpAny_execs_cons (wpAny_mono hA (fun f s' h => by obtain ⟨rfl, h', tk', M, t, u, rfl, F, N, e⟩ := h; exact hB h' tk' M t u F N e) fun _ _ x => x)

theorem szOf_pos (x : Str) : 1 ≤ szOf x := by
  unfold szOf
  (repeat' split) <;> decide
theorem fits_small {i : Int} (h0 : 0 ≤ i) (h : i ≤ 1000) : fitsSsize i = true := fitsSsize_of (N := 2000) (by omega) (by omega) (by decide)
theorem contains_reg {k : Nat} (h : k < 4) : Txt.contains (Str.ofString "abcd") (regS k) = true := by
  have : k = 0 ∨ k = 1 ∨ k = 2 ∨ k = 3 := by omega
  rcases this with rfl | rfl | rfl | rfl <;> decide +kernel
/-- what a turn of the size's loop leaves, and what its end -/
def SzT (s : Shared) (h₀ : Heap) (L : Addr) (news : List (Addr × Obj)) (mm : Str → Option Value) (x : Str) (i d : Int) (f : Flow) (s₃ : Shared) : Prop :=
  f = .next ∧ i < d ∧ ∃ h' tk' t', s₃ = { s with heap := h', toks := tk' } ∧ Fr h₀ L h' (fun z => if z = x then some (.int (i + 1) t') else mm z) ∧ News h₀ L h' news
def SzF (s : Shared) (h₀ : Heap) (L : Addr) (news : List (Addr × Obj)) (mm : Str → Option Value) (x : Str) (i d : Int) (t : Tok) (s₂ : Shared) : Prop :=
  i = d ∧ ∃ h' tk', s₂ = { s with heap := h', toks := tk' } ∧ Fr h₀ L h' (fun z => if z = x then some (.int i t) else mm z) ∧ News h₀ L h' news
theorem fr_twice {h₀ h : Heap} {L : Addr} {x : Str} {a b : Value} {mm : Str → Option Value} (F : Fr h₀ L h (fun z => if z = x then some a else if z = x then some b else mm z)) : Fr h₀ L h (fun z => if z = x then some a else mm z) := by
  have e : (fun z => if z = x then some a else if z = x then some b else mm z) = fun z => if z = x then some a else mm z := by
    funext z
    by_cases hz : z = x
    · rw [if_pos hz, if_pos hz]
    · rw [if_neg hz, if_neg hz, if_neg hz]
  exact e ▸ F
/-- a loop that makes one int of the frame greater, up to d at the most -/
theorem size_while {prog : Program} {w : World} {A : Around} {E : Value → Shared → Prop} {Q : Flow → Shared → Prop} {s : Shared} {env : Env} {h₀ : Heap} {L : Addr} {news : List (Addr × Obj)} {mm : Str → Option Value} {x : Str} {lo : Int} {t : Tok} {test : Expr} {body : List Stmt} {pos : Pos} (d : Int)
    (F : Fr h₀ L s.heap (fun z => if z = x then some (.int lo t) else mm z)) (N : News h₀ L s.heap news) (hd : lo ≤ d)
    (turn : ∀ (i : Int) t h tk, lo ≤ i → i ≤ d → Fr h₀ L h (fun z => if z = x then some (.int i t) else mm z) → News h₀ L h news →
      wpAny (model prog w) A (isTrue test env (eval test env)) (fun b s₂ =>
        if b = true then wpAny (model prog w) A (execs body env) (SzT s h₀ L news mm x i d) E s₂ else SzF s h₀ L news mm x i d t s₂) E { s with heap := h, toks := tk })
    (hB : ∀ h' tk' t, Fr h₀ L h' (fun z => if z = x then some (.int d t) else mm z) → News h₀ L h' news → Q .next { s with heap := h', toks := tk' })
    (hE : PassesOwn (model prog w) A env E) :
    wpAny (model prog w) A (exec (.While test body [] pos) env) Q E s := by
  refine ksw_while (σ := Int × Tok) (fun _ => news) (fun c => [(x, .int c.1 c.2)]) (fun _ => True) [x] (fun c => lo ≤ c.1 ∧ c.1 ≤ d) (fun c => (d - c.1).toNat) (lo, t) F N trivial ?_ ⟨Int.le_refl _, hd⟩ ?_ hE
  · intro p hp
    rw [List.mem_singleton.mp hp]
    exact if_pos rfl
  · rintro ⟨i, t'⟩ u h tk _ ⟨h1, h2⟩ F₁ N₁
    have em : kstB (fun z => if [x].contains z then u z else (fun z => if z = x then some (.int lo t) else mm z) z) [(x, .int i t')] = fun z => if z = x then some (.int i t') else mm z := by
      funext z
      show (if z = x then _ else _) = _
      by_cases hz : z = x
      · rw [if_pos hz, if_pos hz]
      · have hc : [x].contains z = false := by simp [hz]
        rw [if_neg hz, if_neg hz]
        show (if [x].contains z = true then u z else if z = x then _ else mm z) = mm z
        rw [hc, if_neg Bool.false_ne_true, if_neg hz]
    rw [em] at F₁
    refine wpAny_mono (turn i t' h tk h1 h2 F₁ N₁) (fun b s₂ q => ?_) fun _ _ y => y
    cases b with
    | false =>
      simp only [Bool.false_eq_true, if_false] at q ⊢
      obtain ⟨rfl, h', tk', rfl, F', N'⟩ := q
      exact hB h' tk' t' F' N'
    | true =>
      simp only [if_true] at q ⊢
      refine wpAny_mono q (fun f s₃ r => ?_) fun _ _ y => y
      obtain ⟨rfl, hlt, h', tk', t'', rfl, F', N'⟩ := r
      refine ksw_end (i + 1, t'') F' N' (fun p hp => hp) trivial (fun p hp => ?_) (fun z hz hc => ?_) ⟨by show lo ≤ i + 1; omega, by show i + 1 ≤ d; omega⟩ (by show (d - (i + 1)).toNat < (d - i).toNat; omega)
      · rw [List.mem_singleton.mp hp]; exact if_pos rfl
      · have hne := hz _ (.head _)
        show (if z = x then _ else mm z) = if z = x then _ else mm z
        rw [if_neg hne, if_neg hne]

set_option maxHeartbeats 4000000 in
theorem words_tells (w : World) (x : Str) (t : Tok) (ws : List Int) (hT : Toks x ws) (hl : x.length ≤ 200) (hw : ws.length ≤ 1000) :
    Claim w 155 2 [.str x t] (fun _ => True) (newInts ws) := by
  unfold Claim; k_fill; intro mean mg mb dp un gd cn cs ad ccd cl outer A₀ base h₀ L m s Q E B F X T hkf hd hu hp hret; refine wpAny_call ?_
  k_dflt (refine' code_defC0 ?k1 ?k2 ?k3 ?k5 ?kA ?kF ?kK ?k6 ?k7 ?k8 ?k9 ?kB ?kD ?_ ?c2 ?c3 ?c4; (case kA => exact rfl); (case kF => exact rfl); (case kK => assumption); (case k1 => k_asm); (case k2 => k_asm); (case k3 => k_asm); (case k5 => k_asm); (case k6 => k_is); (case k7 => k_is); (case k8 => first | exact Nat.lt_of_le_of_lt (Nat.le_add_right dp _) hd | exact fit2 hd (by decide) | exact fit3 hd (by decide) | (trace "ROOM8"; trace_state; ktr_room)); (case k9 => exact BindsTo.of_eq (binds := [(Str.ofString "text", .str x t)]) rfl); (case kB => exact rfl); (case kD => decide +kernel); (case c2 => exact rfl); (case c3 => exact rfl); (case c4 => exact rfl); k_whole; intro L' h' tk' cells' F' N' Y' B' X' T'; k_cells Y'; (try simp only [List.cons_append, List.nil_append] at N'); (try dsimp only); (try k_lift B'); (try k_fold))
  repeat' ((fail_if_success (with_reducible show wpAny _ _ (execs (Stmt.While _ _ _ _ :: _) _) _ _ _)); first | (k_unfold; (try dsimp only)) | (k_end; wrow_close) | walk1 | (dsimp only; walk1) | (leave1; try dsimp only))
  (rename Fr _ _ _ _ => lF'); (rename News _ _ _ _ => lN'); (rename (Obj.data _ = _) => hd1); (rename ∀ p ∈ ([_] : List (Addr × Obj)), p.1 < _ => hlt9)
  have hlw := hlt9 _ (.head _)
  refine wpAny_execs_cons ?_
  refine words_while (Inv ws) lF' lN' hd1 ⟨hl, [], ws, .nil, hT, rfl⟩ ?_ (by passes_own)
  clear lF' lN' hd1
  intro c u h tk hf hp F N
  obtain ⟨hlen, had, rest, hI, hTs, hws⟩ := hp
  have hvs : c.vs.toArray.size ≤ sizeLine := by
    rw [List.size_toArray, hI.length, sizeLine_eq]
    have := congrArg List.length hws
    rw [List.length_append] at this
    omega
  dsimp only
  with_reducible show wpAny _ _ _ _ _ _
  k_fold
  repeat' ((fail_if_success (with_reducible show wpAny _ _ (eval (PySem.Expr.ListComp _ _ _ _) _) _ _ _)); first | ((with_reducible show wpAny _ _ (truthy (Value.str _ _)) _ _ _); refine truthy_str (by omega) ?_) | (k_unfold; (try dsimp only)) | (k_gentoks; (try dsimp only)) | (k_end; wrow_close) | walk1 | (dsimp only; walk1) | (leave1; try dsimp only))
  rotate_left
  · cases hTs with
    | cons _ h2 _ => (exfalso; omega)
    | nil _ =>
      rw [List.append_nil] at hws
      subst hws
      exact hret _ _ _ F.keep ⟨_, _, _, rfl, N.fresh (.head _), (N _ (.head _)).1, hI⟩
  k_dflt (refine ListComp_Tup (by k_asm) [2, 3] (sizesG c.x) (sizesG_grows c.x) (by with_unfolding_all rfl) (by decide) (by rfl) (by decide) (by rfl) (by decide) ?_)
  repeat' ((fail_if_success (with_reducible show Exists _)); first | (k_unfold; (try dsimp only)) | (k_gentoks; (try dsimp only)) | (k_end; wrow_close) | walk1 | (dsimp only; walk1) | (leave1; try dsimp only))
  refine ⟨_, _, _, _, rfl, .cons _ _ (.cons _ _ .nil), rfl, by assumption, by assumption, by k_mem, ?_, ?_⟩
  · intro k t' I oI C oC D m₂ ys l h tk E' hk hI' hC hx F N off ne
    (simp only [LCg.Off3, and_true] at off)
    obtain ⟨n1, n2, n3⟩ := ne
    obtain ⟨⟨_, _, _⟩, ⟨_, _, _⟩, ⟨_, _, _⟩, _, _, _⟩ := off
    dsimp only
    with_reducible show wpAny _ _ _ _ _ _
    k_fold
    repeat' (first | ((with_reducible show wpAny _ _ (call (Value.ref _) _) _ _ _); (k_dflt (refine' Claim.use ?k1 ?k2 ?k3 ?k4 ?k5 ?kK (containsT_tells _ _ _) ?kd ?ku ?kp ?_); (case k1 => k_asm); (case k2 => k_asm); (case k3 => k_asm); (case k4 => k_asm); (case k5 => k_asm); (case kK => first | exact rfl | assumption); (case kd => first | assumption | first | exact fit2 hd (by decide) | exact fit3 hd (by decide) | (trace "ROOM"; trace_state; ktr_room)); (case ku => first | exact fit2 hu (by decide) | exact fit3 hu (by decide) | (trace "UNITS"; trace_state; ktr_units)); (case kp => trivial); (intro v9 h9 tk9 g9 F9 N9 st9 hp9); subst hp9; (try dsimp only))) | ((with_reducible show KCiEl _ _ _ _ _); exact kci_el (sizesG_yes (by assumption)) rfl rfl) | ((with_reducible show KCiNo _ _ _ _); exact kci_no (sizesG_no (by first | assumption | (rw [Bool.not_eq_true]; assumption))) rfl) | (k_unfold; (try dsimp only)) | (k_gentoks; (try dsimp only)) | (k_end; wrow_close) | walk1 | (dsimp only; walk1) | (leave1; try dsimp only))
  intro D h tk ys hys F N off
  clear off
  repeat' ((fail_if_success (with_reducible show wpAny _ _ (execs _ _) _ _ _)); first | ((with_reducible show wpAny _ _ (binaryOp Operator.Add _ _) _ _ _); (refine kmk_add_ints (by k_asm) (by k_asm) (listIn (by k_asm) (by k_mem)) (listIn (by k_asm) (by k_mem)) (.cons _ _ .nil) (by assumption) (fun D9 us9 h9 F9 N9 l9 hI9 => ?_) (sizes_len _))) | (k_unfold; (try dsimp only)) | (k_gentoks; (try dsimp only)) | (k_end; wrow_close) | walk1 | (dsimp only; walk1) | (leave1; try dsimp only))
  (rename (_ ∈ [(1 : Int)] ++ _) => hM9)
  have e9 := szOf_is hM9 (by assumption)
  (rename Fr _ _ _ _ => F1); (rename News _ _ _ _ => N0)
  rw [e9] at F1
  have N1 := cb_drop N0 (kst_sub2)
  clear N0 hM9 e9 hys
  cases hTs with
  | nil _ => (exfalso; omega)
  | @cons _ y v rest hT1 hlt hTs =>
  refine words_cut v y F1 N1 ?_ ?_
  · k_fold
    repeat' ((fail_if_success (with_reducible first | show wpAny _ _ (exec (Stmt.While _ _ _ _) _) _ _ _ | show wpAny _ _ (execs (Stmt.Expr _ _ :: _) _) _ _ _)); first | ((with_reducible show wpAny _ _ (call (Value.ref 70) [Value.ref _, _]) _ _ _); (k_dflt (refine' Claim.use ?k1 ?k2 ?k3 ?k4 ?k5 ?kK (containsT_tells _ _ _) ?kd ?ku ?kp ?_); (case k1 => k_asm); (case k2 => k_asm); (case k3 => k_asm); (case k4 => k_asm); (case k5 => k_asm); (case kK => first | exact rfl | assumption); (case kd => first | assumption | first | exact fit2 hd (by decide) | exact fit3 hd (by decide) | (trace "ROOM"; trace_state; ktr_room)); (case ku => first | exact fit2 hu (by decide) | exact fit3 hu (by decide) | (trace "UNITS"; trace_state; ktr_units)); (case kp => trivial); (intro v9 h9 tk9 g9 F9 N9 st9 hp9); subst hp9; (try dsimp only))) | ((with_reducible show wpAny _ _ (call (Value.ref 70) [Value.str _ _, _]) _ _ _); (k_dflt (refine' Claim.use ?k1 ?k2 ?k3 ?k4 ?k5 ?kK (containsS_tells _ _ _ _ _) ?kd ?ku ?kp ?_); (case k1 => k_asm); (case k2 => k_asm); (case k3 => k_asm); (case k4 => k_asm); (case k5 => k_asm); (case kK => first | exact rfl | assumption); (case kd => first | assumption | first | exact fit2 hd (by decide) | exact fit3 hd (by decide) | (trace "ROOM"; trace_state; ktr_room)); (case ku => first | exact fit2 hu (by decide) | exact fit3 hu (by decide) | (trace "UNITS"; trace_state; ktr_units)); (case kp => trivial); (intro v9 h9 tk9 g9 F9 N9 st9 hp9); subst hp9; (try dsimp only))) | (k_unfold; (try dsimp only)) | (k_gentoks; (try dsimp only)) | (k_end; wrow_close) | walk1 | (dsimp only; walk1) | (leave1; try dsimp only))
    · cases hT1 with
      | reg _ _ h9 _ => exact False.elim (Bool.false_ne_true (h9.symm.trans (by assumption)))
      | num _ _ h9 => exact False.elim (Bool.false_ne_true (h9.symm.trans (by assumption)))
      | op _ =>
      repeat' (first | ((with_reducible show wpAny _ _ (call (Value.ref 77) _) _ _ _); (k_dflt (refine' Claim.use ?k1 ?k2 ?k3 ?k4 ?k5 ?kK (getT_tells _ _ _ (by assumption)) ?kd ?ku ?kp ?_); (case k1 => k_asm); (case k2 => k_asm); (case k3 => k_asm); (case k4 => k_asm); (case k5 => k_asm); (case kK => first | exact rfl | assumption); (case kd => first | assumption | first | exact fit2 hd (by decide) | exact fit3 hd (by decide) | (trace "ROOM"; trace_state; ktr_room)); (case ku => first | exact fit2 hu (by decide) | exact fit3 hu (by decide) | (trace "UNITS"; trace_state; ktr_units)); (case kp => trivial); (intro v9 h9 tk9 g9 F9 N9 st9 hp9); (obtain ⟨t8, e8⟩ := hp9; subst e8); (try dsimp only))) | ((with_reducible show wpAny _ _ (call (Value.builtin "list.append") _) _ _ _); (refine append_K (by k_asm) (by k_asm) (Upd.head (by intro p hp; rw [List.mem_singleton.mp hp]; exact Nat.ne_of_lt hlw)) (fun h9 F9 N9 => ?_) hvs)) | (k_unfold; (try dsimp only)) | (k_gentoks; (try dsimp only)) | (k_end; wrow_close) | walk1 | (dsimp only; walk1) | (leave1; try dsimp only))
      exact ⟨_, _, _, _, _, rfl, by assumption, by assumption, rfl⟩
    · cases hT1 with
      | op h9 => exact False.elim (Bool.false_ne_true ((show KTD.inKeys (Txt.slice c.x none (some (szOf c.x))) tokD = false from by assumption).symm.trans h9))
      | num _ _ _ h9 => exact False.elim (Bool.false_ne_true (h9.symm.trans (by assumption)))
      | reg k hk4 _ hitem =>
      repeat' ((fail_if_success (with_reducible show wpAny _ _ (subscriptTail _ _ (Value.str _ _) (Value.int _ _)) _ _ _)); first | (k_unfold; (try dsimp only)) | (with_reducible (refine wpAny_tokP ?_); intro tk htk; (try dsimp only)) | (k_end; wrow_close) | walk1 | (dsimp only; walk1) | (leave1; try dsimp only))
      refine item_str (by decide) (by omega) (by omega) (fun _ => ?_)
      rw [hitem]
      repeat' ((fail_if_success (with_reducible show wpAny _ _ (call (Value.ref 84) _) _ _ _)); first | (k_unfold; (try dsimp only)) | (k_end; wrow_close) | walk1 | (dsimp only; walk1) | (leave1; try dsimp only))
      (k_dflt (refine' Claim.use ?k1 ?k2 ?k3 ?k4 ?k5 ?kK (indexOf_tells _ k hk4 _ _) ?kd ?ku ?kp ?_); (case k1 => k_asm); (case k2 => k_asm); (case k3 => k_asm); (case k4 => k_asm); (case k5 => k_asm); (case kK => first | exact rfl | assumption); (case kd => first | assumption | first | exact fit2 hd (by decide) | exact fit3 hd (by decide) | (trace "ROOM"; trace_state; ktr_room)); (case ku => first | exact fit2 hu (by decide) | exact fit3 hu (by decide) | (trace "UNITS"; trace_state; ktr_units)); (case kp => (first | exact ⟨Nat.succ_pos _, Nat.lt_succ_self _⟩ | exact ⟨by assumption, Nat.lt_succ_self _⟩)); (intro v9 h9 tk9 g9 F9 N9 st9 hp9); (obtain ⟨t8, e8⟩ := hp9; subst e8); (try dsimp only))
      repeat' (first | ((with_reducible show wpAny _ _ (call (Value.ref 21) _) _ _ _); (k_dflt (refine' Claim.use ?k1 ?k2 ?k3 ?k4 ?k5 ?kK (add_tells _ _ _ _ _) ?kd ?ku ?kp ?_); (case k1 => k_asm); (case k2 => k_asm); (case k3 => k_asm); (case k4 => k_asm); (case k5 => k_asm); (case kK => first | exact rfl | assumption); (case kd => first | assumption | first | exact fit2 hd (by decide) | exact fit3 hd (by decide) | (trace "ROOM"; trace_state; ktr_room)); (case ku => first | exact fit2 hu (by decide) | exact fit3 hu (by decide) | (trace "UNITS"; trace_state; ktr_units)); (case kp => trivial); (intro v9 h9 tk9 g9 F9 N9 st9 hp9); (obtain ⟨t8, e8⟩ := hp9; subst e8); (try dsimp only))) | ((with_reducible show wpAny _ _ (call (Value.builtin "list.append") _) _ _ _); (refine append_K (by k_asm) (by k_asm) (Upd.head (by intro p hp; rw [List.mem_singleton.mp hp]; exact Nat.ne_of_lt hlw)) (fun h9 F9 N9 => ?_) hvs)) | (k_unfold; (try dsimp only)) | (k_gentoks; (try dsimp only)) | (k_end; wrow_close) | walk1 | (dsimp only; walk1) | (leave1; try dsimp only))
      exact ⟨_, _, _, _, _, rfl, by assumption, by assumption, rfl⟩
    · cases hT1 with
      | op h9 => exact False.elim (Bool.false_ne_true ((show KTD.inKeys (Txt.slice c.x none (some (szOf c.x))) tokD = false from by assumption).symm.trans h9))
      | reg k hk4 _ hitem => exact False.elim (Bool.false_ne_true ((show Txt.contains (Str.ofString "abcd") (Txt.item c.x 0) = false from by assumption).symm.trans (hitem ▸ contains_reg hk4)))
      | num n d _ _ hn24 hd0 hd1 hnum hdig hend =>
      (rename Fr _ _ _ _ => F2); (rename News _ _ _ _ => N2)
      refine size_while d F2 N2 hd0 ?_ ?_ (by passes_own)
      · clear F2 N2
        intro i ti h tk hi0 hi1 F2 N2
        have hi2 := szOf_pos c.x
        dsimp only
        with_reducible show wpAny _ _ _ _ _ _
        k_fold
        repeat' (first | ((with_reducible show wpAny _ _ (subscriptTail _ _ (Value.str _ _) (Value.int _ _)) _ _ _); refine item_str (fits_small (by omega) (by omega)) (by omega) (by omega) (fun _ => ?_)) | (k_unfold; (try dsimp only)) | (k_gentoks; (try dsimp only)) | (k_end; wrow_close) | walk1 | (dsimp only; walk1) | (leave1; try dsimp only))
        · have hlt : i < d := by
            rcases Int.lt_or_eq_of_le hi1 with h | e
            · exact h
            · have h8 := hend (by omega)
              rw [← e] at h8
              exact absurd (h8.symm.trans (by assumption)) Bool.false_ne_true
          exact ⟨rfl, hlt, _, _, _, rfl, fr_twice (by assumption), by assumption⟩
        all_goals refine ⟨Int.le_antisymm hi1 (Int.not_lt.mp fun h => ?_), _, _, rfl, by assumption, by assumption⟩
        all_goals first
          | omega
          | exact Bool.false_ne_true ((show Txt.isdigit (Txt.item c.x i) = false from by assumption).symm.trans (hdig i hi0 h))
      · clear F2 N2
        intro h tk ti F2 N2
        dsimp only
        with_reducible show wpAny _ _ _ _ _ _
        k_fold
        repeat' (first | ((with_reducible show wpAny _ _ (call (Value.type "int") _) _ _ _); ((rw [hnum]); refine KIN.call_num (Int.natCast_nonneg _) (by omega) ?_)) | ((with_reducible show wpAny _ _ (call (Value.ref 35) _) _ _ _); (k_dflt (refine' Claim.use ?k1 ?k2 ?k3 ?k4 ?k5 ?kK (inv_tells _ _ _) ?kd ?ku ?kp ?_); (case k1 => k_asm); (case k2 => k_asm); (case k3 => k_asm); (case k4 => k_asm); (case k5 => k_asm); (case kK => first | exact rfl | assumption); (case kd => first | assumption | first | exact fit2 hd (by decide) | exact fit3 hd (by decide) | (trace "ROOM"; trace_state; ktr_room)); (case ku => first | exact fit2 hu (by decide) | exact fit3 hu (by decide) | (trace "UNITS"; trace_state; ktr_units)); (case kp => trivial); (intro v9 h9 tk9 g9 F9 N9 st9 hp9); (obtain ⟨t8, e8⟩ := hp9; subst e8); (try dsimp only))) | ((with_reducible show wpAny _ _ (call (Value.builtin "list.append") _) _ _ _); (refine append_K (by k_asm) (by k_asm) (Upd.head (by intro p hp; rw [List.mem_singleton.mp hp]; exact Nat.ne_of_lt hlw)) (fun h9 F9 N9 => ?_) hvs)) | (k_unfold; (try dsimp only)) | (k_gentoks; (try dsimp only)) | (k_end; wrow_close) | walk1 | (dsimp only; walk1) | (leave1; try dsimp only))
        exact ⟨_, _, _, _, _, rfl, by assumption, by assumption, rfl⟩
  · intro h' tk' M t u F N hy
    dsimp only
    with_reducible show wpAny _ _ _ _ _ _
    k_fold
    repeat' ((fail_if_success (with_reducible show KswEnd _ _ _ _ _ _ _ _ _ _ _ _)); first | (k_unfold; (try dsimp only)) | (k_gentoks; (try dsimp only)) | (k_end; wrow_close) | walk1 | (dsimp only; walk1) | (leave1; try dsimp only))
    (rename Fr _ _ _ _ => F8); (rename News _ _ _ _ => N8); (rename (Obj.data _ = _) => hd8)
    rw [List.push_toArray] at N8
    rw [← hy] at hd8
    refine ksw_end (⟨y, _, c.vs ++ [.int v u], c.n + 1, _⟩ : WSt) F8 N8 (fun p hp => hp) hd8 (fun _ h => nomatch h) ?_ ⟨Nat.le_trans (Nat.le_of_lt hlt) hlen, had ++ [v], rest, IntsAre.append hI (.cons v u .nil), hTs, by rw [List.append_assoc]; exact hws⟩ hlt
    intro z _ hc
    have hne : z ≠ Str.ofString "size" := by rintro rfl; simp at hc
    show (if z = _ then _ else if [Str.ofString "size"].contains z = true then _ else _) = _
    rw [if_neg hne, hc, if_neg Bool.false_ne_true]

/-- one step of a program: the word that is changed, the operator, the word that goes in -/
def goalOf (a b : Int) : Int := if 256 ≤ a then a else b
def srcOf (a b : Int) : Int := if 256 ≤ a then b else a
def valOf (r : List Int) (y : Int) : Int := if 256 ≤ y then r.getD (y - 256).toNat 0 else -y - 1
def stepP (a k b : Int) (r : List Int) : List Int := r.set (goalOf a b - 256).toNat (deed k (r.getD (goalOf a b - 256).toNat 0) (valOf r (srcOf a b)))
/-- what a step asks -/
def okP (a k b : Int) (r : List Int) : Prop :=
  (256 ≤ goalOf a b ∧ goalOf a b < 260) ∧ (256 ≤ srcOf a b → srcOf a b < 260) ∧ (k = 36 ∨ k = 37 ∨ k = 38 ∨ k = 41 ∨ k = 42 ∨ k = 43 ∨ k = 44) ∧
  (k = 38 → IntMulOk (r.getD (goalOf a b - 256).toNat 0) (valOf r (srcOf a b))) ∧
  (k = 44 → 0 ≤ valOf r (srcOf a b) ∧ (Builtin.Int.intBits (r.getD (goalOf a b - 256).toNat 0) : Int) + valOf r (srcOf a b) ≤ 2 ^ 27)
/-- the row behind the first n steps -/
def runP (ws : List Int) (r : List Int) : Nat → List Int
  | 0 => r
  | n + 1 => stepP (ws.getD (4 * n) 0) (ws.getD (4 * n + 1) 0) (ws.getD (4 * n + 2) 0) (runP ws r n)

theorem size_four {n : Nat} (h : 1 ≤ n) : Builtin.Range.rangeSize 0 ((4 * n - 1 : Nat) : Int) 4 = (n : Int) := by
  unfold Builtin.Range.rangeSize
  rw [if_pos (by decide), if_pos (by omega)]
  omega
theorem small_four {n : Nat} (h : n ≤ 1000) : Builtin.Range.small 0 (n : Int) 4 = true := by
  have : ∀ n : Fin 1001, Builtin.Range.small 0 (n.val : Int) 4 = true := by decide +kernel
  exact this ⟨n, by omega⟩
theorem three {l : List Value} {ws : List Int} {i n : Nat} (h : IntsAre l ((ws.drop (0 + (i : Int) * 4).toNat).take (min (0 + (i : Int) * 4 + 3).toNat ws.length - (0 + (i : Int) * 4).toNat))) (hn : ws.length = 4 * n - 1) (hi : i < n) : IntsAre l [ws.getD (4 * i) 0, ws.getD (4 * i + 1) 0, ws.getD (4 * i + 2) 0] := by
  have e : (ws.drop (0 + (i : Int) * 4).toNat).take (min (0 + (i : Int) * 4 + 3).toNat ws.length - (0 + (i : Int) * 4).toNat) = [ws.getD (4 * i) 0, ws.getD (4 * i + 1) 0, ws.getD (4 * i + 2) 0] := by
    rw [show (0 + (i : Int) * 4).toNat = 4 * i by omega, show min (0 + (i : Int) * 4 + 3).toNat ws.length - 4 * i = 3 by omega]
    apply List.ext_getElem
    · simp only [List.length_take, List.length_drop, List.length_cons, List.length_nil]; omega
    · intro j h1 h2
      have : j = 0 ∨ j = 1 ∨ j = 2 := by simp only [List.length_cons, List.length_nil] at h2; omega
      rcases this with rfl | rfl | rfl <;> simp [List.getD_eq_getElem?_getD, show 4 * i < ws.length by omega, show 4 * i + 1 < ws.length by omega, show 4 * i + 2 < ws.length by omega]
  exact e ▸ h
def CMid (s : Shared) (h₀ : Heap) (L : Addr) (mid : Tok → Tok → Str → Option Value) (nw : List (Addr × Obj)) (f : Flow) (s' : Shared) : Prop :=
  f = .next ∧ ∃ h' tk' t u, s' = { s with heap := h', toks := tk' } ∧ Fr h₀ L h' (mid t u) ∧ News h₀ L h' nw
section
variable {M : Model} {A : Around} {E : Value → Shared → Prop} {s : Shared} {env : Env} {h₀ : Heap} {L : Addr} {st : Stmt} {rest : List Stmt} {Q : Flow → Shared → Prop} {nw : List (Addr × Obj)} {mm : Str → Option Value}
theorem cutF (mid : Tok → Tok → Str → Option Value) (hA : wpAny M A (exec st env) (CMid s h₀ L mid nw) E s)
    (hB : ∀ h' tk' t u, Fr h₀ L h' (mid t u) → News h₀ L h' nw → wpAny M A (execs rest env) Q E { s with heap := h', toks := tk' }) : wpAny M A (execs (st :: rest) env) Q E s :=
  wpAny_execs_cons (wpAny_mono hA (fun f s' h => by obtain ⟨rfl, h', tk', t, u, rfl, F, N⟩ := h; exact hB h' tk' t u F N) fun _ _ x => x)
theorem cut3 {x1 x2 x3 : Str} {v1 v2 v3 : Option Value} (_F : Fr h₀ L s.heap (fun y => if y = x1 then v1 else if y = x2 then v2 else if y = x3 then v3 else mm y)) (_N : News h₀ L s.heap nw) (g1 g3 : Tok → Value)
    (hA : wpAny M A (exec st env) (CMid s h₀ L (fun t u y => if y = x1 then some (g1 t) else if y = x2 then v2 else if y = x3 then some (g3 u) else mm y) nw) E s)
    (hB : ∀ h' tk' t u, Fr h₀ L h' (fun y => if y = x1 then some (g1 t) else if y = x2 then v2 else if y = x3 then some (g3 u) else mm y) → News h₀ L h' nw → wpAny M A (execs rest env) Q E { s with heap := h', toks := tk' }) : wpAny M A (execs (st :: rest) env) Q E s :=
  cutF _ hA hB
theorem cut0 (_F : Fr h₀ L s.heap mm) (_N : News h₀ L s.heap nw) (x : Str) (g : Tok → Value)
    (hA : wpAny M A (exec st env) (CMid s h₀ L (fun t _ y => if y = x then some (g t) else mm y) nw) E s)
    (hB : ∀ h' tk' t, Fr h₀ L h' (fun y => if y = x then some (g t) else mm y) → News h₀ L h' nw → wpAny M A (execs rest env) Q E { s with heap := h', toks := tk' }) : wpAny M A (execs (st :: rest) env) Q E s :=
  cutF _ hA (fun h tk t _ => hB h tk t)
end
theorem fr_eq {h₀ h : Heap} {L : Addr} {m m' : Str → Option Value} (F : Fr h₀ L h m) (e : ∀ y, m y = m' y) : Fr h₀ L h m' := (funext e : m = m') ▸ F
theorem fr_swap {h₀ h : Heap} {L : Addr} {x1 x2 x3 : Str} {v1 v1' v2 v3 v3' : Option Value} {mm : Str → Option Value} (hd : x1 ≠ x2 ∧ x1 ≠ x3 ∧ x2 ≠ x3) (F : Fr h₀ L h (fun y => if y = x3 then v3 else if y = x1 then v1 else if y = x1 then v1' else if y = x2 then v2 else if y = x3 then v3' else mm y)) :
    Fr h₀ L h (fun y => if y = x1 then v1 else if y = x2 then v2 else if y = x3 then v3 else mm y) := by
  obtain ⟨d1, d2, d3⟩ := hd
  refine fr_eq F fun y => ?_
  by_cases h1 : y = x1
  · subst h1; simp [d1, d2]
  · by_cases h3 : y = x3
    · subst h3; simp [Ne.symm d2, Ne.symm d3]
    · simp [h1, h3]
theorem stepP_len {a k b : Int} {r : List Int} : (stepP a k b r).length = r.length := List.length_set ..
theorem runP_len {ws r : List Int} : ∀ n, (runP ws r n).length = r.length
  | 0 => rfl
  | n + 1 => stepP_len.trans (runP_len n)
theorem k63 {k : Int} {r : List Int} (h : k < r.length) (e : r.length = 4) : k < 2 ^ 63 := by omega
set_option maxHeartbeats 4000000 in
theorem getL_tells (w : World) (l : Addr) (k : Int) (t : Tok) (vs : List Value) (ns : List Int) (hi : IntsAre vs ns) (h0 : 0 ≤ k) (h1 : k < ns.length) (hz : ns.length = 4) : Claim w 77 1 [.ref l, .int k t] (fun s => s.heap.IsList l vs.toArray) (fun _ _ v => ∃ t, v = .int (ns.getD k.toNat 0) t) := by
  unfold Claim; k_fill; intro mean mg mb dp un gd cn cs ad ccd cl outer A₀ base h₀ L m s Q E B F X T hkf hd hu hp hret; refine wpAny_call ?_
  k_dflt (refine' code_def0 ?k1 ?k2 ?k3 ?k5 ?kA ?kF ?kK ?k6 ?k7 ?k8 ?k9 ?kB ?_ ?c2 ?c3 ?c4 ?c5; (case kA => exact rfl); (case kF => exact rfl); (case kK => assumption); (case k1 => k_asm); (case k2 => k_asm); (case k3 => k_asm); (case k5 => k_asm); (case k6 => k_is); (case k7 => k_is); (case k8 => first | exact Nat.lt_of_le_of_lt (Nat.le_add_right dp _) hd | exact fit2 hd (by decide) | exact fit3 hd (by decide) | (trace "ROOM8"; trace_state; ktr_room)); (case k9 => exact BindsTo.of_eq (binds := [(Str.ofString "a", .ref l), (Str.ofString "b", .int k t)]) rfl); (case c5 => decide); (case kB => exact locs rfl); (case c2 => exact rfl); (case c3 => exact rfl); (case c4 => exact rfl); k_whole; intro L' h' F' N' B' X' T'; (try dsimp only); (try k_lift B'); (try k_fold))
  repeat' (first | ((with_reducible show wpAny _ _ (subscriptTail _ _ _ _) _ _ _); (refine item_anyK (hp.at fun o e => Fr.keep (by k_asm) _ o e) hi h0 h1 (k63 h1 hz) (fun t9 => ?_) (by with_unfolding_all rfl))) | (k_unfold; (try dsimp only)) | (k_gentoks; (try dsimp only)) | (k_end; wrow_close) | walk1 | (dsimp only; walk1) | (leave1; try dsimp only))
  refine hret _ _ _ (fun b o e => Fr.keep (by assumption) b o e) ?_; exact ⟨_, rfl⟩
theorem pl {x : Int} (h : 256 ≤ x) : 0 ≤ x - 256 := by omega
theorem pl4 {x : Int} {r : List Int} (h : x < 260) (e : r.length = 4) : x - 256 < r.length := by rw [e]; omega
theorem pl63 {x : Int} (h : x < 260) : x - 256 < 2 ^ 63 := by omega
theorem threeS {vw : List Value} {ws : List Int} {i n : Nat} (hi : IntsAre vw ws) (hn : ws.length = 4 * n - 1) (h : i < n) : IntsAre (slicePick vw.toArray (some (0 + (i : Int) * 4)) (some (0 + (i : Int) * 4 + 3)) none).toList [ws.getD (4 * i) 0, ws.getD (4 * i + 1) 0, ws.getD (4 * i + 2) 0] :=
  three (kmk_run hi (by omega) (by omega)) hn h
theorem ints_size {vs : List Value} {ns : List Int} (h : IntsAre vs ns) (hl : ns.length ≤ 2000) : vs.toArray.size ≤ sizeLine := by rw [List.size_toArray, h.length, sizeLine_eq]; omega
theorem four_len {ws : List Int} {n : Nat} (hn : ws.length = 4 * n - 1) (hn1 : 1 ≤ n) (hn2 : n ≤ 100) : Builtin.Range.small 0 (ws.length : Int) 4 = true ∧ Builtin.Range.rangeSize 0 (ws.length : Int) 4 = (n : Int) ∧ ws.length ≤ 2000 :=
  ⟨small_four (by omega), by rw [hn]; exact size_four hn1, by omega⟩
structure RSt where
  vs : List Value
  n : Nat

set_option maxHeartbeats 4000000 in
theorem run_tells (w : World) (lw lr : Addr) (vw vr : List Value) (ws r : List Int) (n : Nat) (hiw : IntsAre vw ws) (hir : IntsAre vr r) (hr4 : r.length = 4) (hn : ws.length = 4 * n - 1) (hn1 : 1 ≤ n) (hn2 : n ≤ 100)
    (hok : ∀ i, i < n → okP (ws.getD (4 * i) 0) (ws.getD (4 * i + 1) 0) (ws.getD (4 * i + 2) 0) (runP ws r i)) :
    Claim w 169 4 [.ref lw, .ref lr] (fun s => s.heap.IsList lw vw.toArray ∧ s.heap.IsList lr vr.toArray) (newInts (runP ws r n)) := by
  unfold Claim; k_fill; intro mean mg mb dp un gd cn cs ad ccd cl outer A₀ base h₀ L m s Q E B F X T hkf hd hu hp hret; refine wpAny_call ?_
  k_dflt (refine' code_def0 ?k1 ?k2 ?k3 ?k5 ?kA ?kF ?kK ?k6 ?k7 ?k8 ?k9 ?kB ?_ ?c2 ?c3 ?c4 ?c5; (case kA => exact rfl); (case kF => exact rfl); (case kK => assumption); (case k1 => k_asm); (case k2 => k_asm); (case k3 => k_asm); (case k5 => k_asm); (case k6 => k_is); (case k7 => k_is); (case k8 => first | exact Nat.lt_of_le_of_lt (Nat.le_add_right dp _) hd | exact fit2 hd (by decide) | exact fit3 hd (by decide) | (trace "ROOM8"; trace_state; ktr_room)); (case k9 => exact BindsTo.of_eq (binds := [(Str.ofString "words", .ref lw), (Str.ofString "row", .ref lr)]) rfl); (case c5 => decide); (case kB => exact locs rfl); (case c2 => exact rfl); (case c3 => exact rfl); (case c4 => exact rfl); k_whole; intro L' h' F' N' B' X' T'; (try dsimp only); (try k_lift B'); (try k_fold))
  obtain ⟨hpw, hpr⟩ := hp
  have hsz := ints_size hir (hr4 ▸ (by decide))
  obtain ⟨hsm, hrs, hlw⟩ := four_len hn hn1 hn2
  have hsw := ints_size hiw hlw
  repeat' ((fail_if_success (with_reducible show wpAny _ _ (pyIter (Value.ref _)) _ _ _)); first | ((with_reducible show wpAny _ _ (call (Value.type "list") _) _ _ _); (refine list_copyK (by k_asm) (by k_asm) (hpr.at fun o e => Fr.keep (by k_asm) _ o e) (fun D c h' F N hD => ?_) hsz)) | (k_unfold; (try dsimp only)) | (k_gentoks; (try dsimp only)) | (k_end; wrow_close) | walk1 | (dsimp only; walk1) | (leave1; try dsimp only))
  (rename Fr _ _ _ _ => F1); (rename News _ _ _ _ => N1); (rename IsRange _ _ _ _ _ _ _ _ => hR)
  with_unfolding_all refine range_loop (σ := RSt) (fun d => [(D, listOf d.vs.toArray d.n)]) [Str.ofString "goal", Str.ofString "kind", Str.ofString "source", Str.ofString "place", Str.ofString "value"] (fun i d => IntsAre d.vs (runP ws r i)) ⟨vr, c⟩ (fun _ => rfl) (by rfl) hR hsm hrs F1 N1 hir ?_ ?_
  · clear F1 N1 hR
    intro I i d t u h tk hI hi hp F N
    dsimp only
    with_reducible show wpAny _ _ _ _ _ _
    k_fold
    repeat' ((fail_if_success (with_reducible show wpAny _ _ (subscriptTail _ _ (Value.ref _) (Value.ref _)) _ _ _)); first | (k_unfold; (try dsimp only)) | (k_gentoks; (try dsimp only)) | (k_end; wrow_close) | walk1 | (dsimp only; walk1) | (leave1; try dsimp only))
    refine kmk_slice_ints (by k_asm) (by k_asm) (hpw.at fun o e => Fr.keep (by k_asm) _ o e) (.int _ _) (.int _ _) hiw (threeS hiw hn hi) rfl (fun D9 ws9 h9 F9 N9 l9 hI9 _ _ => ?_) (by with_unfolding_all rfl) (fun _ => rfl) hsw
    cases hI9 with
    | cons _ t1 h1 => cases h1 with
    | cons _ t2 h2 => cases h2 with
    | cons _ t3 h3 => cases h3 with
    | nil =>
    (try k_sweep)
    repeat' ((fail_if_success (with_reducible show wpAny _ _ (execs (Stmt.If _ _ _ _ :: _) _) _ _ _)); first | (k_unfold; (try dsimp only)) | (k_gentoks; (try dsimp only)) | (k_end; wrow_close) | walk1 | (dsimp only; walk1) | (leave1; try dsimp only))
    (rename Fr _ _ _ _ => F1); (rename News _ _ _ _ => N1)
    have N2 := cb_drop N1 (fun p hp => .tail _ hp)
    clear N1
    have hok := hok i hi
    generalize ea : ws.getD (4 * i) 0 = a, ek' : ws.getD (4 * i + 1) 0 = k, eb : ws.getD (4 * i + 2) 0 = b at *
    refine cut3 F1 N2 (fun t => .int (srcOf a b) t) (fun t => .int (goalOf a b) t) ?_ ?_
    · (try k_fold)
      repeat' (first | ((with_reducible show wpAny _ _ (call (Value.ref 150) _) _ _ _); (k_dflt (refine' Claim.use ?k1 ?k2 ?k3 ?k4 ?k5 ?kK (nonterm_tells _ _ _) ?kd ?ku ?kp ?_); (case k1 => k_asm); (case k2 => k_asm); (case k3 => k_asm); (case k4 => k_asm); (case k5 => k_asm); (case kK => first | exact rfl | assumption); (case kd => first | assumption | first | exact fit2 hd (by decide) | exact fit3 hd (by decide) | (trace "ROOM"; trace_state; ktr_room)); (case ku => first | exact fit2 hu (by decide) | exact fit3 hu (by decide) | (trace "UNITS"; trace_state; ktr_units)); (case kp => trivial); (intro v9 h9 tk9 g9 F9 N9 st9 hp9); subst hp9; (try dsimp only))) | (k_unfold; (try dsimp only)) | (k_gentoks; (try dsimp only)) | (k_end; wrow_close) | walk1 | (dsimp only; walk1) | (leave1; try dsimp only))
      · have hs : srcOf a b = b := if_pos (by assumption)
        have hg : goalOf a b = a := if_pos (by assumption)
        rw [hs, hg]
        exact ⟨rfl, _, _, _, _, rfl, by assumption, by assumption⟩
      · have hs : srcOf a b = a := if_neg (by assumption)
        have hg : goalOf a b = b := if_neg (by assumption)
        rw [hs, hg]
        exact ⟨rfl, _, _, _, _, rfl, fr_swap (by decide) (by assumption), cb_drop (by assumption) (fun p hp => .tail _ hp)⟩
    · clear F1 N2
      intro h tk tg ts F N
      dsimp only
      with_reducible show wpAny _ _ _ _ _ _
      (try k_fold)
      obtain ⟨⟨hg1, hg2⟩, hs2, hk, hm, hsh⟩ := hok
      repeat' ((fail_if_success (with_reducible show wpAny _ _ (execs (Stmt.Assign _ (PySem.Expr.IfExp _ _ _ _) _ :: _) _) _ _ _)); first | ((with_reducible show wpAny _ _ (call (Value.ref 56) _) _ _ _); (k_dflt (refine' Claim.use ?k1 ?k2 ?k3 ?k4 ?k5 ?kK (sub_tells _ _ _ _ _) ?kd ?ku ?kp ?_); (case k1 => k_asm); (case k2 => k_asm); (case k3 => k_asm); (case k4 => k_asm); (case k5 => k_asm); (case kK => first | exact rfl | assumption); (case kd => first | assumption | first | exact fit2 hd (by decide) | exact fit3 hd (by decide) | (trace "ROOM"; trace_state; ktr_room)); (case ku => first | exact fit2 hu (by decide) | exact fit3 hu (by decide) | (trace "UNITS"; trace_state; ktr_units)); (case kp => trivial); (intro v9 h9 tk9 g9 F9 N9 st9 hp9); (obtain ⟨t8, e8⟩ := hp9; subst e8); (try dsimp only))) | (k_unfold; (try dsimp only)) | (k_gentoks; (try dsimp only)) | (k_end; wrow_close) | walk1 | (dsimp only; walk1) | (leave1; try dsimp only))
      (rename Fr _ _ _ _ => F1); (rename News _ _ _ _ => N1)
      have hlen : (runP ws r i).length = 4 := by rw [runP_len, hr4]
      refine cut0 F1 N1 (Str.ofString "value") (fun t => .int (valOf (runP ws r i) (srcOf a b)) t) ?_ ?_
      · repeat' (first | ((with_reducible show wpAny _ _ (call (Value.ref 150) _) _ _ _); (k_dflt (refine' Claim.use ?k1 ?k2 ?k3 ?k4 ?k5 ?kK (nonterm_tells _ _ _) ?kd ?ku ?kp ?_); (case k1 => k_asm); (case k2 => k_asm); (case k3 => k_asm); (case k4 => k_asm); (case k5 => k_asm); (case kK => first | exact rfl | assumption); (case kd => first | assumption | first | exact fit2 hd (by decide) | exact fit3 hd (by decide) | (trace "ROOM"; trace_state; ktr_room)); (case ku => first | exact fit2 hu (by decide) | exact fit3 hu (by decide) | (trace "UNITS"; trace_state; ktr_units)); (case kp => trivial); (intro v9 h9 tk9 g9 F9 N9 st9 hp9); subst hp9; (try dsimp only))) | ((with_reducible show wpAny _ _ (call (Value.ref 56) _) _ _ _); (k_dflt (refine' Claim.use ?k1 ?k2 ?k3 ?k4 ?k5 ?kK (sub_tells _ _ _ _ _) ?kd ?ku ?kp ?_); (case k1 => k_asm); (case k2 => k_asm); (case k3 => k_asm); (case k4 => k_asm); (case k5 => k_asm); (case kK => first | exact rfl | assumption); (case kd => first | assumption | first | exact fit2 hd (by decide) | exact fit3 hd (by decide) | (trace "ROOM"; trace_state; ktr_room)); (case ku => first | exact fit2 hu (by decide) | exact fit3 hu (by decide) | (trace "UNITS"; trace_state; ktr_units)); (case kp => trivial); (intro v9 h9 tk9 g9 F9 N9 st9 hp9); (obtain ⟨t8, e8⟩ := hp9; subst e8); (try dsimp only))) | ((with_reducible show wpAny _ _ (call (Value.ref 35) _) _ _ _); (k_dflt (refine' Claim.use ?k1 ?k2 ?k3 ?k4 ?k5 ?kK (inv_tells _ _ _) ?kd ?ku ?kp ?_); (case k1 => k_asm); (case k2 => k_asm); (case k3 => k_asm); (case k4 => k_asm); (case k5 => k_asm); (case kK => first | exact rfl | assumption); (case kd => first | assumption | first | exact fit2 hd (by decide) | exact fit3 hd (by decide) | (trace "ROOM"; trace_state; ktr_room)); (case ku => first | exact fit2 hu (by decide) | exact fit3 hu (by decide) | (trace "UNITS"; trace_state; ktr_units)); (case kp => trivial); (intro v9 h9 tk9 g9 F9 N9 st9 hp9); (obtain ⟨t8, e8⟩ := hp9; subst e8); (try dsimp only))) | ((with_reducible show wpAny _ _ (call (Value.ref 77) _) _ _ _); (k_dflt (refine' Claim.use ?k1 ?k2 ?k3 ?k4 ?k5 ?kK (getL_tells _ _ _ _ _ _ hp (pl (by assumption)) (pl4 (by first | assumption | exact hs2 (by assumption)) hlen) hlen) ?kd ?ku ?kp ?_); (case k1 => k_asm); (case k2 => k_asm); (case k3 => k_asm); (case k4 => k_asm); (case k5 => k_asm); (case kK => first | exact rfl | assumption); (case kd => first | assumption | first | exact fit2 hd (by decide) | exact fit3 hd (by decide) | (trace "ROOM"; trace_state; ktr_room)); (case ku => first | exact fit2 hu (by decide) | exact fit3 hu (by decide) | (trace "UNITS"; trace_state; ktr_units)); (case kp => exact listIn (by k_asm) (by k_mem)); (intro v9 h9 tk9 g9 F9 N9 st9 hp9); (obtain ⟨t8, e8⟩ := hp9; subst e8); (try dsimp only))) | (k_unfold; (try dsimp only)) | (k_gentoks; (try dsimp only)) | (k_end; wrow_close) | walk1 | (dsimp only; walk1) | (leave1; try dsimp only))
        · have hv : valOf (runP ws r i) (srcOf a b) = (runP ws r i).getD (srcOf a b - 256).toNat 0 := if_pos (by assumption)
          rw [hv]
          exact ⟨rfl, _, _, _, 0, rfl, by assumption, by assumption⟩
        · have hv : valOf (runP ws r i) (srcOf a b) = -srcOf a b - 1 := if_neg (by assumption)
          rw [hv]
          exact ⟨rfl, _, _, _, 0, rfl, by assumption, by assumption⟩
      · clear F1 N1
        intro h tk tv F N
        dsimp only
        with_reducible show wpAny _ _ _ _ _ _
        (try k_fold)
        repeat' ((fail_if_success (with_reducible show wpAny _ _ (setItem _ _ _) _ _ _)); first | ((with_reducible show wpAny _ _ (call (Value.ref 162) _) _ _ _); (k_dflt (refine' Claim.use ?k1 ?k2 ?k3 ?k4 ?k5 ?kK (deed_tells _ _ _ _ _ _ _ hm hsh hk) ?kd ?ku ?kp ?_); (case k1 => k_asm); (case k2 => k_asm); (case k3 => k_asm); (case k4 => k_asm); (case k5 => k_asm); (case kK => first | exact rfl | assumption); (case kd => first | assumption | first | exact fit2 hd (by decide) | exact fit3 hd (by decide) | (trace "ROOM"; trace_state; ktr_room)); (case ku => first | exact fit2 hu (by decide) | exact fit3 hu (by decide) | (trace "UNITS"; trace_state; ktr_units)); (case kp => trivial); (intro v9 h9 tk9 g9 F9 N9 st9 hp9); (obtain ⟨t8, e8⟩ := hp9; subst e8); (try dsimp only))) | ((with_reducible show wpAny _ _ (call (Value.ref 77) _) _ _ _); (k_dflt (refine' Claim.use ?k1 ?k2 ?k3 ?k4 ?k5 ?kK (getL_tells _ _ _ _ _ _ hp (pl (by assumption)) (pl4 (by first | assumption | exact hs2 (by assumption)) hlen) hlen) ?kd ?ku ?kp ?_); (case k1 => k_asm); (case k2 => k_asm); (case k3 => k_asm); (case k4 => k_asm); (case k5 => k_asm); (case kK => first | exact rfl | assumption); (case kd => first | assumption | first | exact fit2 hd (by decide) | exact fit3 hd (by decide) | (trace "ROOM"; trace_state; ktr_room)); (case ku => first | exact fit2 hu (by decide) | exact fit3 hu (by decide) | (trace "UNITS"; trace_state; ktr_units)); (case kp => exact listIn (by k_asm) (by k_mem)); (intro v9 h9 tk9 g9 F9 N9 st9 hp9); (obtain ⟨t8, e8⟩ := hp9; subst e8); (try dsimp only))) | (k_unfold; (try dsimp only)) | (k_gentoks; (try dsimp only)) | (k_end; wrow_close) | walk1 | (dsimp only; walk1) | (leave1; try dsimp only))
        (rename Fr _ _ _ _ => F2); (rename News _ _ _ _ => N2)
        refine ksa_set F2 N2 (Upd.tail (Nat.ne_of_gt (hI _ (.head _))) (Upd.head (fun p hp => nomatch hp))) hp (pl hg1) (pl4 hg2 hlen) (pl63 hg2) (fun h9 F9 N9 i9 _ _ => ?_)
        clear F2 N2
        repeat' (first | (k_unfold; (try dsimp only)) | (k_gentoks; (try dsimp only)) | (k_end; wrow_close) | walk1 | (dsimp only; walk1) | (leave1; try dsimp only))
        refine ⟨rfl, ⟨_, d.n⟩, _, _, _, rfl, by assumption, by assumption, fun y h1 h2 => ?_, ?_⟩
        · (simp only [List.contains_cons, List.contains_nil, Bool.or_false, Bool.or_eq_false_iff, beq_eq_false_iff_ne] at h2)
          simp [h1, h2]
        · show IntsAre _ (stepP _ _ _ _)
          rw [ea, ek', eb]
          exact i9
  · clear F1 N1 hR
    intro d u h tk hp F N
    dsimp only
    with_reducible show wpAny _ _ _ _ _ _
    (try k_fold)
    repeat' (first | (k_unfold; (try dsimp only)) | (k_gentoks; (try dsimp only)) | (k_end; wrow_close) | walk1 | (dsimp only; walk1) | (leave1; try dsimp only))
    refine hret _ _ _ (fun b o e => Fr.keep (by assumption) b o e) ?_
    exact ⟨D, d.n, d.vs, rfl, N.fresh (.head _), (N _ (.head _)).1, hp⟩

/-- what the plain reading makes of one cell -/
def plainV (mode c a b : Int) : Int :=
  if mode = 0 ∧ c.fmod 4 < 2 then (if c.fmod 4 = 0 then a + b else a - b)
  else if mode = 0 then (if c.fmod 4 = 2 then a * b else a * 2 ^ b.toNat)
  else if mode = 1 ∧ c.fmod 4 < 2 then Builtin.bitXor a b
  else if (decide (c.fmod 4 < 2) == (mode == 2)) = true ∧ 1 < mode then Builtin.bitOr a b else Builtin.bitAnd a b
def plS (c : Int) : Int := (c.fdiv 16).fmod 4
def plG (c : Int) : Int := (c.fdiv 4).fmod 4
def plN (c : Int) : Int := (c.fdiv 16).fmod 24
def plT (r : List Int) (c : Int) : Int := if c.fmod 4 < 2 then r.getD (plS c).toNat 0 else plN c
def plStep (mode : Int) (r : List Int) (c : Int) : List Int := r.set (plG c).toNat (plainV mode c (r.getD (plG c).toNat 0) (plT r c))
def plRun (mode : Int) (r cs : List Int) : List Int := cs.foldl (plStep mode) r
theorem plRun_len {mode : Int} : ∀ {cs r : List Int}, (plRun mode r cs).length = r.length
  | [], _ => rfl
  | c :: cs, r => (plRun_len (cs := cs) (r := plStep mode r c)).trans (List.length_set ..)
theorem plRun_take {mode : Int} {r cs : List Int} {i : Nat} {n : Int} (h : cs[i]? = some n) : plRun mode r (cs.take (i + 1)) = plStep mode (plRun mode r (cs.take i)) n := by
  rw [List.take_add_one, h]
  show List.foldl _ _ (_ ++ [n]) = _
  rw [List.foldl_append]
  rfl

theorem m4 (x : Int) : 0 ≤ x.fmod 4 := Int.fmod_nonneg_of_pos x (by decide)
theorem m4l {ns : List Int} (x : Int) (h : ns.length = 4) : x.fmod 4 < ns.length := by rw [h]; exact Int.fmod_lt_of_pos x (by decide)
theorem m463 (x : Int) : x.fmod 4 < 2 ^ 63 := Int.lt_trans (Int.fmod_lt_of_pos x (by decide)) (by decide)
theorem plT_n {r : List Int} {c : Int} (h : ¬ c.fmod 4 < 2) : plT r c = plN c := if_neg h
theorem plN_in (c : Int) : 0 ≤ plN c ∧ plN c < 24 := ⟨Int.fmod_nonneg_of_pos _ (by decide), Int.fmod_lt_of_pos _ (by decide)⟩
theorem plT_0 {r : List Int} {c : Int} (h : ¬ c.fmod 4 < 2) : 0 ≤ plT r c := plT_n h ▸ (plN_in c).1
theorem plT_1 {r : List Int} {c : Int} (h : ¬ c.fmod 4 < 2) : plT r c ≤ 1000000 := by rw [plT_n h]; have := (plN_in c).2; omega
theorem mulN {a b : Int} (h : 0 ≤ b ∧ b < 24) : IntMulOk a b := IntMulOk.of_right (intBits_le_64 (by omega) (by omega))
theorem mulP {a b : Int} (h : 0 ≤ b ∧ b < 24) : IntMulOk a (2 ^ b.toNat) := by
  have : ∀ n : Fin 24, Builtin.Int.intBits (2 ^ n.val : Int) ≤ 64 := by decide +kernel
  exact IntMulOk.of_right (this ⟨b.toNat, by omega⟩)
theorem plT_m {r : List Int} {c a : Int} (h : ¬ c.fmod 4 < 2) : IntMulOk a (plT r c) := plT_n h ▸ mulN (plN_in c)
theorem plT_p {r : List Int} {c a : Int} (h : ¬ c.fmod 4 < 2) : IntMulOk a (2 ^ (plT r c).toNat) := plT_n h ▸ mulP (plN_in c)
/-- what the last statement of a turn leaves -/
def PMid (s : Shared) (h₀ : Heap) (L : Addr) (mm : Str → Option Value) (I D : Addr) (oI : Obj) (k : Nat) (rs : List Int) (f : Flow) (s' : Shared) : Prop :=
  f = .next ∧ ∃ h' tk' vs, s' = { s with heap := h', toks := tk' } ∧ Fr h₀ L h' mm ∧ News h₀ L h' [(I, oI), (D, listOf (List.toArray vs) k)] ∧ IntsAre vs rs
theorem cutP {M : Model} {A : Around} {E : Value → Shared → Prop} {s : Shared} {env : Env} {h₀ : Heap} {L I D : Addr} {st : Stmt} {rest : List Stmt} {Q : Flow → Shared → Prop} {oI : Obj} {vs : List Value} {k : Nat} {mm : Str → Option Value} (_F : Fr h₀ L s.heap mm) (_N : News h₀ L s.heap [(I, oI), (D, listOf (List.toArray vs) k)]) (rs : List Int)
    (hA : wpAny M A (exec st env) (PMid s h₀ L mm I D oI k rs) E s)
    (hB : ∀ h' tk' vs, Fr h₀ L h' mm → News h₀ L h' [(I, oI), (D, listOf (List.toArray vs) k)] → IntsAre vs rs → wpAny M A (execs rest env) Q E { s with heap := h', toks := tk' }) : wpAny M A (execs (st :: rest) env) Q E s :=
  wpAny_execs_cons (wpAny_mono hA (fun f s' h => by obtain ⟨rfl, h', tk', vs, rfl, F, N, i⟩ := h; exact hB h' tk' vs F N i) fun _ _ x => x)
theorem leafP {vs : List Value} {R : List Int} {x mode n : Int} (h : IntsAre vs (R.set (plG n).toNat x)) (e : plainV mode n (R.getD (plG n).toNat 0) (plT R n) = x) : IntsAre vs (plStep mode R n) := by
  unfold plStep; rw [e]; exact h
set_option maxHeartbeats 4000000 in
theorem plain_tells (w : World) (mode : Int) (tm : Tok) (lc lr : Addr) (vc vr : List Value) (zs r : List Int) (hic : IntsAre vc zs) (hir : IntsAre vr r) (hr4 : r.length = 4) (hc : zs.length ≤ 100) :
    Claim w 190 2 [.int mode tm, .ref lc, .ref lr] (fun s => s.heap.IsList lc vc.toArray ∧ s.heap.IsList lr vr.toArray) (newInts (plRun mode r zs)) := by
  unfold Claim; k_fill; intro mean mg mb dp un gd cn cs ad ccd cl outer A₀ base h₀ L m s Q E B F X T hkf hd hu hp hret; refine wpAny_call ?_
  k_dflt (refine' code_def0 ?k1 ?k2 ?k3 ?k5 ?kA ?kF ?kK ?k6 ?k7 ?k8 ?k9 ?kB ?_ ?c2 ?c3 ?c4 ?c5; (case kA => exact rfl); (case kF => exact rfl); (case kK => assumption); (case k1 => k_asm); (case k2 => k_asm); (case k3 => k_asm); (case k5 => k_asm); (case k6 => k_is); (case k7 => k_is); (case k8 => first | exact Nat.lt_of_le_of_lt (Nat.le_add_right dp _) hd | exact fit2 hd (by decide) | exact fit3 hd (by decide) | (trace "ROOM8"; trace_state; ktr_room)); (case k9 => exact BindsTo.of_eq (binds := [(Str.ofString "mode", .int mode tm), (Str.ofString "cells", .ref lc), (Str.ofString "row", .ref lr)]) rfl); (case c5 => decide); (case kB => exact locs rfl); (case c2 => exact rfl); (case c3 => exact rfl); (case c4 => exact rfl); k_whole; intro L' h' F' N' B' X' T'; (try dsimp only); (try k_lift B'); (try k_fold))
  obtain ⟨hpc, hpr⟩ := hp
  have hsz := ints_size hir (hr4 ▸ (by decide))
  repeat' ((fail_if_success (with_reducible show wpAny _ _ (exec (Stmt.For _ _ _ _ _) _) _ _ _)); first | ((with_reducible show wpAny _ _ (call (Value.type "list") _) _ _ _); (refine list_copyK (by k_asm) (by k_asm) (hpr.at fun o e => Fr.keep (by k_asm) _ o e) (fun D c h' F N hD => ?_) hsz)) | (k_unfold; (try dsimp only)) | (k_gentoks; (try dsimp only)) | (k_end; wrow_close) | walk1 | (dsimp only; walk1) | (leave1; try dsimp only))
  (rename Fr _ _ _ _ => F1); (rename News _ _ _ _ => N1)
  (with_unfolding_all refine' For_invVF F1 ?k1 ?k2 ?_; (case k1 => exact rfl); (case k2 => exact rfl); k_whole)
  repeat' ((fail_if_success (with_reducible show wpAny _ _ (pyIter (Value.ref _)) _ _ _)); first | (k_unfold; (try dsimp only)) | (k_gentoks; (try dsimp only)) | (k_end; wrow_close) | walk1 | (dsimp only; walk1) | (leave1; try dsimp only))
  with_unfolding_all refine list_loop (σ := RSt) (fun d => [(D, listOf d.vs.toArray d.n)]) [Str.ofString "place", Str.ofString "joins", Str.ofString "one", Str.ofString "two"] (fun i d => IntsAre d.vs (plRun mode r (zs.take i))) ⟨vr, c⟩ (fun _ => rfl) (by rfl) hpc hic F1 N1 hir ?_ ?_
  · clear F1 N1
    intro I oI i n d t u h tk hI hi hp F N
    dsimp only
    with_reducible show wpAny _ _ _ _ _ _
    k_fold
    have hlen : (plRun mode r (zs.take i)).length = 4 := by rw [plRun_len, hr4]
    repeat' ((fail_if_success (with_reducible show wpAny _ _ (execs (Stmt.Assign _ (PySem.Expr.IfExp _ _ _ _) _ :: _) _) _ _ _)); first | ((with_reducible show wpAny _ _ (subscriptTail _ _ _ _) _ _ _); (refine item_anyK (listIn (by k_asm) (by k_mem)) hp (m4 _) (m4l _ hlen) (m463 _) (fun t9 => ?_) (by with_unfolding_all rfl))) | (k_unfold; (try dsimp only)) | (k_gentoks; (try dsimp only)) | (k_end; wrow_close) | walk1 | (dsimp only; walk1) | (leave1; try dsimp only))
    (rename Fr _ _ _ _ => F1); (rename News _ _ _ _ => N1)
    refine cut0 F1 N1 (Str.ofString "two") (fun t => .int (plT (plRun mode r (zs.take i)) n) t) ?_ ?_
    · repeat' (first | ((with_reducible show wpAny _ _ (subscriptTail _ _ _ _) _ _ _); (refine item_anyK (listIn (by k_asm) (by k_mem)) hp (m4 _) (m4l _ hlen) (m463 _) (fun t9 => ?_) (by with_unfolding_all rfl))) | (k_unfold; (try dsimp only)) | (k_gentoks; (try dsimp only)) | (k_end; wrow_close) | walk1 | (dsimp only; walk1) | (leave1; try dsimp only))
      · have e : plT (plRun mode r (zs.take i)) n = (plRun mode r (zs.take i)).getD ((n.fdiv 16).fmod 4).toNat 0 := if_pos (by assumption)
        rw [e]
        exact ⟨rfl, _, _, _, 0, rfl, by assumption, by assumption⟩
      · have e : plT (plRun mode r (zs.take i)) n = (n.fdiv 16).fmod 24 := if_neg (by assumption)
        rw [e]
        exact ⟨rfl, _, _, _, 0, rfl, by assumption, by assumption⟩
    · clear F1 N1
      intro h tk tv F N
      have N2 := cb_drop N (fun p hp => .tail _ hp)
      clear N
      generalize hR : plRun mode r (zs.take i) = R at *
      refine cutP F N2 (plStep mode R n) ?_ ?_
      · clear hR
        dsimp only
        with_reducible show wpAny _ _ _ _ _ _
        (try k_fold)
        repeat' (first | ((with_reducible show wpAny _ _ (setItem _ _ _) _ _ _); (refine ksa_set (by k_asm) (by k_asm) (Upd.tail (Nat.ne_of_gt (hI _ (.head _))) (Upd.head (by intro p hp; cases hp))) hp (m4 _) (m4l _ hlen) (m463 _) (fun h9 F9 N9 i9 _ _ => ?_); clear hp)) | ((with_reducible show wpAny _ _ (binaryOp Operator.Pow _ _) _ _ _); (with_reducible refine pow_int_small (plT_0 (by assumption)) (plT_1 (by assumption)) (by decide) ?_)) | ((with_reducible show wpAny _ _ (binaryOp Operator.Mult _ _) _ _ _); (refine P.mul_int ?_ (by first | exact plT_m (by assumption) | exact plT_p (by assumption)))) | (k_unfold; (try dsimp only)) | (k_gentoks; (try dsimp only)) | (k_end; wrow_close) | walk1 | (dsimp only; walk1) | (leave1; try dsimp only))
        all_goals refine ⟨rfl, _, _, _, rfl, by assumption, by assumption, leafP (by assumption) ?_⟩
        all_goals (clear hret F N2 hlen)
        all_goals (first | (simp [plainV, plG, *]; done) | (exfalso; simp_all; done) | (exfalso; omega) | skip)
      · intro h tk vs F N i9
        dsimp only
        with_reducible show wpAny _ _ _ _ _ _
        (try k_fold)
        repeat' (first | (k_unfold; (try dsimp only)) | (k_gentoks; (try dsimp only)) | (k_end; wrow_close) | walk1 | (dsimp only; walk1) | (leave1; try dsimp only))
        refine ⟨rfl, ⟨vs, d.n⟩, _, _, _, rfl, F, N, fun y h1 h2 => ?_, ?_⟩
        · (simp only [List.contains_cons, List.contains_nil, Bool.or_false, Bool.or_eq_false_iff, beq_eq_false_iff_ne] at h2)
          simp [h1, h2]
        · show IntsAre _ (plRun _ _ _)
          rw [plRun_take hi, hR]
          exact i9
  · clear F1 N1
    intro d u h tk hp F N
    dsimp only
    with_reducible show wpAny _ _ _ _ _ _
    (try k_fold)
    rw [List.take_length] at hp
    repeat' (first | (k_unfold; (try dsimp only)) | (k_gentoks; (try dsimp only)) | (k_end; wrow_close) | walk1 | (dsimp only; walk1) | (leave1; try dsimp only))
    refine hret _ _ _ (fun b o e => Fr.keep (by assumption) b o e) ?_
    exact ⟨D, d.n, d.vs, rfl, N.fresh (.head _), (N _ (.head _)).1, hp⟩

/-- what a weave makes: join and bind, four of each -/
def wovenP (jn bn : Int → Int → Int) (z : Int) (ws r : List Int) : Int := (ws.zip r).foldl (fun a p => jn a (bn p.1 p.2)) z
/-- the two operators of a mode -/
def jbP (mode : Int) : Addr × Addr := if mode = 0 then (21, 42) else if mode = 1 then (63, 28) else if mode = 2 then (49, 28) else (28, 49)

theorem pick4 {prog : Program} {w : World} {A : Around} {E : Value → Shared → Prop} {s : Shared} {h₀ : Heap} {L l D0 D1 D2 D3 : Addr} {value slice : PySem.Expr} {mode : Int} {u : Tok} {n : Nat} {Q : Value → Shared → Prop} (hm : mode = 0 ∨ mode = 1 ∨ mode = 2 ∨ mode = 3)
    (N : News h₀ L s.heap [(l, listOf #[.ref D0, .ref D1, .ref D2, .ref D3] n), (D3, tupOf #[.ref 28, .ref 49] 0), (D2, tupOf #[.ref 49, .ref 28] 0), (D1, tupOf #[.ref 63, .ref 28] 0), (D0, tupOf #[.ref 21, .ref 42] 0)])
    (h : ∀ T, News h₀ L s.heap [(T, tupOf #[.ref (jbP mode).1, .ref (jbP mode).2] 0)] → Q (.ref T) s)
    (hs : subscripted slice false (.ref l) (.int mode u) = operate [.ref l, .int mode u] (getItem (.ref l) (.int mode u)) := by with_unfolding_all rfl) :
    wpAny (model prog w) A (subscriptTail value slice (.ref l) (.int mode u)) Q E s := by
  have hl : s.heap.IsList l (List.toArray [.ref D0, .ref D1, .ref D2, .ref D3]) := listIn N (.head _)
  rcases hm with rfl | rfl | rfl | rfl
  · exact item_litK hl (by decide) (by decide) rfl (h _ (cb_drop N (fun p hp => by rw [List.mem_singleton.mp hp]; simp [jbP]))) hs
  · exact item_litK hl (by decide) (by decide) rfl (h _ (cb_drop N (fun p hp => by rw [List.mem_singleton.mp hp]; simp [jbP]))) hs
  · exact item_litK hl (by decide) (by decide) rfl (h _ (cb_drop N (fun p hp => by rw [List.mem_singleton.mp hp]; simp [jbP]))) hs
  · exact item_litK hl (by decide) (by decide) rfl (h _ (cb_drop N (fun p hp => by rw [List.mem_singleton.mp hp]; simp [jbP]))) hs
theorem mem_zip {a b : Int} : ∀ {i : Nat} {as bs : List Int}, as[i]? = some a → bs[i]? = some b → (a, b) ∈ as.zip bs
  | _, [], _, h, _ => by simp at h
  | _, _ :: _, [], _, h => by simp at h
  | 0, _ :: _, _ :: _, h, h' => by simp at h h'; rw [h, h']; exact .head _
  | i + 1, _ :: as, _ :: bs, h, h' => .tail _ (mem_zip (i := i) (by simpa using h) (by simpa using h'))
set_option maxHeartbeats 4000000 in
theorem woven_tells (w : World) (mode nought : Int) (tm tn : Tok) (lw lr : Addr) (vw vr : List Value) (zw r : List Int) (jn bn : Int → Int → Int) (hm : mode = 0 ∨ mode = 1 ∨ mode = 2 ∨ mode = 3)
    (hJ : ∀ a b t u, Claim w (jbP mode).1 1 [.int a t, .int b u] (fun _ => True) (fun _ _ v => ∃ t, v = .int (jn a b) t))
    (hB : ∀ a b t u, (a, b) ∈ zw.zip r → Claim w (jbP mode).2 1 [.int a t, .int b u] (fun _ => True) (fun _ _ v => ∃ t, v = .int (bn a b) t))
    (hiw : IntsAre vw zw) (hir : IntsAre vr r) (hw4 : zw.length = 4) (hr4 : r.length = 4) :
    Claim w 176 2 [.int mode tm, .int nought tn, .ref lw, .ref lr] (fun s => s.heap.IsList lw vw.toArray ∧ s.heap.IsList lr vr.toArray) (fun _ _ v => ∃ t, v = .int (wovenP jn bn nought zw r) t) := by
  unfold Claim; k_fill; intro mean mg mb dp un gd cn cs ad ccd cl outer A₀ base h₀ L m s Q E B F X T hkf hd hu hp hret; refine wpAny_call ?_
  k_dflt (refine' code_def0 ?k1 ?k2 ?k3 ?k5 ?kA ?kF ?kK ?k6 ?k7 ?k8 ?k9 ?kB ?_ ?c2 ?c3 ?c4 ?c5; (case kA => exact rfl); (case kF => exact rfl); (case kK => assumption); (case k1 => k_asm); (case k2 => k_asm); (case k3 => k_asm); (case k5 => k_asm); (case k6 => k_is); (case k7 => k_is); (case k8 => first | exact Nat.lt_of_le_of_lt (Nat.le_add_right dp _) hd | exact fit2 hd (by decide) | exact fit3 hd (by decide) | (trace "ROOM8"; trace_state; ktr_room)); (case k9 => exact BindsTo.of_eq (binds := [(Str.ofString "mode", .int mode tm), (Str.ofString "nought", .int nought tn), (Str.ofString "weights", .ref lw), (Str.ofString "row", .ref lr)]) rfl); (case c5 => decide); (case kB => exact locs rfl); (case c2 => exact rfl); (case c3 => exact rfl); (case c4 => exact rfl); k_whole; intro L' h' F' N' B' X' T'; (try dsimp only); (try k_lift B'); (try k_fold))
  obtain ⟨hpw, hpr⟩ := hp
  repeat' ((fail_if_success (with_reducible show wpAny _ _ (subscriptTail _ _ _ _) _ _ _)); first | (k_unfold; (try dsimp only)) | (k_gentoks; (try dsimp only)) | (k_end; wrow_close) | walk1 | (dsimp only; walk1) | (leave1; try dsimp only))
  (rename News _ _ _ _ => N1)
  refine pick4 hm N1 (fun T N2 => ?_) (by with_unfolding_all rfl)
  clear N1
  have hkJ : keepIn (Mine.KK w.params) (.ref (jbP mode).1) = true := by rcases hm with rfl | rfl | rfl | rfl <;> rfl
  have hkB : keepIn (Mine.KK w.params) (.ref (jbP mode).2) = true := by rcases hm with rfl | rfl | rfl | rfl <;> rfl
  generalize (jbP mode).1 = fJ, (jbP mode).2 = fB at *
  repeat' ((fail_if_success (with_reducible show wpAny _ _ (pyIter (Value.ref _)) _ _ _)); first | (k_unfold; (try dsimp only)) | (k_gentoks; (try dsimp only)) | (k_end; wrow_close) | walk1 | (dsimp only; walk1) | (leave1; try dsimp only))
  (rename PairSrc2L _ _ _ _ _ _ _ _ _ _ _ _ _ _ => S9)
  with_unfolding_all refine Pair2_acc (stp := fun T a b => jn T (bn a b)) (PairSrc2L.at S9 _ rfl) (by with_unfolding_all rfl) (by with_unfolding_all rfl) (ItemKind.int_mk nought _) (by decide) (by decide) ?_ ?_
  · clear S9
    intro i a b va vb T9 vT s₁ own ha hb ka kb kT F N
    obtain ⟨ta, rfl⟩ := ItemKind.int_is ka
    obtain ⟨tb, rfl⟩ := ItemKind.int_is kb
    obtain ⟨tT, rfl⟩ := ItemKind.int_is kT
    have hz : (a, b) ∈ zw.zip r := mem_zip ha hb
    unfold accMap bindM at F
    (try dsimp only)
    with_reducible show wpAny _ _ _ _ _ _
    (try k_fold)
    repeat' (first | ((with_reducible show wpAny _ _ (callWith _ (Value.ref fB) _ _ _) _ _ _); (refine callWith_K (by assumption) hkB ?_)) | ((with_reducible show wpAny _ _ (callWith _ (Value.ref fJ) _ _ _) _ _ _); (refine callWith_K (by assumption) hkJ ?_)) | ((with_reducible show wpAny _ _ (call (Value.ref fB) _) _ _ _); (k_dflt (refine' Claim.use ?k1 ?k2 ?k3 ?k4 ?k5 ?kK (hB _ _ _ _ hz) ?kd ?ku ?kp ?_); (case k1 => k_asm); (case k2 => k_asm); (case k3 => k_asm); (case k4 => k_asm); (case k5 => k_asm); (case kK => first | exact rfl | assumption); (case kd => first | assumption | first | exact fit2 hd (by decide) | exact fit3 hd (by decide) | (trace "ROOM"; trace_state; ktr_room)); (case ku => first | exact fit2 hu (by decide) | exact fit3 hu (by decide) | (trace "UNITS"; trace_state; ktr_units)); (case kp => trivial); (intro v9 h9 tk9 g9 F9 N9 st9 hp9); (obtain ⟨t8, e8⟩ := hp9; subst e8); (try dsimp only))) | ((with_reducible show wpAny _ _ (call (Value.ref fJ) _) _ _ _); (k_dflt (refine' Claim.use ?k1 ?k2 ?k3 ?k4 ?k5 ?kK (hJ _ _ _ _) ?kd ?ku ?kp ?_); (case k1 => k_asm); (case k2 => k_asm); (case k3 => k_asm); (case k4 => k_asm); (case k5 => k_asm); (case kK => first | exact rfl | assumption); (case kd => first | assumption | first | exact fit2 hd (by decide) | exact fit3 hd (by decide) | (trace "ROOM"; trace_state; ktr_room)); (case ku => first | exact fit2 hu (by decide) | exact fit3 hu (by decide) | (trace "UNITS"; trace_state; ktr_units)); (case kp => trivial); (intro v9 h9 tk9 g9 F9 N9 st9 hp9); (obtain ⟨t8, e8⟩ := hp9; subst e8); (try dsimp only))) | (k_unfold; (try dsimp only)) | (k_gentoks; (try dsimp only)) | (k_end; wrow_close) | walk1 | (dsimp only; walk1) | (leave1; try dsimp only))
  · clear S9
    intro h tk vi vl v' F N kT
    obtain ⟨tT, rfl⟩ := ItemKind.int_is kT
    dsimp only
    with_reducible show wpAny _ _ _ _ _ _
    (try k_fold)
    repeat' (first | (k_unfold; (try dsimp only)) | (k_gentoks; (try dsimp only)) | (k_end; wrow_close) | walk1 | (dsimp only; walk1) | (leave1; try dsimp only))
    refine hret _ _ _ (fun b o e => Fr.keep (by assumption) b o e) ?_; exact ⟨_, rfl⟩

/-- an element that is a text -/
def KStEl (news : List (Addr × Obj)) (r : Str) (y : Value) (news' : List (Addr × Obj)) : Prop := news' = news ∧ ∃ t : Tok, y = .str r t
theorem StrsAre.app {vs us : List Value} {xs ys : List Str} (h : StrsAre vs xs) (h' : StrsAre us ys) : StrsAre (vs ++ us) (xs ++ ys) := by
  induction h with
  | nil => exact h'
  | cons y t _ ih => exact .cons y t ih
section
variable {prog : Program} {w : World} {A : Around} {h₀ : Heap} {L : Addr} {m : Str → Option Value} {env : Env} {elt : Expr} {x : Str} {scope : Scope} {cl : List (Str × Addr)} {s : Shared} {S : List (Addr × Obj) → Prop} {Fin : List Value → List (Addr × Obj) → Prop} {news : List (Addr × Obj)}
/-- a comprehension of texts over a list of ints -/
theorem strs_list {vs : List Value} {ks : List Int} (g : Int → Str) (hi : IntsAre vs ks)
    (turn : ∀ k t I oI C oC D m₂ ys h tk (E' : Value → Shared → Prop), k ∈ ks → LCg.NsObj oC m₂ → m₂ x = some (.int k t) → Fr h₀ L h m → News h₀ L h ((I, oI) :: (C, oC) :: (D, LCg.lst ys) :: news) → LCg.Off3 I C D news → ((@Ne Nat I C) ∧ (@Ne Nat I D) ∧ (@Ne Nat C D)) →
      wpAny (model prog w) A (eval elt (compEnvC scope cl C env)) (LCg.CompEnd h₀ L m { s with heap := h, toks := tk } I oI C oC D (LCg.lst ys) S (fun y news' => KStEl news (g k) y news')) E' { s with heap := h, toks := tk })
    (fin : ∀ ys, StrsAre ys (ks.map g) → Fin ys news) : LCg.CompRest prog w A h₀ L m env elt x scope cl s S (fun i v => vs.toArray[i]? = some v) Fin vs.toArray.size 0 [] news := by
  have hn : vs.toArray.size = ks.length := by rw [List.size_toArray]; exact hi.length
  have key : ∀ (j i : Nat) (ys : List Value), i + j = vs.toArray.size → StrsAre ys ((ks.take i).map g) → LCg.CompRest prog w A h₀ L m env elt x scope cl s S (fun i v => vs.toArray[i]? = some v) Fin j i ys news := by
    intro j
    induction j with
    | zero =>
      intro i ys hi' hy
      rw [show i = ks.length by omega, List.take_length] at hy
      exact LCg.CompRest.zero (fin ys hy)
    | succ j ih =>
      intro i ys hi' hy
      refine LCg.CompRest.succ ?_
      intro v I oI C oC D m₂ h tk E' hv hC hx F N off ne
      obtain ⟨k, t, hv', hk⟩ := IntsAre.at hi i v (by simpa using hv)
      rw [hv'] at hx
      refine wpAny_mono (turn k t I oI C oC D m₂ ys h tk E' (List.mem_of_getElem? hk) hC hx F N off ne) (fun y s₂ hq => ?_) fun _ _ e => e
      obtain ⟨h', tk', nw, e, F', N', off', hS, hn', t', hy'⟩ := hq
      rw [hn'] at N' off' hS
      refine ⟨h', tk', news, e, F', N', off', hS, ?_⟩
      rw [hy']
      refine ih (i + 1) _ (by omega) ?_
      rw [List.take_add_one, hk]
      simpa using StrsAre.app hy (.cons (g k) t' .nil)
  exact key _ 0 [] (by omega) (by simp only [List.take_zero, List.map_nil]; exact .nil)
end
/-- a slice of ints, of any step -/
def pickI (ns : List Int) (lo hi st : Option Int) : List Int := (sliceRange (sliceBounds lo hi st ns.length).1 (sliceBounds lo hi st ns.length).2.1 (sliceBounds lo hi st ns.length).2.2).filterMap (ns[·]?)
theorem ints_at {vs : List Value} {ns : List Int} (h : IntsAre vs ns) : ∀ l : List Nat, IntsAre (l.filterMap (vs[·]?)) (l.filterMap (ns[·]?))
  | [] => .nil
  | i :: l => by
    simp only [List.filterMap_cons]
    cases hn : ns[i]? with
    | none =>
      have : vs[i]? = none := by rw [List.getElem?_eq_none_iff] at hn ⊢; rw [h.length]; exact hn
      rw [this]; exact ints_at h l
    | some n =>
      obtain ⟨t, e⟩ := h.get i n hn
      rw [e]; exact .cons n t (ints_at h l)
theorem ints_pick {vs : List Value} {ns : List Int} (h : IntsAre vs ns) (lo hi st : Option Int) : IntsAre (slicePick vs.toArray lo hi st).toList (pickI ns lo hi st) := by
  have := ints_at h (sliceRange (sliceBounds lo hi st ns.length).1 (sliceBounds lo hi st ns.length).2.1 (sliceBounds lo hi st ns.length).2.2)
  unfold slicePick pickI
  rw [List.size_toArray, h.length]
  simpa using this
theorem slice_ints3 {prog : Program} {w : World} {A : Around} {E : Value → Shared → Prop} {s : Shared} {h₀ : Heap} {L : Addr} {m : Str → Option Value} {news : List (Addr × Obj)} {value slice : PySem.Expr} {l : Addr} {vs : List Value} {ns : List Int} {vl vu vk : Value} {lo hi st : Option Int} {ops : List Value} {Q : Value → Shared → Prop}
    (F : Fr h₀ L s.heap m) (N : News h₀ L s.heap news) (hl : s.heap.IsList l vs.toArray) (hi' : IntsAre vs ns) (pl : IsPart vl lo) (pu : IsPart vu hi) (pk : IsPart vk st) (h0 : st ≠ some 0) (hsz : vs.toArray.size ≤ sizeLine)
    (h : ∀ D us h', Fr h₀ L h' m → News h₀ L h' ((D, listOf (List.toArray us) 0) :: news) → (∀ p ∈ news, p.1 < D) → IntsAre us (pickI ns lo hi st) → Q (.ref D) { s with heap := h' })
    (hs : subscripted slice false (.ref l) (.ref s.heap.objs.size) = operate ops (getItem (.ref l) (.ref s.heap.objs.size)) := by with_unfolding_all rfl)
    (ht : ∀ r, letTemporaryGo value (.ref l) r = pure () := by intro _; with_unfolding_all rfl) :
    wpAny (model prog w) A (subscriptTail value slice (.ref l) (.ref s.heap.objs.size)) Q E { s with heap := s.heap.push { cls := .type "slice", data := .fields #[vl, vu, vk] } } :=
  slice_list3 F N hl pl pu pk h0 (fun h' F' N' => h _ (slicePick vs.toArray lo hi st).toList h' F' (by rw [Array.toArray_toList]; exact N') (fun p hp => Nat.lt_succ_of_lt (Heap.lt_size (N p hp).1)) (ints_pick hi' lo hi st)) hs ht hsz
theorem ne_same {prog : Program} {w : World} {A : Around} {E : Value → Shared → Prop} {s : Shared} {a b : Addr} {xs ys : List Value} {ns ms : List Int} {Q : Value → Shared → Prop} (ha : s.heap.IsList a xs.toArray) (hb : s.heap.IsList b ys.toArray) (hi : IntsAre xs ns) (hj : IntsAre ys ms) (hu : A.units + 64 < cLine) (e : ns = ms) (h : Q (.bool false) s) :
    wpAny (model prog w) A (compareOp .NotEq (.ref a) (.ref b)) Q E s :=
  ke_ne_ints ha hb hi hj hu (by rw [e]; simpa using h)

/-- the signs of a mode -/
def sgP (mode : Int) : List Str := if mode = 0 then [Str.ofString "+=", Str.ofString "-=", Str.ofString "*=", Str.ofString "<<="] else if mode = 1 then [Str.ofString "^=", Str.ofString "^=", Str.ofString "&=", Str.ofString "&="] else if mode = 2 then [Str.ofString "|=", Str.ofString "|=", Str.ofString "&=", Str.ofString "&="] else [Str.ofString "&=", Str.ofString "&=", Str.ofString "|=", Str.ofString "|="]
theorem sgP_len (mode : Int) : (sgP mode).length = 4 := by unfold sgP; (repeat' split) <;> rfl
theorem sgP_short (mode : Int) : ∀ x ∈ sgP mode, x.length ≤ 10 := by unfold sgP; (repeat' split) <;> decide
/-- the joined text of the statements -/
def txtP (mode : Int) (zs : List Int) : Str := Txt.join (Str.ofString ",") (zs.map (stmtS (sgP mode)))
/-- nought and one of a mode -/
def noP (mode : Int) : Int × Int := if mode = 0 then (0, 1) else if mode = 1 then (0, -1) else if mode = 2 then (0, -1) else (-1, 0)
/-- the start of a run backwards -/
def unitP (mode : Int) (p : Nat) : List Int := (List.replicate p [(noP mode).1]).flatten ++ [(noP mode).2] ++ (List.replicate (3 - p) [(noP mode).1]).flatten
def jnP (mode a b : Int) : Int := if mode = 0 then a + b else if mode = 1 then Builtin.bitXor a b else if mode = 2 then Builtin.bitOr a b else Builtin.bitAnd a b
def bnP (mode a b : Int) : Int := if mode = 0 then a * b else if mode = 3 then Builtin.bitOr a b else Builtin.bitAnd a b
/-- what the plain law knows of the cells -/
structure Agr (mode : Int) (zs r ws : List Int) : Prop where
  weight : ((zs.map (stmtS (sgP mode))).map (·.length)).sum + (zs.map (stmtS (sgP mode))).length ≤ 1048576
  toks : Toks (txtP mode zs) ws
  short : (txtP mode zs).length ≤ 200
  wlen : ws.length = 4 * zs.length - 1
  ok : ∀ i, i < zs.length → okP (ws.getD (4 * i) 0) (ws.getD (4 * i + 1) 0) (ws.getD (4 * i + 2) 0) (runP ws r i)
  run : runP ws r zs.length = plRun mode r zs
  commas : pickI ws (some 3) none (some 4) = (List.replicate ((zs.length : Int) - 1).toNat [12]).flatten
  revs : pickI ws none none (some (-1)) = ws.reverse
  okR : ∀ p, p < 4 → ∀ i, i < zs.length → okP (ws.reverse.getD (4 * i) 0) (ws.reverse.getD (4 * i + 1) 0) (ws.reverse.getD (4 * i + 2) 0) (runP ws.reverse (unitP mode p) i)
  wove : ∀ p, p < 4 → wovenP (jnP mode) (bnP mode) (noP mode).1 (runP ws.reverse (unitP mode p) zs.length) r = (plRun mode r zs).getD p 0
  mulok : mode = 0 → ∀ p, p < 4 → ∀ a b, (a, b) ∈ (runP ws.reverse (unitP mode p) zs.length).zip r → IntMulOk a b
theorem jn_tells (w : World) {mode : Int} (hm : mode = 0 ∨ mode = 1 ∨ mode = 2 ∨ mode = 3) (a b : Int) (t u : Tok) : Claim w (jbP mode).1 1 [.int a t, .int b u] (fun _ => True) (fun _ _ v => ∃ t, v = .int (jnP mode a b) t) := by
  rcases hm with rfl | rfl | rfl | rfl
  · exact add_tells w a b t u
  · exact xor_tells w a b t u
  · exact or_tells w a b t u
  · exact and_tells w a b t u
theorem bn_tells (w : World) {mode : Int} (hm : mode = 0 ∨ mode = 1 ∨ mode = 2 ∨ mode = 3) (a b : Int) (t u : Tok) (h : mode = 0 → IntMulOk a b) : Claim w (jbP mode).2 1 [.int a t, .int b u] (fun _ => True) (fun _ _ v => ∃ t, v = .int (bnP mode a b) t) := by
  rcases hm with rfl | rfl | rfl | rfl
  · exact mul_tells w a b t u (h rfl)
  · exact and_tells w a b t u
  · exact and_tells w a b t u
  · exact or_tells w a b t u

theorem pickS {prog : Program} {w : World} {A : Around} {E : Value → Shared → Prop} {s : Shared} {h₀ : Heap} {L l D0 D1 D2 D3 a : Addr} {o : Obj} {value slice : PySem.Expr} {mode : Int} {u a0 a1 a2 a3 b0 b1 b2 b3 c0 c1 c2 c3 d0 d1 d2 d3 : Tok} {n : Nat} {Q : Value → Shared → Prop} (hm : mode = 0 ∨ mode = 1 ∨ mode = 2 ∨ mode = 3)
    (N : News h₀ L s.heap [(l, listOf #[.ref D0, .ref D1, .ref D2, .ref D3] n), (D3, listOf #[.str (Str.ofString "&=") d0, .str (Str.ofString "&=") d1, .str (Str.ofString "|=") d2, .str (Str.ofString "|=") d3] 0), (D2, listOf #[.str (Str.ofString "|=") c0, .str (Str.ofString "|=") c1, .str (Str.ofString "&=") c2, .str (Str.ofString "&=") c3] 0),
      (D1, listOf #[.str (Str.ofString "^=") b0, .str (Str.ofString "^=") b1, .str (Str.ofString "&=") b2, .str (Str.ofString "&=") b3] 0), (D0, listOf #[.str (Str.ofString "+=") a0, .str (Str.ofString "-=") a1, .str (Str.ofString "*=") a2, .str (Str.ofString "<<=") a3] 0), (a, o)])
    (h0 : a < D0) (h1 : a < D1) (h2 : a < D2) (h3 : a < D3)
    (h : ∀ T vs, a < T → StrsAre vs (sgP mode) → News h₀ L s.heap [(T, listOf (List.toArray vs) 0), (a, o)] → Q (.ref T) s)
    (hs : subscripted slice false (.ref l) (.int mode u) = operate [.ref l, .int mode u] (getItem (.ref l) (.int mode u)) := by with_unfolding_all rfl) :
    wpAny (model prog w) A (subscriptTail value slice (.ref l) (.int mode u)) Q E s := by
  have hl : s.heap.IsList l (List.toArray [.ref D0, .ref D1, .ref D2, .ref D3]) := listIn N (.head _)
  have st : ∀ {x y z u : Str} (a b c d : Tok), StrsAre [.str x a, .str y b, .str z c, .str u d] [x, y, z, u] := fun a b c d => .cons _ a (.cons _ b (.cons _ c (.cons _ d .nil)))
  have pick : ∀ {p q : Addr × Obj} {nw : List (Addr × Obj)}, News h₀ L s.heap nw → p ∈ nw → q ∈ nw → News h₀ L s.heap [p, q] := fun N hp hq => cb_drop N (fun z hz => by
    rcases List.mem_cons.mp hz with rfl | hz
    · exact hp
    · rw [List.mem_singleton.mp hz]; exact hq)
  rcases hm with rfl | rfl | rfl | rfl
  · exact item_litK hl (by decide) (by decide) rfl (h D0 _ h0 (st a0 a1 a2 a3) (pick N (.tail _ (.tail _ (.tail _ (.tail _ (.head _))))) (.tail _ (.tail _ (.tail _ (.tail _ (.tail _ (.head _)))))))) hs
  · exact item_litK hl (by decide) (by decide) rfl (h D1 _ h1 (st b0 b1 b2 b3) (pick N (.tail _ (.tail _ (.tail _ (.head _)))) (.tail _ (.tail _ (.tail _ (.tail _ (.tail _ (.head _)))))))) hs
  · exact item_litK hl (by decide) (by decide) rfl (h D2 _ h2 (st c0 c1 c2 c3) (pick N (.tail _ (.tail _ (.head _))) (.tail _ (.tail _ (.tail _ (.tail _ (.tail _ (.head _)))))))) hs
  · exact item_litK hl (by decide) (by decide) rfl (h D3 _ h3 (st d0 d1 d2 d3) (pick N (.tail _ (.head _)) (.tail _ (.tail _ (.tail _ (.tail _ (.tail _ (.head _)))))))) hs
theorem pickT {prog : Program} {w : World} {A : Around} {E : Value → Shared → Prop} {s : Shared} {h₀ : Heap} {L l D0 D1 D2 D3 : Addr} {p q : Addr × Obj} {value slice : PySem.Expr} {mode : Int} {u a0 a1 b0 b1 c0 c1 d0 d1 : Tok} {n : Nat} {Q : Value → Shared → Prop} (hm : mode = 0 ∨ mode = 1 ∨ mode = 2 ∨ mode = 3)
    (N : News h₀ L s.heap [(l, listOf #[.ref D0, .ref D1, .ref D2, .ref D3] n), (D3, tupOf #[.int (-1) d0, .int 0 d1] 0), (D2, tupOf #[.int 0 c0, .int (-1) c1] 0), (D1, tupOf #[.int 0 b0, .int (-1) b1] 0), (D0, tupOf #[.int 0 a0, .int 1 a1] 0), p, q])
    (h : ∀ T t t', News h₀ L s.heap [(T, tupOf #[.int (noP mode).1 t, .int (noP mode).2 t'] 0), p, q] → Q (.ref T) s)
    (hs : subscripted slice false (.ref l) (.int mode u) = operate [.ref l, .int mode u] (getItem (.ref l) (.int mode u)) := by with_unfolding_all rfl) :
    wpAny (model prog w) A (subscriptTail value slice (.ref l) (.int mode u)) Q E s := by
  have hl : s.heap.IsList l (List.toArray [.ref D0, .ref D1, .ref D2, .ref D3]) := listIn N (.head _)
  have pick : ∀ {x : Addr × Obj} {nw : List (Addr × Obj)}, News h₀ L s.heap nw → x ∈ nw → p ∈ nw → q ∈ nw → News h₀ L s.heap [x, p, q] := fun N hx hp hq => cb_drop N (fun z hz => by
    rcases List.mem_cons.mp hz with rfl | hz
    · exact hx
    rcases List.mem_cons.mp hz with rfl | hz
    · exact hp
    · rw [List.mem_singleton.mp hz]; exact hq)
  have hp : p ∈ [(l, listOf #[.ref D0, .ref D1, .ref D2, .ref D3] n), (D3, tupOf #[.int (-1) d0, .int 0 d1] 0), (D2, tupOf #[.int 0 c0, .int (-1) c1] 0), (D1, tupOf #[.int 0 b0, .int (-1) b1] 0), (D0, tupOf #[.int 0 a0, .int 1 a1] 0), p, q] := .tail _ (.tail _ (.tail _ (.tail _ (.tail _ (.head _)))))
  have hq : q ∈ [(l, listOf #[.ref D0, .ref D1, .ref D2, .ref D3] n), (D3, tupOf #[.int (-1) d0, .int 0 d1] 0), (D2, tupOf #[.int 0 c0, .int (-1) c1] 0), (D1, tupOf #[.int 0 b0, .int (-1) b1] 0), (D0, tupOf #[.int 0 a0, .int 1 a1] 0), p, q] := .tail _ (.tail _ (.tail _ (.tail _ (.tail _ (.tail _ (.head _))))))
  rcases hm with rfl | rfl | rfl | rfl
  · exact item_litK hl (by decide) (by decide) rfl (h D0 _ _ (pick N (.tail _ (.tail _ (.tail _ (.tail _ (.head _))))) hp hq)) hs
  · exact item_litK hl (by decide) (by decide) rfl (h D1 _ _ (pick N (.tail _ (.tail _ (.tail _ (.head _)))) hp hq)) hs
  · exact item_litK hl (by decide) (by decide) rfl (h D2 _ _ (pick N (.tail _ (.tail _ (.head _))) hp hq)) hs
  · exact item_litK hl (by decide) (by decide) rfl (h D3 _ _ (pick N (.tail _ (.head _)) hp hq)) hs
theorem kst_keep {α : Type} {l : List α} (p : List α) : ∀ x ∈ l, x ∈ p ++ l := fun _ h => List.mem_append_right _ h
theorem kst_keep1 {α : Type} {a : α} {l : List α} (p : List α) : ∀ x ∈ a :: l, x ∈ a :: (p ++ l) := fun _ h => (List.mem_cons.mp h).elim (fun e => e ▸ .head _) fun h => .tail _ (List.mem_append_right _ h)
theorem kst_sub14 {α : Type} {a b c i t w : α} : ∀ x ∈ [a, i, t, w], x ∈ [a, b, c, i, t, w] := by
  intro p hp
  simp only [List.mem_cons, List.not_mem_nil, or_false] at hp ⊢
  rcases hp with rfl | rfl | rfl | rfl <;> simp
theorem unitP_len {mode : Int} {p : Nat} (h : p < 4) : (unitP mode p).length = 4 := by
  simp [unitP]; omega
theorem fst_sub {α : Type} (a : α) (l : List α) : ∀ p ∈ [a], p ∈ a :: l := fun p hp => by rw [List.mem_singleton.mp hp]; exact .head _
set_option maxHeartbeats 4000000 in
theorem agree_tells (w : World) (mode : Int) (tm : Tok) (lc lr : Addr) (vc vr : List Value) (zs r ws : List Int) (ag : Agr mode zs r ws) (hm : mode = 0 ∨ mode = 1 ∨ mode = 2 ∨ mode = 3)
    (hic : IntsAre vc zs) (hir : IntsAre vr r) (hr4 : r.length = 4) (hz : zs.length ≤ 10) (hz6 : 6 ≤ zs.length) :
    Claim w 195 10 [.int mode tm, .ref lc, .ref lr] (fun s => s.heap.IsList lc vc.toArray ∧ s.heap.IsList lr vr.toArray) (fun _ _ v => v = .bool true) := by
  unfold Claim; k_fill; intro mean mg mb dp un gd cn cs ad ccd cl outer A₀ base h₀ L m s Q E B F X T hkf hd hu hp hret; refine wpAny_call ?_
  k_dflt (refine' code_defC0 ?k1 ?k2 ?k3 ?k5 ?kA ?kF ?kK ?k6 ?k7 ?k8 ?k9 ?kB ?kD ?_ ?c2 ?c3 ?c4; (case kA => exact rfl); (case kF => exact rfl); (case kK => assumption); (case k1 => k_asm); (case k2 => k_asm); (case k3 => k_asm); (case k5 => k_asm); (case k6 => k_is); (case k7 => k_is); (case k8 => first | exact Nat.lt_of_le_of_lt (Nat.le_add_right dp _) hd | exact fit2 hd (by decide) | exact fit3 hd (by decide) | (trace "ROOM8"; trace_state; ktr_room)); (case k9 => exact BindsTo.of_eq (binds := [(Str.ofString "mode", .int mode tm), (Str.ofString "cells", .ref lc), (Str.ofString "row", .ref lr)]) rfl); (case kB => exact rfl); (case kD => decide +kernel); (case c2 => exact rfl); (case c3 => exact rfl); (case c4 => exact rfl); k_whole; intro L' h' tk' cells' F' N' Y' B' X' T'; k_cells Y'; (try simp only [List.cons_append, List.nil_append] at N'); (try dsimp only); (try k_lift B'); (try k_fold))
  obtain ⟨hpc, hpr⟩ := hp
  have hwl : ws.length ≤ 1000 := by rw [ag.wlen]; omega
  have hwl2 : ws.length ≤ 2000 := Nat.le_trans hwl (by decide)
  repeat' ((fail_if_success (with_reducible show wpAny _ _ (subscriptTail _ _ _ _) _ _ _)); first | (k_unfold; (try dsimp only)) | (k_gentoks; (try dsimp only)) | (k_end; wrow_close) | walk1 | (dsimp only; walk1) | (leave1; try dsimp only))
  (rename News _ _ _ _ => N1)
  refine pickS hm N1 (by first | assumption | exact lt_mem (by assumption) (by k_mem)) (by first | assumption | exact lt_mem (by assumption) (by k_mem)) (by first | assumption | exact lt_mem (by assumption) (by k_mem)) (by first | assumption | exact lt_mem (by assumption) (by k_mem)) (fun T vS hT hS N2 => ?_) (by with_unfolding_all rfl)
  clear N1
  repeat' ((fail_if_success (with_reducible show wpAny _ _ (eval (PySem.Expr.ListComp _ _ _ _) _) _ _ _)); first | (k_unfold; (try dsimp only)) | (k_gentoks; (try dsimp only)) | (k_end; wrow_close) | walk1 | (dsimp only; walk1) | (leave1; try dsimp only))
  k_dflt (refine LCg.ListComp_U (by k_asm) (by with_unfolding_all rfl) (by decide) (by rfl) (by decide) (by rfl) ?_)
  repeat' ((fail_if_success (with_reducible show LCg.CompSrc _ _ _ _ _ _ _ _ _ _ _ _ _ _)); first | (k_unfold; (try dsimp only)) | (k_gentoks; (try dsimp only)) | (k_end; wrow_close) | walk1 | (dsimp only; walk1) | (leave1; try dsimp only))
  refine LCg.CompSrc.base (by rfl) (by k_asm) (by k_asm) hpc (ints_size hic (Nat.le_trans hz (by decide))) (fun g => strs_list (stmtS (sgP mode)) hic ?_ ?_)
  · intro k t' I oI C oC D m₂ ys h tk E' hk hC hx F N off ne
    (simp only [LCg.Off3, and_true] at off)
    obtain ⟨n1, n2, n3⟩ := ne
    obtain ⟨⟨_, _, _⟩, ⟨_, _, _⟩⟩ := off
    dsimp only
    with_reducible show wpAny _ _ _ _ _ _
    (try k_fold)
    repeat' (first | ((with_reducible show wpAny _ _ (call (Value.ref 183) _) _ _ _); (k_dflt (refine' Claim.use ?k1 ?k2 ?k3 ?k4 ?k5 ?kK (statement_tells _ T vS (sgP mode) _ _ hS (sgP_len _) (sgP_short _)) ?kd ?ku ?kp ?_); (case k1 => k_asm); (case k2 => k_asm); (case k3 => k_asm); (case k4 => k_asm); (case k5 => k_asm); (case kK => first | exact rfl | assumption); (case kd => first | assumption | first | exact fit2 hd (by decide) | exact fit3 hd (by decide) | (trace "ROOM"; trace_state; ktr_room)); (case ku => first | exact fit2 hu (by decide) | exact fit3 hu (by decide) | (trace "UNITS"; trace_state; ktr_units)); (case kp => exact listIn (by k_asm) (by k_mem)); (intro v9 h9 tk9 g9 F9 N9 st9 hp9); (obtain ⟨t8, e8⟩ := hp9; subst e8); (try dsimp only))) | ((with_reducible show KStEl _ _ _ _); exact ⟨rfl, _, rfl⟩) | (k_unfold; (try dsimp only)) | (k_gentoks; (try dsimp only)) | (k_end; wrow_close) | walk1 | (dsimp only; walk1) | (leave1; try dsimp only))
  intro ys hys D h tk F N off
  clear off
  repeat' ((fail_if_success (with_reducible show wpAny _ _ (call (Value.builtin "str.join") _) _ _ _)); first | (k_unfold; (try dsimp only)) | (k_gentoks; (try dsimp only)) | (k_end; wrow_close) | walk1 | (dsimp only; walk1) | (leave1; try dsimp only))
  refine join_listW (listIn (by k_asm) (by k_mem)) hys (by decide) ag.weight (fun t9 k9 => ?_)
  repeat' ((fail_if_success (with_reducible show wpAny _ _ (execs (Stmt.If _ _ _ _ :: _) _) _ _ _)); first | ((with_reducible show wpAny _ _ (call (Value.ref 155) _) _ _ _); (k_dflt (refine' Claim.use ?k1 ?k2 ?k3 ?k4 ?k5 ?kK (words_tells _ (txtP mode zs) _ ws ag.toks ag.short hwl) ?kd ?ku ?kp ?_); (case k1 => k_asm); (case k2 => k_asm); (case k3 => k_asm); (case k4 => k_asm); (case k5 => k_asm); (case kK => first | exact rfl | assumption); (case kd => first | assumption | first | exact fit2 hd (by decide) | exact fit3 hd (by decide) | (trace "ROOM"; trace_state; ktr_room)); (case ku => first | exact fit2 hu (by decide) | exact fit3 hu (by decide) | (trace "UNITS"; trace_state; ktr_units)); (case kp => trivial); (intro v9 h9 tk9 g9 F9 N9 st9 hp9); (obtain ⟨lw, nw, vw, e8, hf8, hg8, hiw⟩ := hp9; subst e8; dsimp only at st9 hf8; have N8 := cb_drop (news_more (by k_asm) (by k_asm) st9 hf8 hg8) (fst_sub _ _); clear N9 hf8 hg8); (try dsimp only))) | ((with_reducible show wpAny _ _ (call (Value.ref 190) _) _ _ _); (k_dflt (refine' Claim.use ?k1 ?k2 ?k3 ?k4 ?k5 ?kK (plain_tells _ _ _ _ _ _ _ _ _ hic hir hr4 (Nat.le_trans hz (by decide))) ?kd ?ku ?kp ?_); (case k1 => k_asm); (case k2 => k_asm); (case k3 => k_asm); (case k4 => k_asm); (case k5 => k_asm); (case kK => first | exact rfl | assumption); (case kd => first | assumption | first | exact fit2 hd (by decide) | exact fit3 hd (by decide) | (trace "ROOM"; trace_state; ktr_room)); (case ku => first | exact fit2 hu (by decide) | exact fit3 hu (by decide) | (trace "UNITS"; trace_state; ktr_units)); (case kp => exact ⟨hpc.at fun o e => Fr.keep (by k_asm) _ o e, hpr.at fun o e => Fr.keep (by k_asm) _ o e⟩); (intro v9 h9 tk9 g9 F9 N9 st9 hp9); (obtain ⟨lt, nt, vt, e8, hf8, hg8, hit⟩ := hp9; subst e8; dsimp only at st9 hf8; have N8 := news_more (by k_asm) (by k_asm) st9 hf8 hg8; clear N9 hf8 hg8); (try dsimp only))) | (k_unfold; (try dsimp only)) | (k_gentoks; (try dsimp only)) | (k_end; wrow_close) | walk1 | (dsimp only; walk1) | (leave1; try dsimp only))
  (rename Fr _ _ _ _ => F1); (rename News _ _ _ _ => N1)
  repeat' ((fail_if_success (with_reducible show wpAny _ _ (subscriptTail _ _ (Value.ref _) (Value.ref _)) _ _ _)); first | (k_unfold; (try dsimp only)) | (k_gentoks; (try dsimp only)) | (k_end; wrow_close) | walk1 | (dsimp only; walk1) | (leave1; try dsimp only))
  refine slice_ints3 (by k_asm) (by k_asm) (listIn (by k_asm) (by k_mem)) hiw (.int _ _) .none (.int _ _) (by decide) (ints_size hiw hwl2) (fun D9 us h9 F9 N9 l9 hus => ?_) (by with_unfolding_all rfl) (fun _ => rfl)
  rw [ag.commas] at hus
  clear F1 N1
  repeat' ((fail_if_success (with_reducible show wpAny _ _ (compareOp _ _ _) _ _ _)); first | (k_unfold; (try dsimp only)) | (k_gentoks; (try dsimp only)) | (k_end; wrow_close) | walk1 | (dsimp only; walk1) | (leave1; try dsimp only))
  refine ne_same (listIn (by k_asm) (by k_mem)) (listIn (by k_asm) (by k_mem)) hus (by assumption) (by (show _ + _ < _); exact fit3 hu (by decide)) rfl ?_
  (rename News _ _ _ _ => N1)
  have N2 := cb_drop N1 (fun p hp => List.mem_append_right [_, _, _] hp)
  clear N1
  repeat' ((fail_if_success (with_reducible show wpAny _ _ (compareOp _ _ _) _ _ _)); first | ((with_reducible show wpAny _ _ (call (Value.ref 169) _) _ _ _); (k_dflt (refine' Claim.use ?k1 ?k2 ?k3 ?k4 ?k5 ?kK (run_tells _ _ _ _ _ ws r zs.length hiw hir hr4 ag.wlen (Nat.le_trans (by decide) hz6) (Nat.le_trans hz (by decide)) ag.ok) ?kd ?ku ?kp ?_); (case k1 => k_asm); (case k2 => k_asm); (case k3 => k_asm); (case k4 => k_asm); (case k5 => k_asm); (case kK => first | exact rfl | assumption); (case kd => first | assumption | first | exact fit2 hd (by decide) | exact fit3 hd (by decide) | (trace "ROOM"; trace_state; ktr_room)); (case ku => first | exact fit2 hu (by decide) | exact fit3 hu (by decide) | (trace "UNITS"; trace_state; ktr_units)); (case kp => exact ⟨listIn (by k_asm) (by k_mem), hpr.at fun o e => Fr.keep (by k_asm) _ o e⟩); (intro v9 h9 tk9 g9 F9 N9 st9 hp9); (obtain ⟨lg, ng, vg, e8, hf8, hg8, hig⟩ := hp9; subst e8; dsimp only at st9 hf8; have N8 := news_more (by k_asm) (by k_asm) st9 hf8 hg8; clear N9 hf8 hg8); (try dsimp only))) | (k_unfold; (try dsimp only)) | (k_gentoks; (try dsimp only)) | (k_end; wrow_close) | walk1 | (dsimp only; walk1) | (leave1; try dsimp only))
  refine ne_same (listIn (by k_asm) (by k_mem)) (listIn (by k_asm) (by k_mem)) hig hit (by (show _ + _ < _); exact fit3 hu (by decide)) ag.run ?_
  have N7 := cb_drop N8 (fun p hp => .tail _ hp)
  clear N8
  repeat' ((fail_if_success (with_reducible show wpAny _ _ (subscriptTail _ _ (Value.ref _) (Value.int _ _)) _ _ _)); first | (k_unfold; (try dsimp only)) | (k_gentoks; (try dsimp only)) | (k_end; wrow_close) | walk1 | (dsimp only; walk1) | (leave1; try dsimp only))
  (rename News _ _ _ _ => N1)
  refine pickT hm N1 (fun T9 t8 t9 N2 => ?_) (by with_unfolding_all rfl)
  clear N1
  repeat' ((fail_if_success (with_reducible show wpAny _ _ (exec (Stmt.For _ _ _ _ _) _) _ _ _)); first | (k_unfold; (try dsimp only)) | (k_gentoks; (try dsimp only)) | (k_end; wrow_close) | walk1 | (dsimp only; walk1) | (leave1; try dsimp only))
  (rename Fr _ _ _ _ => F1); (rename News _ _ _ _ => N1)
  have N3 := cb_drop N1 (fun p hp => .tail _ hp)
  clear N1
  (with_unfolding_all refine' For_invVF F1 ?k1 ?k2 ?_; (case k1 => exact rfl); (case k2 => exact rfl); k_whole)
  repeat' ((fail_if_success (with_reducible show wpAny _ _ (pyIter (Value.ref _)) _ _ _)); first | (k_unfold; (try dsimp only)) | (k_gentoks; (try dsimp only)) | (k_end; wrow_close) | walk1 | (dsimp only; walk1) | (leave1; try dsimp only))
  (rename Fr _ _ _ _ => F1); (rename News _ _ _ _ => N1); (rename IsRange _ _ _ _ _ _ _ _ => hR)
  with_unfolding_all refine range_loop (n := 4) (σ := Unit) (fun _ => [(lt, listOf vt.toArray nt), (lw, listOf vw.toArray nw)]) [Str.ofString "weights"] (fun _ _ => True) () (fun _ => rfl) (by rfl) hR (by decide +kernel) (by decide +kernel) F1 N1 trivial ?_ ?_
  · clear F1 N1 hR
    intro I i d t u h tk hI hi hp F N
    dsimp only
    with_reducible show wpAny _ _ _ _ _ _
    k_fold
    repeat' ((fail_if_success (with_reducible show wpAny _ _ (subscriptTail _ _ (Value.ref _) (Value.ref _)) _ _ _)); first | (k_unfold; (try dsimp only)) | (k_gentoks; (try dsimp only)) | (k_end; wrow_close) | walk1 | (dsimp only; walk1) | (leave1; try dsimp only))
    refine slice_ints3 (by k_asm) (by k_asm) (listIn (by k_asm) (by k_mem)) hiw .none .none (.int _ _) (by decide) (ints_size hiw hwl2) (fun D9 us h9 F9 N9 l9 hus => ?_) (by with_unfolding_all rfl) (fun _ => rfl)
    rw [ag.revs] at hus
    repeat' ((fail_if_success (with_reducible show wpAny _ _ (call (Value.ref 169) _) _ _ _)); first | (k_unfold; (try dsimp only)) | (k_gentoks; (try dsimp only)) | (k_end; wrow_close) | walk1 | (dsimp only; walk1) | (leave1; try dsimp only))
    (rename IntsAre _ ((_ ++ _) ++ _) => hun); (rename Fr _ _ _ _ => F1); (rename News _ _ _ _ => N1)
    have e1 : (0 + (i : Int) * 1).toNat = i := by omega
    have e2 : (3 - (0 + (i : Int) * 1)).toNat = 3 - i := by omega
    rw [e1, e2] at hun
    have hun2 : IntsAre _ (unitP mode i) := hun
    have N2 := cb_drop N1 (kst_keep1 [_, _, _, _, _, _])
    clear N1 hun
    (k_dflt (refine' Claim.use ?k1 ?k2 ?k3 ?k4 ?k5 ?kK (run_tells _ _ _ _ _ ws.reverse (unitP mode i) zs.length hus hun2 (unitP_len hi) (by rw [List.length_reverse]; exact ag.wlen) (Nat.le_trans (by decide) hz6) (Nat.le_trans hz (by decide)) (ag.okR i hi)) ?kd ?ku ?kp ?_); (case k1 => k_asm); (case k2 => k_asm); (case k3 => k_asm); (case k4 => k_asm); (case k5 => k_asm); (case kK => first | exact rfl | assumption); (case kd => first | assumption | first | exact fit2 hd (by decide) | exact fit3 hd (by decide) | (trace "ROOM"; trace_state; ktr_room)); (case ku => first | exact fit2 hu (by decide) | exact fit3 hu (by decide) | (trace "UNITS"; trace_state; ktr_units)); (case kp => exact ⟨listIn (by k_asm) (by k_mem), listIn (by k_asm) (by k_mem)⟩); (intro v9 h9 tk9 g9 F9 N9 st9 hp9); (obtain ⟨lx, nx, vx, e8, hf8, hg8, hix⟩ := hp9; subst e8; dsimp only at st9 hf8; have N8 := cb_drop (news_more (by k_asm) (by k_asm) st9 hf8 hg8) kst_sub14; clear N9 N2 hf8 hg8); (try dsimp only))
    repeat' ((fail_if_success (with_reducible show wpAny _ _ (compareOp _ _ _) _ _ _)); first | ((with_reducible show wpAny _ _ (call (Value.ref 176) _) _ _ _); (k_dflt (refine' Claim.use ?k1 ?k2 ?k3 ?k4 ?k5 ?kK (woven_tells _ mode (noP mode).1 _ _ _ _ _ _ (runP ws.reverse (unitP mode i) zs.length) r (jnP mode) (bnP mode) hm (fun a b t u => jn_tells w hm a b t u) (fun a b t u hz => bn_tells w hm a b t u (fun h => ag.mulok h i hi a b hz)) hix hir (by rw [runP_len]; exact unitP_len hi) hr4) ?kd ?ku ?kp ?_); (case k1 => k_asm); (case k2 => k_asm); (case k3 => k_asm); (case k4 => k_asm); (case k5 => k_asm); (case kK => first | exact rfl | assumption); (case kd => first | assumption | first | exact fit2 hd (by decide) | exact fit3 hd (by decide) | (trace "ROOM"; trace_state; ktr_room)); (case ku => first | exact fit2 hu (by decide) | exact fit3 hu (by decide) | (trace "UNITS"; trace_state; ktr_units)); (case kp => exact ⟨listIn (by k_asm) (by k_mem), hpr.at fun o e => Fr.keep (by k_asm) _ o e⟩); (intro v9 h9 tk9 g9 F9 N9 st9 hp9); (obtain ⟨t8, e8⟩ := hp9; subst e8); (try dsimp only))) | ((with_reducible show wpAny _ _ (subscriptTail _ _ _ _) _ _ _); (refine item_anyK (listIn (by k_asm) (by k_mem)) hit (by omega) (by rw [plRun_len, hr4]; omega) (by omega) (fun t9 => ?_) (by with_unfolding_all rfl))) | (k_unfold; (try dsimp only)) | (k_gentoks; (try dsimp only)) | (k_end; wrow_close) | walk1 | (dsimp only; walk1) | (leave1; try dsimp only))
    rw [e1, ← ag.wove i hi]
    refine ne_int ?_
    rw [bne_self_eq_false]
    repeat' (first | (k_unfold; (try dsimp only)) | (k_gentoks; (try dsimp only)) | (k_end; wrow_close) | walk1 | (dsimp only; walk1) | (leave1; try dsimp only))
    refine ⟨rfl, (), _, _, _, rfl, by k_asm, cb_drop (by k_asm) (kst_keep [_]), fun y h1 h2 => ?_, trivial⟩
    (simp only [List.contains_cons, List.contains_nil, Bool.or_false, beq_eq_false_iff_ne] at h2)
    simp [h1, h2]
  · clear F1 N1 hR
    intro d u h tk hp F N
    dsimp only
    with_reducible show wpAny _ _ _ _ _ _
    (try k_fold)
    repeat' (first | (k_unfold; (try dsimp only)) | (k_gentoks; (try dsimp only)) | (k_end; wrow_close) | walk1 | (dsimp only; walk1) | (leave1; try dsimp only))
    refine hret _ _ _ (fun b o e => Fr.keep (by assumption) b o e) ?_
    rfl

/-- a text by its signs -/
abbrev SS (l : List Nat) : Str := ⟨l.toArray⟩
theorem ss_len (l : List Nat) : (SS l).length = l.length := List.size_toArray
theorem ss_app (a b : List Nat) : SS a ++ SS b = SS (a ++ b) := congrArg Str.mk (by simp)
theorem slice_to (l : List Nat) (k : Nat) : Txt.slice (SS l) none (some (k : Int)) = SS (l.take k) := by
  by_cases h : k ≤ l.length
  · have e : Txt.slice (SS l) none (some (k : Int)) = _ := StrLaws.sliceText_to (x := SS l) (j := k) ⟨by omega, by simpa using h⟩
    rw [e]
    simp
  · have e1 : Txt.slice (SS l) none (some (k : Int)) = Txt.slice (SS l) none (some (l.length : Int)) := by
      unfold Txt.slice
      rw [ss_len]
      have : Builtin.Str.strSliceIndices none (some (k : Int)) 1 l.length = Builtin.Str.strSliceIndices none (some (l.length : Int)) 1 l.length := by
        have h0 : ¬ (k : Int) < 0 := by omega
        have h1 : ¬ (l.length : Int) < 0 := by omega
        simp only [Builtin.Str.strSliceIndices, h0, h1, if_false, show ((1 : Int) > 0) = True from by simp, if_true, Int.min_eq_right (show (l.length : Int) ≤ k by omega), Int.min_self]
      rw [this]
    have e : Txt.slice (SS l) none (some (l.length : Int)) = _ := StrLaws.sliceText_to (x := SS l) (j := l.length) ⟨by omega, by simp⟩
    rw [e1, e, List.take_of_length_le (by omega : l.length ≤ k)]
    simp
theorem slice_fr (l : List Nat) (k : Nat) (h : k ≤ l.length) : Txt.slice (SS l) (some (k : Int)) none = SS (l.drop k) := by
  have e : Txt.slice (SS l) (some (k : Int)) none = _ := StrLaws.sliceText_from (x := SS l) (i := k) ⟨by omega, by simpa using h⟩
  rw [e]
  simp only [Int.toNat_natCast]
  rw [List.take_of_length_le (by rw [List.length_drop]; omega)]
theorem item_at {l : List Nat} {k c : Nat} (h : l[k]? = some c) : Txt.item (SS l) (k : Int) = SS [c] := by
  have hk : k < l.length := (List.getElem?_eq_some_iff.mp h).1
  have hc : Txt.charAt (SS l) (k : Int) = some c := by
    unfold Txt.charAt
    have : seqIndex? (k : Int) (SS l).length = some k := by
      rw [ss_len]
      unfold seqIndex?
      simp [hk, show ¬ ((k : Int) < 0) by omega]
    rw [this]
    simpa using h
  unfold Txt.item
  rw [hc]
  rfl
/-- a letter of a register or a digit -/
def plainC (c : Nat) : Bool := (97 ≤ c && c ≤ 100) || (48 ≤ c && c ≤ 57)
theorem keys_of (P : Str → Bool) {x : Str} : ∀ (D : List (Str × KTD.Dat)), (D.all fun p => P p.1) = true → KTD.inKeys x D = true → P x = true
  | [], _, h => by cases h
  | p :: D, h, h' => by
    rw [List.all_cons, Bool.and_eq_true] at h
    unfold KTD.inKeys at h'
    rw [Bool.or_eq_true] at h'
    rcases h' with e | e
    · have e := of_decide_eq_true e
      rw [e]; exact h.1
    · exact keys_of P D h.2 e
theorem keys_no {l : List Nat} {c : Nat} (hm : c ∈ l) (hc : plainC c = true) : KTD.inKeys (SS l) tokD = false := by
  rw [← Bool.not_eq_true]
  intro h
  have := keys_of (fun x => x.cps.toList.all fun c => !plainC c) tokD (by decide +kernel) h
  rw [List.all_eq_true] at this
  have := this c (by simpa using hm)
  rw [hc] at this
  cases this
theorem keys_comma {c : Nat} {l : List Nat} : KTD.inKeys (SS (44 :: c :: l)) tokD = false := by
  rw [← Bool.not_eq_true]
  intro h
  have := keys_of (fun x => match x.cps.toList with | 44 :: _ :: _ => false | _ => true) tokD (by decide +kernel) h
  simp at this
theorem fits_ss (l : List Nat) (k : Nat) : fits (SS l) (k : Int) = KTD.inKeys (SS (l.take k)) tokD := by
  unfold fits; rw [slice_to]
theorem sz_1 {c : Nat} {l : List Nat} (hc : plainC c = true) : szOf (SS (c :: l)) = 1 := by
  unfold szOf
  have h3 : fits (SS (c :: l)) 3 = false := (fits_ss _ 3).trans (keys_no (c := c) (by simp) hc)
  have h2 : fits (SS (c :: l)) 2 = false := (fits_ss _ 2).trans (keys_no (c := c) (by simp) hc)
  rw [h3, h2]; rfl
theorem sl1 (c : Nat) (l : List Nat) : Txt.slice (SS (c :: l)) none (some 1) = SS [c] := slice_to (c :: l) 1
theorem sf1 (c : Nat) (l : List Nat) : Txt.slice (SS (c :: l)) (some 1) none = SS l := slice_fr (c :: l) 1 (Nat.succ_le_succ (Nat.zero_le _))
theorem reg_ss {k : Nat} (h : k < 4) : regS k = SS [97 + k] := by
  have : k = 0 ∨ k = 1 ∨ k = 2 ∨ k = 3 := by omega
  rcases this with rfl | rfl | rfl | rfl <;> decide +kernel
theorem pl_reg {k : Nat} (h : k < 4) : plainC (97 + k) = true := by
  have : k = 0 ∨ k = 1 ∨ k = 2 ∨ k = 3 := by omega
  rcases this with rfl | rfl | rfl | rfl <;> decide
theorem tok_reg {k : Nat} (h : k < 4) (l : List Nat) : Tok1 (SS ((97 + k) :: l)) (256 + k) (SS l) := by
  have hs : szOf (SS ((97 + k) :: l)) = 1 := sz_1 (pl_reg h)
  have t := Tok1.reg (x := SS ((97 + k) :: l)) k h (by rw [hs, sl1]; exact keys_no (c := 97 + k) (by simp) (pl_reg h)) ((item_at (k := 0) rfl).trans (reg_ss h).symm)
  rw [hs, sf1] at t
  exact t
theorem tok_two {a b c : Nat} {l : List Nat} (hk : KTD.inKeys (SS [a, b]) tokD = true) (hc : plainC c = true) : Tok1 (SS (a :: b :: c :: l)) (tokV (SS [a, b])) (SS (c :: l)) := by
  have hs : szOf (SS (a :: b :: c :: l)) = 2 := by
    unfold szOf
    have h3 : fits (SS (a :: b :: c :: l)) 3 = false := (fits_ss _ 3).trans (keys_no (c := c) (by simp) hc)
    have h2 : fits (SS (a :: b :: c :: l)) 2 = true := (fits_ss _ 2).trans hk
    rw [h3, h2]; rfl
  have e : Txt.slice (SS (a :: b :: c :: l)) none (some 2) = SS [a, b] := slice_to _ 2
  have e' : Txt.slice (SS (a :: b :: c :: l)) (some 2) none = SS (c :: l) := slice_fr _ 2 (by simp)
  have t := Tok1.op (x := SS (a :: b :: c :: l)) (by rw [hs, e]; exact hk)
  rw [hs, e, e'] at t
  exact t
theorem tok_three {a b c : Nat} {l : List Nat} (hk : KTD.inKeys (SS [a, b, c]) tokD = true) : Tok1 (SS (a :: b :: c :: l)) (tokV (SS [a, b, c])) (SS l) := by
  have hs : szOf (SS (a :: b :: c :: l)) = 3 := by
    unfold szOf
    have h3 : fits (SS (a :: b :: c :: l)) 3 = true := (fits_ss _ 3).trans hk
    rw [h3]; rfl
  have e : Txt.slice (SS (a :: b :: c :: l)) none (some 3) = SS [a, b, c] := slice_to _ 3
  have e' : Txt.slice (SS (a :: b :: c :: l)) (some 3) none = SS l := slice_fr _ 3 (by simp)
  have t := Tok1.op (x := SS (a :: b :: c :: l)) (by rw [hs, e]; exact hk)
  rw [hs, e, e'] at t
  exact t
theorem tok_comma (c : Nat) (l : List Nat) : Tok1 (SS (44 :: c :: l)) 12 (SS (c :: l)) := by
  have hs : szOf (SS (44 :: c :: l)) = 1 := by
    unfold szOf
    have h3 : fits (SS (44 :: c :: l)) 3 = false := (fits_ss _ 3).trans keys_comma
    have h2 : fits (SS (44 :: c :: l)) 2 = false := (fits_ss _ 2).trans keys_comma
    rw [h3, h2]; rfl
  have t := Tok1.op (x := SS (44 :: c :: l)) (by rw [hs, sl1]; decide +kernel)
  rw [hs, sl1, sf1] at t
  have e : tokV (SS [44]) = 12 := by decide +kernel
  exact e ▸ t
/-- the signs of a number below 24 -/
def dgL (n : Nat) : List Nat := if n < 10 then [48 + n] else [48 + n / 10, 48 + n % 10]
theorem num_ss {n : Nat} (h : n < 24) : numS n = SS (dgL n) := by
  have : ∀ n : Fin 24, numS n.val = SS (dgL n.val) := by decide +kernel
  exact this ⟨n, h⟩
theorem dg_plain {k : Nat} (h : k < 10) : plainC (48 + k) = true ∧ Txt.contains (Str.ofString "abcd") (SS [48 + k]) = false ∧ Txt.isdigit (SS [48 + k]) = true := by
  have : ∀ k : Fin 10, plainC (48 + k.val) = true ∧ Txt.contains (Str.ofString "abcd") (SS [48 + k.val]) = false ∧ Txt.isdigit (SS [48 + k.val]) = true := by decide +kernel
  exact this ⟨k, h⟩
theorem tok_num {n : Nat} (h : n < 24) {l : List Nat} (hl : l = [] ∨ ∃ r, l = 44 :: r) : Tok1 (SS (dgL n ++ l)) (-(n : Int) - 1) (SS l) := by
  have dig : (44 : Nat) ∈ [44] ∧ Txt.isdigit (SS [44]) = false := by decide +kernel
  have stop : ∀ (p : List Nat), ((p.length : Int) < ((SS (p ++ l)).length : Int)) → Txt.isdigit (Txt.item (SS (p ++ l)) (p.length : Int)) = false := by
    intro p hp
    rw [ss_len, List.length_append] at hp
    rcases hl with rfl | ⟨r, rfl⟩
    · simp at hp
    · rw [item_at (k := p.length) (c := 44) (by simp)]
      exact dig.2
  by_cases h1 : n < 10
  · have e : dgL n = [48 + n] := if_pos h1
    obtain ⟨q1, q2, q3⟩ := dg_plain h1
    have hn := num_ss h
    rw [e] at hn ⊢
    have hs : szOf (SS ([48 + n] ++ l)) = 1 := sz_1 q1
    have t := Tok1.num (x := SS ([48 + n] ++ l)) n 1 (by rw [hs]; show KTD.inKeys (Txt.slice (SS (_ :: l)) none (some 1)) tokD = false; rw [sl1]; exact keys_no (by simp) q1) (by rw [show (0 : Int) = ((0 : Nat) : Int) from rfl, item_at (k := 0) rfl]; exact q2) h (by rw [hs]; exact Int.le_refl _)
      (by rw [ss_len, List.length_append, List.length_singleton]; omega) ((slice_to _ 1).trans hn.symm) (fun i a b => by rw [hs] at a; omega) (stop [48 + n])
    rw [show Txt.slice (SS ([48 + n] ++ l)) (some 1) none = SS l from sf1 _ l] at t
    exact t
  · have e : dgL n = [48 + n / 10, 48 + n % 10] := if_neg h1
    obtain ⟨q1, q2, q3⟩ := dg_plain (show n / 10 < 10 by omega)
    obtain ⟨_, _, q4⟩ := dg_plain (show n % 10 < 10 by omega)
    have hn := num_ss h
    rw [e] at hn ⊢
    have hs : szOf (SS ([48 + n / 10, 48 + n % 10] ++ l)) = 1 := sz_1 q1
    have t := Tok1.num (x := SS ([48 + n / 10, 48 + n % 10] ++ l)) n 2 (by rw [hs]; show KTD.inKeys (Txt.slice (SS (_ :: _)) none (some 1)) tokD = false; rw [sl1]; exact keys_no (by simp) q1) (by rw [show (0 : Int) = ((0 : Nat) : Int) from rfl, item_at (k := 0) rfl]; exact q2) h (by rw [hs]; decide)
      (by rw [ss_len, List.length_append, List.length_cons, List.length_singleton]; omega) ((slice_to _ 2).trans hn.symm) (fun i a b => by
        rw [hs] at a
        obtain rfl : i = ((1 : Nat) : Int) := by omega
        rw [item_at (k := 1) rfl]; exact q4) (stop [48 + n / 10, 48 + n % 10])
    rw [show Txt.slice (SS ([48 + n / 10, 48 + n % 10] ++ l)) (some 2) none = SS l from slice_fr _ 2 (by simp)] at t
    exact t

/-- the i-th bit of an int -/
def bt (x : Int) : Nat → Bool
  | 0 => decide (x % 2 = 1)
  | i + 1 => bt (x / 2) i
theorem bt_and : ∀ (i : Nat) (x y : Int), bt (Builtin.bitAnd x y) i = (bt x i && bt y i)
  | 0, x, y => by
    have h := kbt_halves x y
    show decide (_ % 2 = 1) = (decide (x % 2 = 1) && decide (y % 2 = 1))
    rw [← Bool.decide_and, decide_eq_decide]
    split at h <;> omega
  | i + 1, x, y => by
    have h := kbt_halves x y
    have e : Builtin.bitAnd x y / 2 = Builtin.bitAnd (x / 2) (y / 2) := by split at h <;> omega
    show bt (Builtin.bitAnd x y / 2) i = _
    rw [e, bt_and i]
    rfl
theorem bt_not : ∀ (i : Nat) (x : Int), bt (Builtin.bitNot x) i = !bt x i
  | 0, x => by
    show decide ((-x - 1) % 2 = 1) = !decide (x % 2 = 1)
    rw [← decide_not, decide_eq_decide]
    omega
  | i + 1, x => by
    have e : Builtin.bitNot x / 2 = Builtin.bitNot (x / 2) := by unfold Builtin.bitNot; omega
    show bt (Builtin.bitNot x / 2) i = _
    rw [e, bt_not i]
    rfl
theorem bt_or (i : Nat) (x y : Int) : bt (Builtin.bitOr x y) i = (bt x i || bt y i) := by
  unfold Builtin.bitOr
  rw [bt_not, bt_and, bt_not, bt_not]
  cases bt x i <;> cases bt y i <;> rfl
theorem or_halves (x y : Int) : Builtin.bitOr x y = 2 * Builtin.bitOr (x / 2) (y / 2) + (if x % 2 = 1 ∨ y % 2 = 1 then 1 else 0) := by
  unfold Builtin.bitOr
  have h := kbt_halves (Builtin.bitNot x) (Builtin.bitNot y)
  have e : Builtin.bitNot x / 2 = Builtin.bitNot (x / 2) := by unfold Builtin.bitNot; omega
  have e' : Builtin.bitNot y / 2 = Builtin.bitNot (y / 2) := by unfold Builtin.bitNot; omega
  rw [e, e'] at h
  rw [h]
  generalize Builtin.bitAnd _ _ = z
  unfold Builtin.bitNot
  split <;> split <;> omega
theorem bt_xor : ∀ (i : Nat) (x y : Int), bt (Builtin.bitXor x y) i = (bt x i ^^ bt y i)
  | 0, x, y => by
    have h := kbt_halves x y
    have h' := or_halves x y
    show decide (_ % 2 = 1) = (decide (x % 2 = 1) ^^ decide (y % 2 = 1))
    unfold Builtin.bitXor
    have a : x % 2 = 0 ∨ x % 2 = 1 := by omega
    have b : y % 2 = 0 ∨ y % 2 = 1 := by omega
    have e : (Builtin.bitOr x y - Builtin.bitAnd x y) % 2 = (x + y) % 2 := by split at h <;> split at h' <;> omega
    rw [e]
    rcases a with a | a <;> rcases b with b | b
    · rw [show (x + y) % 2 = 0 by omega, a, b]; rfl
    · rw [show (x + y) % 2 = 1 by omega, a, b]; rfl
    · rw [show (x + y) % 2 = 1 by omega, a, b]; rfl
    · rw [show (x + y) % 2 = 0 by omega, a, b]; rfl
  | i + 1, x, y => by
    have h := kbt_halves x y
    have h' := or_halves x y
    have e : Builtin.bitXor x y / 2 = Builtin.bitXor (x / 2) (y / 2) := by unfold Builtin.bitXor; split at h <;> split at h' <;> omega
    show bt (Builtin.bitXor x y / 2) i = _
    rw [e, bt_xor i]
    rfl
theorem bt_ext : ∀ (n : Nat) (x y : Int), x.natAbs + y.natAbs ≤ n → (∀ i, bt x i = bt y i) → x = y
  | n, x, y => by
    intro hn h
    have h0 : decide (x % 2 = 1) = decide (y % 2 = 1) := h 0
    rw [decide_eq_decide] at h0
    by_cases q : x / 2 = x ∧ y / 2 = y
    · omega
    · cases n with
      | zero => omega
      | succ n =>
        have := bt_ext n (x / 2) (y / 2) (by omega) (fun i => h (i + 1))
        omega
theorem bits {x y : Int} (h : ∀ i, bt x i = bt y i) : x = y := bt_ext _ x y (Nat.le_refl _) h
theorem bt_zero : ∀ i, bt 0 i = false
  | 0 => rfl
  | i + 1 => bt_zero i
theorem bt_ones : ∀ i, bt (-1) i = true
  | 0 => rfl
  | i + 1 => bt_ones i

/-- a weave over lists -/
def dotL (j b : Int → Int → Int) : Int → List Int → List Int → Int
  | z, w :: ws, r :: rs => dotL j b (j z (b w r)) ws rs
  | z, _, _ => z
structure Ring2 (j b : Int → Int → Int) : Prop where
  comm : ∀ x y, j x y = j y x
  assoc : ∀ x y z, j (j x y) z = j x (j y z)
  left : ∀ w x y, b w (j x y) = j (b w x) (b w y)
  right : ∀ w v x, b (j w v) x = j (b w x) (b v x)
section
variable {j b : Int → Int → Int} (R : Ring2 j b)
include R
theorem dot_pull : ∀ (ws rs : List Int) (z y : Int), dotL j b (j z y) ws rs = j (dotL j b z ws rs) y
  | [], _, _, _ => rfl
  | _ :: _, [], _, _ => rfl
  | w :: ws, r :: rs, z, y => by
    show dotL j b (j (j z y) (b w r)) ws rs = j (dotL j b (j z (b w r)) ws rs) y
    rw [← dot_pull ws rs, R.assoc, R.comm y, ← R.assoc]
theorem dot_setr : ∀ (ws rs : List Int) (z y : Int) (g : Nat), g < ws.length → g < rs.length → dotL j b z ws (rs.set g (j (rs.getD g 0) y)) = j (dotL j b z ws rs) (b (ws.getD g 0) y)
  | w :: ws, r :: rs, z, y, 0, _, _ => by
    show dotL j b (j z (b w (j r y))) ws rs = j (dotL j b (j z (b w r)) ws rs) (b w y)
    rw [R.left, ← R.assoc, dot_pull R]
  | w :: ws, r :: rs, z, y, g + 1, h, h' => by
    have := dot_setr ws rs (j z (b w r)) y g (Nat.lt_of_succ_lt_succ h) (Nat.lt_of_succ_lt_succ h')
    simpa [dotL] using this
theorem dot_setl : ∀ (ws rs : List Int) (z y : Int) (g : Nat), g < ws.length → g < rs.length → dotL j b z (ws.set g (j (ws.getD g 0) y)) rs = j (dotL j b z ws rs) (b y (rs.getD g 0))
  | w :: ws, r :: rs, z, y, 0, _, _ => by
    show dotL j b (j z (b (j w y) r)) ws rs = j (dotL j b (j z (b w r)) ws rs) (b y r)
    rw [R.right, ← R.assoc, dot_pull R]
  | w :: ws, r :: rs, z, y, g + 1, h, h' => by
    have := dot_setl ws rs (j z (b w r)) y g (Nat.lt_of_succ_lt_succ h) (Nat.lt_of_succ_lt_succ h')
    simpa [dotL] using this
omit R in
theorem dot_setm {m : Int → Int} (hm : ∀ w x, b (m w) x = b w (m x)) : ∀ (ws rs : List Int) (z : Int) (g : Nat), g < ws.length → g < rs.length → dotL j b z (ws.set g (m (ws.getD g 0))) rs = dotL j b z ws (rs.set g (m (rs.getD g 0)))
  | w :: ws, r :: rs, z, 0, _, _ => by
    show dotL j b (j z (b (m w) r)) ws rs = dotL j b (j z (b w (m r))) ws rs
    rw [hm]
  | w :: ws, r :: rs, z, g + 1, h, h' => by
    have := dot_setm hm ws rs (j z (b w r)) g (Nat.lt_of_succ_lt_succ h) (Nat.lt_of_succ_lt_succ h')
    simpa [dotL] using this
theorem dot_join {f : Int → Int} (hf : ∀ w x, b (f w) x = b w (f x)) {ws rs : List Int} {z : Int} {g s : Nat} (h1 : g < ws.length) (h2 : g < rs.length) (h3 : s < ws.length) (h4 : s < rs.length) :
    dotL j b z (ws.set s (j (ws.getD s 0) (f (ws.getD g 0)))) rs = dotL j b z ws (rs.set g (j (rs.getD g 0) (f (rs.getD s 0)))) := by
  rw [dot_setl R _ _ _ _ _ h3 h4, dot_setr R _ _ _ _ _ h1 h2, hf]
end
theorem ring0 : Ring2 (fun a b => a + b) (fun a b => a * b) := ⟨Int.add_comm, Int.add_assoc, Int.mul_add, Int.add_mul⟩
theorem ring1 : Ring2 Builtin.bitXor Builtin.bitAnd := by
  constructor <;> intros <;> refine bits fun i => ?_ <;> simp only [bt_and, bt_xor] <;> generalize bt _ i = p, bt _ i = q at * <;> cases p <;> cases q <;> first | rfl | (generalize bt _ i = r; cases r <;> rfl)
theorem ring2 : Ring2 Builtin.bitOr Builtin.bitAnd := by
  constructor <;> intros <;> refine bits fun i => ?_ <;> simp only [bt_and, bt_or] <;> generalize bt _ i = p, bt _ i = q at * <;> cases p <;> cases q <;> first | rfl | (generalize bt _ i = r; cases r <;> rfl)
theorem ring3 : Ring2 Builtin.bitAnd Builtin.bitOr := by
  constructor <;> intros <;> refine bits fun i => ?_ <;> simp only [bt_and, bt_or] <;> generalize bt _ i = p, bt _ i = q at * <;> cases p <;> cases q <;> first | rfl | (generalize bt _ i = r; cases r <;> rfl)
theorem and_move (n w x : Int) : Builtin.bitAnd (Builtin.bitAnd w n) x = Builtin.bitAnd w (Builtin.bitAnd x n) := bits fun i => by
  simp only [bt_and]
  cases bt w i <;> cases bt n i <;> cases bt x i <;> rfl
theorem or_move (n w x : Int) : Builtin.bitOr (Builtin.bitOr w n) x = Builtin.bitOr w (Builtin.bitOr x n) := bits fun i => by
  simp only [bt_or]
  cases bt w i <;> cases bt n i <;> cases bt x i <;> rfl
theorem and_0 (x : Int) : Builtin.bitAnd 0 x = 0 := bits fun i => by rw [bt_and, bt_zero]; rfl
theorem and_1 (x : Int) : Builtin.bitAnd (-1) x = x := bits fun i => by rw [bt_and, bt_ones]; rfl
theorem and_1r (x : Int) : Builtin.bitAnd x (-1) = x := bits fun i => by rw [bt_and, bt_ones, Bool.and_true]
theorem or_0 (x : Int) : Builtin.bitOr 0 x = x := bits fun i => by rw [bt_or, bt_zero]; rfl
theorem or_0r (x : Int) : Builtin.bitOr x 0 = x := bits fun i => by rw [bt_or, bt_zero, Bool.or_false]
theorem or_1 (x : Int) : Builtin.bitOr (-1) x = -1 := bits fun i => by rw [bt_or, bt_ones]; rfl
theorem xor_0 (x : Int) : Builtin.bitXor 0 x = x := bits fun i => by rw [bt_xor, bt_zero, Bool.false_xor]
theorem xor_0r (x : Int) : Builtin.bitXor x 0 = x := bits fun i => by rw [bt_xor, bt_zero, Bool.xor_false]

/-- the words of a cell -/
def gP (c : Int) : Int := 256 + (c / 4) % 4
def kP (mode c : Int) : Int := if mode = 0 then (if c % 4 = 0 then 36 else if c % 4 = 1 then 37 else if c % 4 = 2 then 38 else 44) else if mode = 1 then (if c % 4 < 2 then 43 else 41) else if mode = 2 then (if c % 4 < 2 then 42 else 41) else (if c % 4 < 2 then 41 else 42)
def sP (c : Int) : Int := if c % 4 < 2 then 256 + (c / 16) % 4 else -((c / 16) % 24) - 1
def wsOf (mode : Int) : List Int → List Int
  | [] => []
  | [c] => [gP c, kP mode c, sP c]
  | c :: cs => gP c :: kP mode c :: sP c :: 12 :: wsOf mode cs
theorem ws_cons (mode c d : Int) (cs : List Int) : wsOf mode (c :: d :: cs) = gP c :: kP mode c :: sP c :: 12 :: wsOf mode (d :: cs) := rfl
theorem ws_len (mode : Int) : ∀ zs : List Int, (wsOf mode zs).length = 4 * zs.length - 1
  | [] => rfl
  | [_] => rfl
  | _ :: d :: cs => by
    have := ws_len mode (d :: cs)
    rw [ws_cons]
    simp only [List.length_cons] at this ⊢
    omega
theorem ws_at (mode : Int) : ∀ (zs : List Int) (i : Nat) (c : Int), zs[i]? = some c → (wsOf mode zs).getD (4 * i) 0 = gP c ∧ (wsOf mode zs).getD (4 * i + 1) 0 = kP mode c ∧ (wsOf mode zs).getD (4 * i + 2) 0 = sP c
  | [], _, _, h => by simp at h
  | [_], 0, _, h => by simp at h; subst h; exact ⟨rfl, rfl, rfl⟩
  | [_], i + 1, _, h => by simp at h
  | _ :: _ :: _, 0, _, h => by simp at h; subst h; exact ⟨rfl, rfl, rfl⟩
  | _ :: d :: cs, i + 1, c, h => by
    have := ws_at mode (d :: cs) i c (by simpa using h)
    rw [ws_cons]
    exact this
theorem ws_comma (mode : Int) : ∀ (zs : List Int) (i : Nat), i + 1 < zs.length → (wsOf mode zs)[4 * i + 3]? = some 12
  | [], _, h => by simp at h
  | [_], _, h => by simp at h
  | _ :: _ :: _, 0, _ => rfl
  | _ :: d :: cs, i + 1, h => by
    have := ws_comma mode (d :: cs) i (by simpa using h)
    rw [ws_cons]
    exact this
/-- the signs of a cell's statement -/
def opL (mode c : Int) : List Nat := if mode = 0 then (if c % 4 = 0 then [43, 61] else if c % 4 = 1 then [45, 61] else if c % 4 = 2 then [42, 61] else [60, 60, 61]) else if mode = 1 then (if c % 4 < 2 then [94, 61] else [38, 61]) else if mode = 2 then (if c % 4 < 2 then [124, 61] else [38, 61]) else (if c % 4 < 2 then [38, 61] else [124, 61])
def srcL (c : Int) : List Nat := if c % 4 < 2 then [97 + ((c / 16) % 4).toNat] else dgL ((c / 16) % 24).toNat
def stL (mode c : Int) : List Nat := (97 + ((c / 4) % 4).toNat) :: (opL mode c ++ srcL c)
theorem rest4 (c : Int) : c % 4 = 0 ∨ c % 4 = 1 ∨ c % 4 = 2 ∨ c % 4 = 3 := by omega
theorem op_ss {mode : Int} (hm : mode = 0 ∨ mode = 1 ∨ mode = 2 ∨ mode = 3) (c : Int) : (sgP mode).getD (c % 4).toNat default = SS (opL mode c) := by
  rcases hm with rfl | rfl | rfl | rfl <;> rcases rest4 c with h | h | h | h <;> simp only [opL, h] <;> decide +kernel
theorem st_ss {mode : Int} (hm : mode = 0 ∨ mode = 1 ∨ mode = 2 ∨ mode = 3) (c : Int) : stmtS (sgP mode) c = SS (stL mode c) := by
  unfold stmtS stL srcL
  rw [op_ss hm, reg_ss (show ((c / 4) % 4).toNat < 4 by omega), ss_app]
  split
  · rw [reg_ss (by omega), ss_app]; rfl
  · rw [num_ss (by omega), ss_app]; rfl
theorem src_head (c : Int) : ∃ x l, srcL c = x :: l ∧ plainC x = true := by
  unfold srcL
  split
  · exact ⟨_, _, rfl, pl_reg (by omega)⟩
  · unfold dgL
    split
    · exact ⟨_, _, rfl, (dg_plain (by omega)).1⟩
    · exact ⟨_, _, rfl, (dg_plain (by omega)).1⟩
theorem tok_src (c : Int) {l : List Nat} (hl : l = [] ∨ ∃ r, l = 44 :: r) : Tok1 (SS (srcL c ++ l)) (sP c) (SS l) := by
  unfold srcL sP
  split
  · have := tok_reg (k := ((c / 16) % 4).toNat) (by omega) l
    rw [Int.toNat_of_nonneg (by omega)] at this
    exact this
  · have := tok_num (n := ((c / 16) % 24).toNat) (by omega) hl
    rw [Int.toNat_of_nonneg (by omega)] at this
    exact this
theorem tok_op {mode : Int} (hm : mode = 0 ∨ mode = 1 ∨ mode = 2 ∨ mode = 3) (c : Int) {x : Nat} {l : List Nat} (hx : plainC x = true) : Tok1 (SS (opL mode c ++ x :: l)) (kP mode c) (SS (x :: l)) := by
  have two : ∀ a b v, KTD.inKeys (SS [a, b]) tokD = true → tokV (SS [a, b]) = v → Tok1 (SS ([a, b] ++ x :: l)) v (SS (x :: l)) := fun a b v hk e => e ▸ tok_two hk hx
  have h1 := two 43 61 36 (by decide +kernel) (by decide +kernel)
  have h2 := two 45 61 37 (by decide +kernel) (by decide +kernel)
  have h3 := two 42 61 38 (by decide +kernel) (by decide +kernel)
  have h4 := two 94 61 43 (by decide +kernel) (by decide +kernel)
  have h5 := two 38 61 41 (by decide +kernel) (by decide +kernel)
  have h6 := two 124 61 42 (by decide +kernel) (by decide +kernel)
  have h7 : Tok1 (SS ([60, 60, 61] ++ x :: l)) 44 (SS (x :: l)) := (show tokV (SS [60, 60, 61]) = 44 by decide +kernel) ▸ tok_three (l := x :: l) (by decide +kernel)
  rcases hm with rfl | rfl | rfl | rfl <;> rcases rest4 c with h | h | h | h <;> simp only [opL, kP, h] <;> assumption
theorem toks_more {x y : List Nat} {v : Int} {ws : List Int} (h : Tok1 (SS x) v (SS y)) (hl : y.length < x.length) (t : Toks (SS y) ws) : Toks (SS x) (v :: ws) := .cons h (by rw [ss_len, ss_len]; exact hl) t
theorem toks_st {mode : Int} (hm : mode = 0 ∨ mode = 1 ∨ mode = 2 ∨ mode = 3) (c : Int) {l : List Nat} {ws : List Int} (hl : l = [] ∨ ∃ r, l = 44 :: r) (t : Toks (SS l) ws) : Toks (SS (stL mode c ++ l)) (gP c :: kP mode c :: sP c :: ws) := by
  obtain ⟨x, r, e, hx⟩ := src_head c
  have hs := tok_src c hl
  have ls : l.length < (srcL c ++ l).length := by rw [List.length_append, e, List.length_cons]; omega
  have t3 := toks_more hs ls t
  have ho := tok_op hm c (l := r ++ l) hx
  rw [show x :: (r ++ l) = srcL c ++ l by rw [e]; rfl] at ho
  have lo : (srcL c ++ l).length < (opL mode c ++ (srcL c ++ l)).length := by
    have : 0 < (opL mode c).length := by unfold opL; (repeat' split) <;> decide
    rw [List.length_append (as := opL mode c)]; omega
  have t2 := toks_more ho lo t3
  have hg := tok_reg (k := ((c / 4) % 4).toNat) (by omega) (opL mode c ++ (srcL c ++ l))
  rw [Int.toNat_of_nonneg (by omega)] at hg
  have t1 := toks_more hg (by rw [List.length_cons]; omega) t2
  rw [show stL mode c ++ l = (97 + ((c / 4) % 4).toNat) :: (opL mode c ++ (srcL c ++ l)) by unfold stL; rw [List.cons_append, List.append_assoc]]
  exact t1
/-- the signs of the whole text -/
def txL (mode : Int) : List Int → List Nat
  | [] => []
  | [c] => stL mode c
  | c :: cs => stL mode c ++ 44 :: txL mode cs
theorem tx_cons (mode c d : Int) (cs : List Int) : txL mode (c :: d :: cs) = stL mode c ++ 44 :: txL mode (d :: cs) := rfl
theorem tx_head (mode : Int) : ∀ zs : List Int, zs ≠ [] → ∃ x l, txL mode zs = x :: l
  | [], h => absurd rfl h
  | [_], _ => ⟨_, _, rfl⟩
  | _ :: _ :: _, _ => ⟨_, _, rfl⟩
theorem toks_tx {mode : Int} (hm : mode = 0 ∨ mode = 1 ∨ mode = 2 ∨ mode = 3) : ∀ zs : List Int, Toks (SS (txL mode zs)) (wsOf mode zs)
  | [] => .nil rfl
  | [c] => by
    have := toks_st hm c (l := []) (.inl rfl) (.nil rfl)
    rw [List.append_nil] at this
    exact this
  | c :: d :: cs => by
    have ih := toks_tx hm (d :: cs)
    obtain ⟨x, l, e⟩ := tx_head mode (d :: cs) (by simp)
    rw [tx_cons, ws_cons]
    refine toks_st hm c (.inr ⟨_, rfl⟩) (toks_more ?_ (Nat.lt_succ_self _) ih)
    rw [e]
    exact tok_comma x l
theorem join_tx {mode : Int} (hm : mode = 0 ∨ mode = 1 ∨ mode = 2 ∨ mode = 3) (zs : List Int) : txtP mode zs = SS (txL mode zs) := by
  unfold txtP Txt.join
  rw [StrLaws.glued_eq_join]
  induction zs with
  | nil => rfl
  | cons c cs ih =>
    cases cs with
    | nil => exact st_ss hm c
    | cons d cs =>
      have e : Str.join (Str.ofString ",") ((c :: d :: cs).map (stmtS (sgP mode))) = stmtS (sgP mode) c ++ Str.ofString "," ++ Str.join (Str.ofString ",") ((d :: cs).map (stmtS (sgP mode))) := rfl
      rw [e, ih, st_ss hm, show Str.ofString "," = SS [44] by decide +kernel, ss_app, ss_app, tx_cons, List.append_assoc]
      rfl
theorem st_len (mode c : Int) : (stL mode c).length ≤ 6 := by
  have h1 : (opL mode c).length ≤ 3 := by unfold opL; (repeat' split) <;> decide
  have h2 : (srcL c).length ≤ 2 := by
    unfold srcL dgL; (repeat' split) <;> simp
  unfold stL
  rw [List.length_cons, List.length_append]
  omega
theorem tx_len (mode : Int) : ∀ zs : List Int, (txL mode zs).length ≤ 7 * zs.length
  | [] => Nat.le_refl _
  | [c] => Nat.le_trans (st_len mode c) (show 6 ≤ 7 * 1 by decide)
  | c :: d :: cs => by
    have h1 := tx_len mode (d :: cs)
    have h2 := st_len mode c
    rw [tx_cons, List.length_append, List.length_cons]
    simp only [List.length_cons] at h1 ⊢
    omega
theorem tx_weight {mode : Int} (hm : mode = 0 ∨ mode = 1 ∨ mode = 2 ∨ mode = 3) : ∀ zs : List Int, ((zs.map (stmtS (sgP mode))).map (·.length)).sum + (zs.map (stmtS (sgP mode))).length ≤ 7 * zs.length
  | [] => Nat.le_refl _
  | c :: cs => by
    have h1 := tx_weight hm cs
    have h2 := st_len mode c
    have e : (stmtS (sgP mode) c).length ≤ 6 := by rw [st_ss hm, ss_len]; exact h2
    simp only [List.map_cons, List.sum_cons, List.length_cons] at h1 ⊢
    omega

theorem plG_is (c : Int) : plG c = (c / 4) % 4 := by unfold plG; rw [fd4, fm4]
theorem plS_is (c : Int) : plS c = (c / 16) % 4 := by unfold plS; rw [fd16, fm4]
theorem plN_is (c : Int) : plN c = (c / 16) % 24 := by unfold plN; rw [fd16, fm24]
theorem deed_plain {mode : Int} (hm : mode = 0 ∨ mode = 1 ∨ mode = 2 ∨ mode = 3) (c a b : Int) : deed (kP mode c) a b = plainV mode c a b := by
  have f := fm4 c
  rcases hm with rfl | rfl | rfl | rfl <;> rcases rest4 c with h | h | h | h <;> rw [h] at f <;> simp [deed, kP, plainV, h, f]
theorem g_in (c : Int) : 256 ≤ gP c ∧ gP c < 260 := by unfold gP; omega
theorem g_at (c : Int) : (gP c - 256).toNat = (plG c).toNat := by rw [plG_is]; unfold gP; omega
theorem s_reg {c : Int} (h : c % 4 < 2) : 256 ≤ sP c ∧ sP c < 260 ∧ (sP c - 256).toNat = (plS c).toNat := by
  rw [plS_is]; unfold sP; rw [if_pos h]; omega
theorem s_num {c : Int} (h : ¬ c % 4 < 2) : ¬ 256 ≤ sP c ∧ -sP c - 1 = plN c := by
  rw [plN_is]; unfold sP; rw [if_neg h]; omega
theorem val_src (r : List Int) (c : Int) : valOf r (sP c) = plT r c := by
  unfold valOf plT
  rw [fm4]
  by_cases h : c % 4 < 2
  · obtain ⟨a, _, b⟩ := s_reg h
    rw [if_pos a, if_pos h, b]
  · obtain ⟨a, b⟩ := s_num h
    rw [if_neg a, if_neg h, b]
theorem step_plain {mode : Int} (hm : mode = 0 ∨ mode = 1 ∨ mode = 2 ∨ mode = 3) (c : Int) (r : List Int) : stepP (gP c) (kP mode c) (sP c) r = plStep mode r c := by
  unfold stepP plStep
  rw [show goalOf (gP c) (sP c) = gP c from if_pos (g_in c).1, show srcOf (gP c) (sP c) = sP c from if_pos (g_in c).1, g_at, val_src, deed_plain hm]
/-- a statement read backwards -/
def tStep (mode : Int) (w : List Int) (c : Int) : List Int := if c % 4 < 2 then w.set (plS c).toNat (plainV mode c (w.getD (plS c).toNat 0) (w.getD (plG c).toNat 0)) else plStep mode w c
theorem step_back {mode : Int} (hm : mode = 0 ∨ mode = 1 ∨ mode = 2 ∨ mode = 3) (c : Int) (w : List Int) : stepP (sP c) (kP mode c) (gP c) w = tStep mode w c := by
  unfold tStep
  by_cases h : c % 4 < 2
  · obtain ⟨a, _, b⟩ := s_reg h
    rw [if_pos h]
    unfold stepP
    rw [show goalOf (sP c) (gP c) = sP c from if_pos a, show srcOf (sP c) (gP c) = gP c from if_pos a, b, deed_plain hm, show valOf w (gP c) = w.getD (gP c - 256).toNat 0 from if_pos (g_in c).1, g_at]
  · obtain ⟨a, b⟩ := s_num h
    rw [if_neg h, ← step_plain hm]
    unfold stepP
    rw [show goalOf (sP c) (gP c) = gP c from if_neg a, show srcOf (sP c) (gP c) = sP c from if_neg a, show goalOf (gP c) (sP c) = gP c from if_pos (g_in c).1, show srcOf (gP c) (sP c) = sP c from if_pos (g_in c).1]
theorem run_take {mode : Int} (hm : mode = 0 ∨ mode = 1 ∨ mode = 2 ∨ mode = 3) (zs r : List Int) : ∀ n, n ≤ zs.length → runP (wsOf mode zs) r n = plRun mode r (zs.take n)
  | 0, _ => rfl
  | n + 1, h => by
    have hc : zs[n]? = some zs[n] := by simp [show n < zs.length by omega]
    obtain ⟨e1, e2, e3⟩ := ws_at mode zs n _ hc
    rw [plRun_take hc, ← run_take hm zs r n (by omega), ← step_plain hm, ← e1, ← e2, ← e3]
    rfl
theorem getD_rev (l : List Int) (i : Nat) (h : i < l.length) : l.reverse.getD i 0 = l.getD (l.length - 1 - i) 0 := by
  simp [List.getD_eq_getElem?_getD, List.getElem?_reverse h]
theorem back_at (mode : Int) (zs : List Int) (i : Nat) (h : i < zs.length) : (wsOf mode zs).reverse.getD (4 * i) 0 = sP zs[zs.length - 1 - i] ∧ (wsOf mode zs).reverse.getD (4 * i + 1) 0 = kP mode zs[zs.length - 1 - i] ∧ (wsOf mode zs).reverse.getD (4 * i + 2) 0 = gP zs[zs.length - 1 - i] := by
  have hc : zs[zs.length - 1 - i]? = some zs[zs.length - 1 - i] := by simp [show zs.length - 1 - i < zs.length by omega]
  obtain ⟨e1, e2, e3⟩ := ws_at mode zs _ _ hc
  have hl := ws_len mode zs
  rw [getD_rev _ _ (by omega), getD_rev _ _ (by omega), getD_rev _ _ (by omega), hl, ← e1, ← e2, ← e3]
  refine ⟨?_, ?_, ?_⟩ <;> congr 1 <;> omega
/-- the run backwards -/
def tRun (mode : Int) (w cs : List Int) : List Int := cs.foldl (tStep mode) w
theorem back_take {mode : Int} (hm : mode = 0 ∨ mode = 1 ∨ mode = 2 ∨ mode = 3) (zs w : List Int) : ∀ n, n ≤ zs.length → runP (wsOf mode zs).reverse w n = tRun mode w (zs.reverse.take n)
  | 0, _ => rfl
  | n + 1, h => by
    obtain ⟨e1, e2, e3⟩ := back_at mode zs n (by omega)
    have hc : zs.reverse[n]? = some zs[zs.length - 1 - n] := by rw [List.getElem?_reverse (by omega)]; simp [show zs.length - 1 - n < zs.length by omega]
    have e : tRun mode w (zs.reverse.take (n + 1)) = tStep mode (tRun mode w (zs.reverse.take n)) zs[zs.length - 1 - n] := by
      rw [List.take_add_one, hc]
      show List.foldl _ _ (_ ++ [_]) = _
      rw [List.foldl_append]
      rfl
    rw [e, ← back_take hm zs w n (by omega), ← step_back hm, ← e1, ← e2, ← e3]
    rfl
theorem tStep_len {mode c : Int} {w : List Int} : (tStep mode w c).length = w.length := by
  unfold tStep plStep; split <;> exact List.length_set ..
theorem tRun_len {mode : Int} : ∀ {cs w : List Int}, (tRun mode w cs).length = w.length
  | [], _ => rfl
  | c :: cs, w => (tRun_len (cs := cs) (w := tStep mode w c)).trans tStep_len
theorem ring_of {mode : Int} (hm : mode = 0 ∨ mode = 1 ∨ mode = 2 ∨ mode = 3) : Ring2 (jnP mode) (bnP mode) := by
  rcases hm with rfl | rfl | rfl | rfl
  · exact ring0
  · exact ring1
  · exact ring2
  · exact ring3
theorem adj {mode : Int} (hm : mode = 0 ∨ mode = 1 ∨ mode = 2 ∨ mode = 3) (z c : Int) {w r : List Int} (hw : w.length = 4) (hr : r.length = 4) : dotL (jnP mode) (bnP mode) z (tStep mode w c) r = dotL (jnP mode) (bnP mode) z w (plStep mode r c) := by
  have hg : (plG c).toNat < 4 := by rw [plG_is]; omega
  have hs : (plS c).toNat < 4 := by rw [plS_is]; omega
  have f := fm4 c
  unfold tStep plStep plT
  by_cases h : c % 4 < 2
  · rw [if_pos h, if_pos (by rw [fm4]; exact h)]
    have key : ∃ g : Int → Int, (∀ a b, plainV mode c a b = jnP mode a (g b)) ∧ ∀ w x, bnP mode (g w) x = bnP mode w (g x) := by
      have h2 : c.fmod 4 < 2 := by rw [fm4]; exact h
      rcases hm with rfl | rfl | rfl | rfl
      · by_cases h0 : c.fmod 4 = 0
        · exact ⟨id, fun a b => by simp [plainV, h0, jnP], fun w x => rfl⟩
        · refine ⟨fun b => -b, fun a b => by simp [plainV, h2, h0, jnP]; rfl, fun w x => by simp only [bnP, if_true]; exact (Int.neg_mul_comm w x)⟩
      · exact ⟨id, fun a b => by simp [plainV, h2, jnP], fun w x => rfl⟩
      · exact ⟨id, fun a b => by simp [plainV, h2, jnP], fun w x => rfl⟩
      · exact ⟨id, fun a b => by simp [plainV, h2, jnP], fun w x => rfl⟩
    obtain ⟨g, e, hf⟩ := key
    rw [e, e]
    exact dot_join (ring_of hm) hf (by omega) (by omega) (by omega) (by omega)
  · rw [if_neg h]
    have h2 : ¬ c.fmod 4 < 2 := by rw [fm4]; exact h
    rw [if_neg h2, if_neg h2]
    refine dot_setm (m := fun a => plainV mode c a (plN c)) (fun w x => ?_) w r z _ (by omega) (by omega)
    rcases hm with rfl | rfl | rfl | rfl
    · by_cases h0 : c.fmod 4 = 2
      · simp [plainV, h0, bnP, Int.mul_assoc, Int.mul_comm (plN c)]
      · simp [plainV, h0, h2, bnP, Int.mul_assoc, Int.mul_comm (2 ^ _)]
    · simp only [plainV, h2, bnP]; exact and_move _ _ _
    · simp only [plainV, h2, bnP]; exact and_move _ _ _
    · simp only [plainV, h2, bnP]; exact or_move _ _ _
theorem adj_run {mode : Int} (hm : mode = 0 ∨ mode = 1 ∨ mode = 2 ∨ mode = 3) (z : Int) {w : List Int} (hw : w.length = 4) : ∀ {cs r : List Int}, r.length = 4 → dotL (jnP mode) (bnP mode) z (tRun mode w cs.reverse) r = dotL (jnP mode) (bnP mode) z w (plRun mode r cs)
  | [], _, _ => rfl
  | c :: cs, r, hr => by
    have e : tRun mode w (c :: cs).reverse = tStep mode (tRun mode w cs.reverse) c := by
      rw [List.reverse_cons]
      show List.foldl _ _ (_ ++ [_]) = _
      rw [List.foldl_append]
      rfl
    rw [e, adj hm z c (by rw [tRun_len]; exact hw) hr, adj_run hm z hw (r := plStep mode r c) (by unfold plStep; rw [List.length_set]; exact hr)]
    rfl
theorem woven_dot (j b : Int → Int → Int) : ∀ (ws r : List Int) (z : Int), wovenP j b z ws r = dotL j b z ws r
  | [], _, _ => rfl
  | _ :: _, [], _ => rfl
  | w :: ws, r :: rs, z => woven_dot j b ws rs (j z (b w r))
theorem unit_dot {mode : Int} (hm : mode = 0 ∨ mode = 1 ∨ mode = 2 ∨ mode = 3) {p : Nat} (hp : p < 4) {r : List Int} (hr : r.length = 4) : dotL (jnP mode) (bnP mode) (noP mode).1 (unitP mode p) r = r.getD p 0 := by
  obtain ⟨a, b, c, d, rfl⟩ : ∃ a b c d, r = [a, b, c, d] := by
    match r, hr with
    | [a, b, c, d], _ => exact ⟨a, b, c, d, rfl⟩
  have : p = 0 ∨ p = 1 ∨ p = 2 ∨ p = 3 := by omega
  rcases hm with rfl | rfl | rfl | rfl <;> rcases this with rfl | rfl | rfl | rfl <;> simp [unitP, noP, dotL, jnP, bnP, List.replicate, and_0, and_1, and_1r, or_0, or_0r, or_1, xor_0, xor_0r]

theorem bits_le {x : Int} {k : Nat} (h : x.natAbs < 2 ^ k) : Builtin.Int.intBits x ≤ k := by
  unfold Builtin.Int.intBits
  split
  · exact Nat.zero_le _
  · rename_i hx
    have : x.natAbs ≠ 0 := by simpa using hx
    exact (Nat.log2_lt this).mpr h
/-- every int of a row is below a power -/
def Bd (k : Nat) (r : List Int) : Prop := ∀ x ∈ r, x.natAbs < 2 ^ k
theorem bd_at {k : Nat} {r : List Int} (h : Bd k r) (i : Nat) : (r.getD i 0).natAbs < 2 ^ k := by
  rw [List.getD_eq_getElem?_getD]
  cases e : r[i]? with
  | none => exact Nat.two_pow_pos k
  | some x => exact h x (List.mem_of_getElem? e)
theorem bd_set {k k' : Nat} {r : List Int} {i : Nat} {x : Int} (h : Bd k r) (hk : k ≤ k') (hx : x.natAbs < 2 ^ k') : Bd k' (r.set i x) := by
  intro y hy
  rcases List.mem_or_eq_of_mem_set hy with h1 | h1
  · exact Nat.lt_of_lt_of_le (h y h1) (Nat.pow_le_pow_right (by decide) hk)
  · rw [h1]; exact hx
theorem abs_mul_lt {a n : Int} {k j : Nat} (ha : a.natAbs < 2 ^ k) (hn : n.natAbs ≤ 2 ^ j) : (a * n).natAbs < 2 ^ (k + j) := by
  rw [Int.natAbs_mul, Nat.pow_add]
  exact Nat.lt_of_le_of_lt (Nat.mul_le_mul_left _ hn) (Nat.mul_lt_mul_of_pos_right ha (Nat.two_pow_pos j))
theorem pl_bd {c a b : Int} {k : Nat} (ha : a.natAbs < 2 ^ k) (h : if c % 4 < 2 then b.natAbs < 2 ^ k else (0 ≤ b ∧ b < 24)) : (plainV 0 c a b).natAbs < 2 ^ (k + 24) := by
  have up : ∀ j, j ≤ 24 → 2 ^ (k + j) ≤ 2 ^ (k + 24) := fun j hj => Nat.pow_le_pow_right (by decide) (by omega)
  unfold plainV
  rw [fm4]
  by_cases h2 : c % 4 < 2
  · rw [if_pos h2] at h
    rw [if_pos ⟨rfl, h2⟩]
    have e : 2 ^ (k + 1) = 2 ^ k + 2 ^ k := by rw [Nat.pow_succ]; omega
    have := up 1 (by decide)
    split <;> omega
  · rw [if_neg h2] at h
    rw [if_neg (fun q => h2 q.2), if_pos rfl]
    split
    · exact Nat.lt_of_lt_of_le (abs_mul_lt (j := 5) ha (by omega)) (up 5 (by decide))
    · refine Nat.lt_of_lt_of_le (abs_mul_lt (j := 23) ha ?_) (up 23 (by decide))
      rw [Int.natAbs_pow]
      exact Nat.pow_le_pow_right (by decide) (by omega)
theorem bd_plain {c : Int} {r : List Int} {k : Nat} (h : Bd k r) : Bd (k + 24) (plStep 0 r c) := by
  refine bd_set h (by omega) (pl_bd (bd_at h _) ?_)
  unfold plT
  rw [fm4]
  split
  · exact bd_at h _
  · exact plN_in c
theorem bd_back {c : Int} {w : List Int} {k : Nat} (h : Bd k w) : Bd (k + 24) (tStep 0 w c) := by
  unfold tStep
  by_cases h2 : c % 4 < 2
  · rw [if_pos h2]
    exact bd_set h (by omega) (pl_bd (bd_at h _) (by rw [if_pos h2]; exact bd_at h _))
  · rw [if_neg h2]
    exact bd_plain h
theorem bd_run {k : Nat} : ∀ {cs r : List Int}, Bd k r → Bd (k + 24 * cs.length) (plRun 0 r cs)
  | [], _, h => h
  | c :: cs, r, h => by
    have := bd_run (cs := cs) (bd_plain (c := c) h)
    rw [show k + 24 + 24 * cs.length = k + 24 * (c :: cs).length by simp only [List.length_cons]; omega] at this
    exact this
theorem bd_tun {k : Nat} : ∀ {cs r : List Int}, Bd k r → Bd (k + 24 * cs.length) (tRun 0 r cs)
  | [], _, h => h
  | c :: cs, r, h => by
    have := bd_tun (cs := cs) (bd_back (c := c) h)
    rw [show k + 24 + 24 * cs.length = k + 24 * (c :: cs).length by simp only [List.length_cons]; omega] at this
    exact this
theorem bd_fit {k n : Nat} {r cs : List Int} {i : Nat} (h : Bd (11 + 24 * (cs.take i).length) r) (hi : cs.length ≤ 10) : Bd 251 r := fun x hx => Nat.lt_of_lt_of_le (h x hx) (Nat.pow_le_pow_right (by decide) (by rw [List.length_take]; omega))
theorem kinds (mode c : Int) : kP mode c = 36 ∨ kP mode c = 37 ∨ kP mode c = 38 ∨ kP mode c = 41 ∨ kP mode c = 42 ∨ kP mode c = 43 ∨ kP mode c = 44 := by
  unfold kP; (repeat' split) <;> simp
theorem kind_num {mode c : Int} (h : kP mode c = 38 ∨ kP mode c = 44) : mode = 0 ∧ ¬ c % 4 < 2 := by
  unfold kP at h
  (repeat' split at h) <;> omega
theorem shl_fits {x n : Int} (h : x.natAbs < 2 ^ 251) (hn : 0 ≤ n ∧ n < 24) : 0 ≤ n ∧ (Builtin.Int.intBits x : Int) + n ≤ 2 ^ 27 := by
  have := bits_le h
  omega
theorem ok_plain {mode : Int} (c : Int) {r : List Int} (hb : mode = 0 → Bd 251 r) : okP (gP c) (kP mode c) (sP c) r := by
  have e1 : goalOf (gP c) (sP c) = gP c := if_pos (g_in c).1
  have e2 : srcOf (gP c) (sP c) = sP c := if_pos (g_in c).1
  have val : ¬ c % 4 < 2 → valOf r (sP c) = plN c := fun h => by rw [val_src]; exact plT_n (by rw [fm4]; exact h)
  unfold okP
  rw [e1, e2]
  refine ⟨g_in c, fun h => ?_, kinds mode c, fun h => ?_, fun h => ?_⟩
  · by_cases h2 : c % 4 < 2
    · exact (s_reg h2).2.1
    · exact absurd h (s_num h2).1
  · rw [val (kind_num (.inl h)).2]; exact mulN (plN_in c)
  · rw [val (kind_num (.inr h)).2]; exact shl_fits (bd_at (hb (kind_num (.inr h)).1) _) (plN_in c)
theorem ok_back {mode : Int} (c : Int) {r : List Int} (hb : mode = 0 → Bd 251 r) : okP (sP c) (kP mode c) (gP c) r := by
  by_cases h2 : c % 4 < 2
  · obtain ⟨a, b, _⟩ := s_reg h2
    have e1 : goalOf (sP c) (gP c) = sP c := if_pos a
    have e2 : srcOf (sP c) (gP c) = gP c := if_pos a
    unfold okP
    rw [e1, e2]
    exact ⟨⟨a, b⟩, fun _ => (g_in c).2, kinds mode c, fun h => absurd h2 (kind_num (.inl h)).2, fun h => absurd h2 (kind_num (.inr h)).2⟩
  · have a := (s_num h2).1
    have e1 : goalOf (sP c) (gP c) = goalOf (gP c) (sP c) := (if_neg a).trans (if_pos (g_in c).1).symm
    have e2 : srcOf (sP c) (gP c) = srcOf (gP c) (sP c) := (if_neg a).trans (if_pos (g_in c).1).symm
    have := ok_plain c hb
    unfold okP at this ⊢
    rw [e1, e2]
    exact this
theorem range_four {n : Nat} (h : n ≤ 10) : sliceRange (sliceBounds (some 3) none (some 4) (4 * n - 1)).1 (sliceBounds (some 3) none (some 4) (4 * n - 1)).2.1 (sliceBounds (some 3) none (some 4) (4 * n - 1)).2.2 = (List.range (n - 1)).map (4 * · + 3) := by
  have : ∀ n : Fin 11, sliceRange (sliceBounds (some 3) none (some 4) (4 * n.val - 1)).1 (sliceBounds (some 3) none (some 4) (4 * n.val - 1)).2.1 (sliceBounds (some 3) none (some 4) (4 * n.val - 1)).2.2 = (List.range (n.val - 1)).map (4 * · + 3) := by decide +kernel
  exact this ⟨n, by omega⟩
theorem range_back {n : Nat} (h : n ≤ 40) : sliceRange (sliceBounds none none (some (-1)) n).1 (sliceBounds none none (some (-1)) n).2.1 (sliceBounds none none (some (-1)) n).2.2 = (List.range n).reverse := by
  have : ∀ n : Fin 41, sliceRange (sliceBounds none none (some (-1)) n.val).1 (sliceBounds none none (some (-1)) n.val).2.1 (sliceBounds none none (some (-1)) n.val).2.2 = (List.range n.val).reverse := by decide +kernel
  exact this ⟨n, by omega⟩
theorem commas_are {mode : Int} {zs : List Int} (h : zs.length ≤ 10) : pickI (wsOf mode zs) (some 3) none (some 4) = (List.replicate ((zs.length : Int) - 1).toNat [12]).flatten := by
  have e : (List.replicate ((zs.length : Int) - 1).toNat [(12 : Int)]).flatten = List.replicate (zs.length - 1) 12 := by
    rw [show ((zs.length : Int) - 1).toNat = zs.length - 1 by omega]
    generalize zs.length - 1 = k
    induction k with
    | zero => rfl
    | succ k ih => rw [List.replicate_succ, List.flatten_cons, ih]; rfl
  unfold pickI
  rw [ws_len, range_four h, e, List.filterMap_map]
  have all : ∀ k, k ≤ zs.length - 1 → (List.range k).filterMap ((fun i => (wsOf mode zs)[i]?) ∘ (4 * · + 3)) = List.replicate k 12 := by
    intro k
    induction k with
    | zero => intro _; rfl
    | succ k ih =>
      intro hk
      rw [List.range_succ, List.filterMap_append, ih (by omega), List.replicate_succ']
      congr 1
      rw [List.filterMap_cons, show ((fun i => (wsOf mode zs)[i]?) ∘ (4 * · + 3)) k = some 12 from ws_comma mode zs k (by omega)]
      rfl
  exact all _ (Nat.le_refl _)
theorem range_all (l : List Int) : (List.range l.length).filterMap (l[·]?) = l := by
  have all : ∀ k, k ≤ l.length → (List.range k).filterMap (l[·]?) = l.take k := by
    intro k
    induction k with
    | zero => intro _; rfl
    | succ k ih =>
      intro hk
      rw [List.range_succ, List.filterMap_append, ih (by omega), List.take_add_one]
      congr 1
  rw [all _ (Nat.le_refl _), List.take_length]
theorem revs_are {l : List Int} (h : l.length ≤ 40) : pickI l none none (some (-1)) = l.reverse := by
  unfold pickI
  rw [range_back h, List.filterMap_reverse, range_all]
theorem bd_unit (mode : Int) {p : Nat} : Bd 11 (unitP mode p) := by
  intro x hx
  have : x ∈ [(noP mode).1, (noP mode).2] := by
    simp only [unitP, List.mem_append, List.mem_flatten, List.mem_replicate, List.mem_singleton] at hx
    rcases hx with (⟨l, ⟨_, rfl⟩, h⟩ | h) | ⟨l, ⟨_, rfl⟩, h⟩ <;> simp_all
  have h1 : (noP mode).1.natAbs ≤ 1 ∧ (noP mode).2.natAbs ≤ 1 := by unfold noP; (repeat' split) <;> decide
  simp only [List.mem_cons, List.not_mem_nil, or_false] at this
  rcases this with rfl | rfl <;> omega
theorem agr_of {mode : Int} (hm : mode = 0 ∨ mode = 1 ∨ mode = 2 ∨ mode = 3) {zs r : List Int} (hz : zs.length ≤ 10) (hr : r.length = 4) (hb : Bd 11 r) : Agr mode zs r (wsOf mode zs) where
  weight := Nat.le_trans (tx_weight hm zs) (by omega)
  toks := by rw [join_tx hm]; exact toks_tx hm zs
  short := by rw [join_tx hm, ss_len]; exact Nat.le_trans (tx_len mode zs) (by omega)
  wlen := ws_len mode zs
  ok := fun i hi => by
    obtain ⟨e1, e2, e3⟩ := ws_at mode zs i zs[i] (by simp [hi])
    rw [e1, e2, e3, run_take hm zs r i (by omega)]
    refine ok_plain _ fun e => ?_
    subst e
    exact bd_fit (k := 0) (n := 0) (cs := zs) (i := i) (bd_run hb) hz
  run := by rw [run_take hm zs r _ (Nat.le_refl _), List.take_length]
  commas := commas_are hz
  revs := revs_are (by rw [ws_len]; omega)
  okR := fun p hp i hi => by
    obtain ⟨e1, e2, e3⟩ := back_at mode zs i hi
    rw [e1, e2, e3, back_take hm zs _ i (by omega)]
    refine ok_back _ fun e => ?_
    subst e
    exact bd_fit (k := 0) (n := 0) (cs := zs.reverse) (i := i) (bd_tun (bd_unit 0)) (by rw [List.length_reverse]; exact hz)
  wove := fun p hp => by
    have hu : (unitP mode p).length = 4 := by simp [unitP]; omega
    rw [back_take hm zs _ _ (Nat.le_refl _), List.take_of_length_le (by rw [List.length_reverse]; exact Nat.le_refl _), woven_dot, adj_run hm _ hu hr, unit_dot hm hp (by rw [plRun_len]; exact hr)]
  mulok := fun e p hp a b hab => IntMulOk.of_right (Nat.le_trans (bits_le (hb b (List.of_mem_zip hab).2)) (by decide))
theorem law_mode (x : Int) : x.fmod 4 = 0 ∨ x.fmod 4 = 1 ∨ x.fmod 4 = 2 ∨ x.fmod 4 = 3 := by rw [fm4]; omega
theorem law_cells (ns : List Int) (f : Int → Int) : ((ns.take 4).map f ++ [4, 25, 90, 44, 49, 39]).length ≤ 10 ∧ 6 ≤ ((ns.take 4).map f ++ [4, 25, 90, 44, 49, 39]).length := by
  rw [List.length_append, List.length_map, List.length_take]
  show min 4 ns.length + 6 ≤ 10 ∧ 6 ≤ min 4 ns.length + 6
  omega
theorem law_len (g : Int → Int) : ((rangeKs 0 ((4 : Int) - 0).toNat).map g).length = 4 := by rw [List.length_map, rangeKs_length]; rfl
theorem law_row (p : Int → Int) : Bd 11 ((rangeKs 0 ((4 : Int) - 0).toNat).map fun k => [11, -7, 25, 6].getD k.toNat 0 + (p k).fmod 1000) := by
  have four : ∀ k, ([11, -7, 25, 6].getD k (0 : Int)).natAbs ≤ 25
    | 0 => by decide
    | 1 => by decide
    | 2 => by decide
    | 3 => by decide
    | _ + 4 => by simp
  intro x hx
  obtain ⟨k, _, rfl⟩ := List.mem_map.mp hx
  have h1 := four k.toNat
  have h2 := Int.fmod_nonneg_of_pos (p k) (show (0 : Int) < 1000 by decide)
  have h3 := Int.fmod_lt_of_pos (p k) (show (0 : Int) < 1000 by decide)
  omega

set_option maxHeartbeats 8000000 in
theorem law_holds : PySem.Challenge.rw_pg0180_01.Holds := by
  w_on
  o_law
  refine holds_open (q := Q0) (loose := LS) (Xt := fun s => xlAt Q0 [] s && recOk (RowW.records PySem.Challenge.rw_pg0180_01.row.toRowW) s) (XP := XL Q0 []) (Yf := Hook.obs (kHook KK AS as_is)) (Ya := Hook.val (kHook KK AS as_is)) (YP := Hook.says (kHook KK AS as_is)) (N := 4658) left1 (Hook.of _) (Hook.keeps _) (fun s e => xl_of s (Bool.and_eq_true_iff.mp e).1) XL.keeps (by rfl) (by rfl) (by rfl) (fun s e => recFacts_of (Bool.and_eq_true_iff.mp e).2) (by rfl) (by first | assumption | decide +kernel) (by decide +kernel) ⟨rfl, rfl, rfl, rfl, rfl, by decide +kernel⟩ ?hw ?hc
  case hw => w_witness2
  k_fill
  intro w s₀ s₁ mg mb G Y fa o pm cd doc dV kV ho hd hcd hD hmg hg args vals as hpre hlay hrd hwl hlo
  have KX := kIn_of Y
  refine Ground.open G ?_
  intro T B D TE TW
  try (refine guard_noD D (by decide +kernel) ?_; clear D)
  obtain ⟨_, _, M⟩ := bmod_of_top T
  have TA := at_of_top T
  try (obtain ⟨_, _, he, B0⟩ := based_of_top T rfl hmg ho hd; have he' : cd = _ := he; subst he'; clear he)
  clear hmg
  wrow_args hpre hlay hrd hwl hlo
  refine enter_call ?_
  w_top on
  try refine codeAny_mono ?_ (fun _ _ g => GoodW.toG g)
  have K0 := below_caller (Top.heap T)
  w_call any ho hd hcd hD T F
  clear hd TA
  k_drop
  (rename IntsAre _ _ => hI0); (rename Heap.IsList _ _ _ => hL0)
  have hn0 := hI0.length
  all_goals try k_fold
  repeat' ((fail_if_success (with_reducible show wpAny _ _ (call (Value.ref 195) _) _ _ _)); first | ((with_reducible show wpAny _ _ (subscriptTail _ _ (Value.ref _) (Value.ref _)) _ _ _); (refine slice_ints3 (by k_asm) (by k_asm) (hL0.at fun o e => Fr.keep (by k_asm) _ o e) hI0 (.int _ _) (.int _ _) (.int _ _) (by decide) (ints_size hI0 (by omega)) (fun D9 us h9 F9 N9 l9 hus => ?_) (by with_unfolding_all rfl) (fun _ => rfl))) | (k_unfold; (try dsimp only)) | (k_gentoks; (try dsimp only)) | (k_end; wrow_close) | walk1 | (dsimp only; walk1) | (leave1; try dsimp only))
  (rename IntsAre _ (_ ++ _) => hI1); (rename IntsAre _ (List.map _ (rangeKs _ _)) => hI2)
  (k_dflt (refine' Claim.use ?k1 ?k2 ?k3 ?k4 ?k5 ?kK (agree_tells _ _ _ _ _ _ _ _ _ _ (agr_of (law_mode _) (law_cells _ _).1 (law_len _) (law_row _)) (law_mode _) hI1 hI2 (law_len _) (law_cells _ _).1 (law_cells _ _).2) ?kd ?ku ?kp ?_); (case k1 => k_asm); (case k2 => k_asm); (case k3 => k_asm); (case k4 => k_asm); (case k5 => k_asm); (case kK => exact rfl); (case kd => decide); (case ku => decide); (case kp => exact ⟨listIn (by k_asm) (by k_mem), listIn (by k_asm) (by k_mem)⟩); (intro v9 h9 tk9 g9 F9 N9 st9 hp9); subst hp9; (try dsimp only))
  repeat' (first | (k_unfold; (try dsimp only)) | (k_gentoks; (try dsimp only)) | (k_end; wrow_close) | walk1 | (dsimp only; walk1) | (leave1; try dsimp only))

end Mine

set_option maxRecDepth 100000 in
set_option maxHeartbeats 8000000 in
theorem PySem.Challenge.cw_pg0180_01_holds : PySem.Challenge.rw_pg0180_01.Holds := by
  exact Mine.law_holds
