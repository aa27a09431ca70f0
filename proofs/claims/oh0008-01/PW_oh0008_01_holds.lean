import PyProof.Rows.All
import Wide.All
import OpenK.AllK
import Wide.FinOn
import PySem.Challenge.RW_oh0008_01
set_option Elab.async false
namespace Mine
open PySem PySem.W PySem.W.X PyProof.Rows
set_option maxRecDepth 100000
set_option maxHeartbeats 8000000
section
local macro_rules | `(tactic| o_head $_h) => `(tactic| skip)
theorem hh (h : PySem.Challenge.rw_oh0008_01.row.Holds) : PySem.Challenge.rw_oh0008_01.row.Holds := by
  k_head
  exact h
end
inductive Lit (l : Frag) : Type
  | mk
def Lit.get {l : Frag} (_ : Lit l) : Frag := l
noncomputable def kks (P : Params) : { l : Frag // nsIn l mainGlobals (Str.ofString "len") = some none } := ⟨Lit.get (Lit.mk (l := _ :: _) : Lit (hh.heap_1 P)), by kernel_rfl⟩
theorem kks_eq (P : Params) : (kks P).1 = hh.heap_1 P := by kernel_rfl
def vw : Program := { PySem.Challenge.rw_oh0008_01.row.prog with main := { PySem.Challenge.rw_oh0008_01.row.prog.main with body := [0, 2, 4, 5, 6, 10, 11, 13, 14, 17, 18, 19, 20, 21, 22, 23, 24].filterMap fun i => PySem.Challenge.rw_oh0008_01.row.prog.main.body[i]? } }
def tbl : WData := .bytes ((List.range 256).map fun i => UInt8.ofNat (if i = 43 then 45 else if i = 47 then 95 else i))
noncomputable abbrev hk : Hook := kmHook (fun P => (kks P).1) [2, 3, 6, 15, 17, 18, 20, 21, 22, 24, 25, 27, 28, 29, 31, 32, 34, 35, 36, 38, 39, 41, 42, 43, 44, 46, 47, 49, 50, 51, 52, 54, 55, 57, 58, 59, 61, 62, 64, 65, 66, 68, 69, 71, 72, 73, 74, 75, 77, 78, 80, 81, 82, 84, 85, 87, 88, 89, 92, 93, 94, 96, 97, 99, 100, 101, 103, 104, 106, 107, 108, 110, 111, 113, 114, 115, 117, 118, 120, 121, 122, 125, 126, 127, 130, 131] (fun _ => by kernel_rfl) [123, 67]
local macro_rules | `(tactic| k_head) => `(tactic| (
  refine holds_open (q := vw) (loose := [Str.ofString "b2a_base64", Str.ofString "b64encode", Str.ofString "_urlsafe_encode_translation", Str.ofString "_initial_missing", Str.ofString "reduce"])
    (Xt := fun s => xlAt vw [(Str.ofString "_urlsafe_encode_translation", tbl)] s && recOk (RowW.records (OpenRow.toRowW PySem.Challenge.rw_oh0008_01.row)) s) (XP := XL vw [(Str.ofString "_urlsafe_encode_translation", tbl)])
    (Yf := Hook.obs hk) (Ya := Hook.val hk) (YP := Hook.says hk) (N := 1394) ?hl (Hook.of hk) (Hook.keeps hk) (fun s e => xl_of s (Bool.and_eq_true_iff.mp e).1) XL.keeps (by rfl) (by rfl) (by rfl)
    (fun s e => recFacts_of (Bool.and_eq_true_iff.mp e).2) (by rfl) (by first | assumption | decide +kernel) (by decide +kernel) ⟨rfl, rfl, rfl, rfl, rfl, by decide +kernel⟩ ?hw ?hc
  (case hl => (intro w; kernel_rfl))))
open_top tp for PySem.Challenge.rw_oh0008_01
end Mine
namespace Mine
open PySem PySem.W PySem.W.X PyProof.Rows PySem.Calls
set_option maxRecDepth 100000
set_option maxHeartbeats 8000000
abbrev Keeps (h h' : Heap) : Prop := ∀ b o, h.get? b = some o → h'.get? b = some o
noncomputable def ls : List Str := looseW vw [Str.ofString "b2a_base64", Str.ofString "b64encode", Str.ofString "_urlsafe_encode_translation",
      Str.ofString "_initial_missing", Str.ofString "reduce"]

theorem enterK {prog : Program} {w : World} {A : Around} {s : Shared} {K : Frag}
    {R : Result → Shared → Prop} {name qual : Str} {params : Arguments} {body : List Stmt} {scope : Scope} {dV kV doc pm cdv ct oc : Value} {an od : Option Addr} {osl : Array (Option Value)} {f : Addr} {args : Args} {binds : List (Str × Value)}
    (X : K.In s.heap) (hlim : s.heap.NoLimit)
    (ho : K.lookup f = some ⟨oc, od, .func (fnOf name qual params body scope dV kV doc pm an cdv ct), osl⟩) (hcd : codeIn K cdv qual = true) (hroom : A.depth < recursionLimit)
    (hbind : BindsTo s (fnOf name qual params body scope dV kV doc pm an cdv ct) args binds) (hloc : ∀ y ∈ binds, scope.names.lookup y.1 = some .local)
    (h : ∀ L h₁, L = s.heap.objs.size → Fr s.heap L h₁ (fun y => binds.reverse.lookup y) → News s.heap L h₁ [] →
      wpAny (model prog w) (A.deeper (envOf qual scope L f cdv)) (execs body (envOf qual scope L f cdv))
        (fun fl s' => R (.ok (.ret (match fl with | .ret v => v | _ => .none))) s')
        (fun e s' => wpAny (model prog w) (A.deeper (envOf qual scope L f cdv)) (leaving (envOf qual scope L f cdv) e) (fun _ s'' => R (.error e) s'') (fun e' s'' => R (.error e') s'') s')
        { s with heap := h₁, toks := s.toks + binds.length })
    (hco : scope.isCoroutine = false := by rfl) (hgen : scope.isGenerator = false := by rfl) (hk : scope.kind = .function := by rfl)
    (hcell : ∀ x ∈ scope.names, x.2 ≠ .cell := by decide) : codeAny (model prog w) A (.call (.ref f) args) R s :=
  codeAny_call_def (fd := fnOf name qual params body scope dV kV doc pm an cdv ct) (body := body) (binds := binds) hroom (X _ _ ho) rfl hlim (codeRec_of X hcd) rfl hbind hcell hloc
    (fun h₁ hns hk₁ => h _ h₁ rfl ⟨hns, hk₁, Nat.le_refl _⟩ News.nil) hco hgen hk
end Mine
namespace Mine
open PySem PySem.W PySem.W.X PyProof.Rows PySem.Calls
set_option maxRecDepth 100000
set_option maxHeartbeats 8000000
open Sem (wp)
def Stop (P : Prop) : Prop := P
theorem wp_execs_append {M : Model} {Γ : Ctx} {env : Env} {E : Value → Pos → Shared → Prop} {ys : List Stmt} : ∀ (xs : List Stmt) {Q : Flow → Pos → Shared → Prop} {p : Pos} {s : Shared},
    wp M Γ (execs xs env) (fun fl p' s' => match fl with | .next => wp M Γ (execs ys env) Q E p' s' | f => Q f p' s') E p s → wp M Γ (execs (xs ++ ys) env) Q E p s
  | [], _, _, _, h => h
  | st :: xs, Q, p, s, h => by
    rw [List.cons_append, execs_cons, Sem.wp_bind']
    rw [execs_cons, Sem.wp_bind'] at h
    refine Sem.wp_mono M Γ _ (fun f p' s' q => ?_) (fun _ _ _ q => q) _ _ h
    cases f with
    | next => exact wp_execs_append xs q
    | brk => exact q
    | cont => exact q
    | ret v => exact q
theorem execs_split (n : Nat) {M : Model} {A : Around} {env : Env} {Q : Flow → Shared → Prop} {E : Value → Shared → Prop} {l : List Stmt} {s : Shared}
    (h : wpAny M A (execs (l.take n) env) (fun fl s' => match fl with | .next => Stop (wpAny M A (execs (l.drop n) env) Q E s') | f => Stop (Q f s')) E s) : wpAny M A (execs l env) Q E s := by
  intro Γ p hΓ
  have e : l = l.take n ++ l.drop n := (List.take_append_drop n l).symm
  rw [e]
  refine wp_execs_append _ (Sem.wp_mono M Γ _ (fun f p' s' q => ?_) (fun _ _ _ q => q) _ _ (h Γ p hΓ))
  cases f with
  | next =>
    have q' : wpAny M A (execs (l.drop n) env) Q E s' := q
    exact q' Γ p' hΓ
  | brk => exact q
  | cont => exact q
  | ret v => exact q

theorem while_inv {prog : Program} {w : World} {A : Around} {env : Env} {test : Expr} {body : List Stmt} {pos : Pos} {Q : Flow → Shared → Prop} {E : Value → Shared → Prop} {s : Shared} (I : Nat → Shared → Prop) (n : Nat) (h : I n s)
    (turn : ∀ n s, I n s → wpAny (model prog w) A (isTrue test env (eval test env)) (fun b s₂ => if b then wpAny (model prog w) A (execs body env) (fun f s₃ => match f with | .next | .cont => Stop (∃ m, m < n ∧ I m s₃) | .brk => Stop (Q .next s₃) | .ret v => Stop (Q (.ret v) s₃)) (fun _ _ => False) s₂ else Stop (Q .next s₂)) (fun _ _ => False) s) :
    wpAny (model prog w) A (exec (.While test body [] pos) env) Q E s := by
  refine wpAny_While (codeAny_whileLoop I (fun n s hI => wpAny_mono (turn n s hI) (fun b s₂ h₂ => ?_) fun _ _ x => x.elim) n h)
  cases b with
  | true =>
    simp only [if_true] at h₂ ⊢
    refine wpAny_mono h₂ (fun f s₃ h₃ => ?_) fun _ _ x => x.elim
    cases f <;> exact h₃
  | false =>
    simp only [Bool.false_eq_true, if_false] at h₂ ⊢
    exact wpAny_execs_nil h₂
theorem fr_congr {h₀ h : Heap} {L : Addr} {m m' : Str → Option Value} (F : Fr h₀ L h m) (e : ∀ y, m y = m' y) : Fr h₀ L h m' := (funext e : m = m') ▸ F
end Mine
namespace Mine
open PySem PySem.W PySem.W.X PyProof.Rows PySem.Calls
set_option maxRecDepth 100000
set_option maxHeartbeats 8000000
theorem fr_put {h₀ h : Heap} {L : Addr} {m : Str → Option Value} {x : Str} {v : Value} (F : Fr h₀ L h m) (e : m x = some v) : Fr h₀ L h (fun y => if y = x then some v else m y) :=
  fr_congr F fun y => by
    by_cases q : y = x
    · subst q; simp [e]
    · simp [q]
theorem fr_keeps {h₀ h h' : Heap} {L : Addr} {m : Str → Option Value} (F : Fr h₀ L h m) (k : Keeps h h') : Fr h₀ L h' m := ⟨F.ns.keeps k, fun b o e => k b o (F.keep b o e), F.above⟩
theorem news_keeps {h₀ h h' : Heap} {L : Addr} {news : List (Addr × Obj)} (N : News h₀ L h news) (k : Keeps h h') : News h₀ L h' news := fun p hp => ⟨k _ _ (N p hp).1, (N p hp).2⟩
end Mine
namespace Mine
open PySem PySem.W PySem.W.X PyProof.Rows PySem.Calls
set_option maxRecDepth 100000
set_option maxHeartbeats 8000000
abbrev putsM (l : List (Str × Value)) (m : Str → Option Value) : Str → Option Value := l.foldr (fun p f y => if y = p.1 then some p.2 else f y) m
theorem puts_eq {m : Str → Option Value} : ∀ (l : List (Str × Value)), (∀ p ∈ l, m p.1 = some p.2) → putsM l m = m
  | [], _ => rfl
  | p :: l, h => by
    funext y
    show (if y = p.1 then some p.2 else putsM l m y) = m y
    rw [puts_eq l fun q hq => h q (.tail _ hq)]
    split
    · rename_i e; rw [e, h p (.head _)]
    · rfl
theorem fr_puts {h₀ h : Heap} {L : Addr} {m : Str → Option Value} (l : List (Str × Value)) (F : Fr h₀ L h m) (e : ∀ p ∈ l, m p.1 = some p.2) : Fr h₀ L h (putsM l m) := (puts_eq l e).symm ▸ F
end Mine
namespace Mine
open PySem PySem.W PySem.W.X PyProof.Rows PySem.Calls
set_option maxRecDepth 100000
set_option maxHeartbeats 8000000
theorem enterKC {prog : Program} {w : World} {A : Around} {s : Shared} {K : Frag} {h₀ : Heap}
    {R : Result → Shared → Prop} {name qual : Str} {params : Arguments} {body : List Stmt} {scope : Scope} {dV kV doc pm cdv ct oc : Value} {an od : Option Addr} {osl : Array (Option Value)} {f : Addr} {args : Args} {binds : List (Str × Value)}
    (X : K.In s.heap) (hlim : s.heap.NoLimit)
    (ho : K.lookup f = some ⟨oc, od, .func (fnOf name qual params body scope dV kV doc pm an cdv ct), osl⟩) (hcd : codeIn K cdv qual = true) (hroom : A.depth < recursionLimit)
    (hbind : BindsTo s (fnOf name qual params body scope dV kV doc pm an cdv ct) args binds) (hkind : (binds.all fun y => scope.names.lookup y.1 == some .local || scope.names.lookup y.1 == some .cell) = true)
    (hnd : ((cellsFrom 0 scope.names []).map (·.1)).Nodup) (h₀k : ∀ b o, h₀.get? b = some o → s.heap.get? b = some o) (h₀s : h₀.objs.size ≤ s.heap.objs.size)
    (h : ∀ L h₁ tk cells, L = s.heap.objs.size → Fr h₀ L h₁ (bindL (envOfC qual scope L f cdv).kindOf binds fun _ => none) → News h₀ L h₁ cells →
      CellsAre (bindC (envOfC qual scope L f cdv).kindOf binds fun _ => none) (cellsFrom (L + 1) scope.names []) cells → Keeps s.heap h₁ →
      wpAny (model prog w) (A.deeper (envOfC qual scope L f cdv)) (execs body (envOfC qual scope L f cdv))
        (fun fl s' => R (.ok (.ret (match fl with | .ret v => v | _ => .none))) s')
        (fun e s' => wpAny (model prog w) (A.deeper (envOfC qual scope L f cdv)) (leaving (envOfC qual scope L f cdv) e) (fun _ s'' => R (.error e) s'') (fun e' s'' => R (.error e') s'') s')
        { s with heap := h₁, toks := tk })
    (hco : scope.isCoroutine = false := by rfl) (hgen : scope.isGenerator = false := by rfl) (hk : scope.kind = .function := by rfl) : codeAny (model prog w) A (.call (.ref f) args) R s := by
  refine codeAny_call_function (fd := fnOf name qual params body scope dV kV doc pm an cdv ct) hroom (X _ _ ho) rfl hco hgen rfl (codeRec_of X hcd) (hbind _ _ _ _ ?_)
  refine wpAny_newFunctionEnv_cells hk (kindsX hkind _) fun env' he s' x => ?_
  subst he
  refine ⟨hlim.keeps x.toInCall.keep, codeAny_func ?_⟩
  obtain ⟨h₁, tk, rfl, _⟩ := x.done
  have hk₁ := x.toInCall.keep
  obtain ⟨cells, NC, Y⟩ := Cl.news (h₀ := h₀) (h := h₁) (L := s.heap.objs.size) h₀s fun n c hm => ⟨x.cell n c (lookup_of_mem_nodup (cellsFrom_names scope.names 0 (s.heap.objs.size + 1) [] [] rfl ▸ hnd) hm), x.above n c hm⟩
  exact h _ h₁ tk cells rfl ⟨x.toInCall.ns, fun b o e => hk₁ b o (h₀k b o e), h₀s⟩ NC Y hk₁
end Mine
namespace Mine
open PySem PySem.W PySem.W.X PyProof.Rows PySem.Calls
set_option maxRecDepth 100000
set_option maxHeartbeats 2000000
theorem st_tuple : isSubtype (.type "tuple") (.type "tuple") = pure true := by rw [isSubtype_type]; kernel_rfl
theorem st_dict : isSubtype (.type "dict") (.type "dict") = pure true := by rw [isSubtype_type]; kernel_rfl
theorem st_type : isSubtype (.type "type") (.type "type") = pure true := by rw [isSubtype_type]; kernel_rfl
theorem mro_obj : mroOf (.type "object") = pure [.type "object"] := by rw [mroOf_type]; kernel_rfl
theorem turned_obj : Builtin.notOverATurnedClass [.type "object"] = pure () := by kernel_rfl
theorem ext_obj : Builtin.extendedBase [.type "object"] = pure (.type "object") := by kernel_rfl
theorem best_obj : Builtin.Slots.bestBase [.type "object"] = pure (.type "object") := by kernel_rfl
theorem dict_iter : typeLookup (.type "dict") (Str.ofString "__iter__") = pure (some (.builtin "dict.__iter__")) := by rw [typeLookup_type, builtinLookup_eq_fast]; kernel_rfl
theorem lin_obj : Builtin.linearize [.type "object"] mroOf = pure [.type "object"] := by kernel_rfl
theorem hook_type : Builtin.mroHook? (.type "type") = pure none := by
  unfold Builtin.mroHook?
  rw [typeLookup_type, builtinLookup_eq_fast]; kernel_rfl
theorem type_obj : typeOf (.type "object") = pure (.type "type") := by kernel_rfl
theorem slotn_obj : Builtin.Slots.slotNamesOf (.type "object") = pure [] := by kernel_rfl
theorem gd_obj : Builtin.Slots.givesDict (.type "object") = pure false := by kernel_rfl
theorem gw_obj : Builtin.Slots.givesWeak (.type "object") = pure false := by kernel_rfl
theorem vs_obj : Builtin.Slots.varSize (.type "object") = pure false := by kernel_rfl
end Mine
namespace Mine
open PySem
local macro_rules | `(tactic| walk_at "st") => `(tactic| first
  | with_reducible first
    | refine wpAny_bind ?_ | refine wpAny_pure ?_ | refine wpAny_holding ?_ | refine wpAny_alloc' ?_ | refine wpAny_fresh' ?_ | refine wpAny_standAt ?_ | refine wpAny_rule ?_
    | refine wpAny_of_eq (by assumption) ?_ | refine wpAny_specialOf (by assumption) (by assumption) ?_ | refine wpAny_isInstance (by assumption) (by assumption) ?_ | refine wpAny_call ?_
  | ((with_reducible refine wpAny_ite_false ?c ?_); case c => rfl)
  | ((with_reducible refine wpAny_ite_true ?c ?_); case c => rfl)
  | ((with_reducible refine' wpAny_load' ?c ?_); case c => (heap_get; done))
  | ((with_reducible refine' wpAny_loadPart' ?c ?_); case c => (heap_get; done))
  | ((with_reducible refine wpAny_ite_false ?c ?_); case c => (simp [*]; done))
  | ((with_reducible refine wpAny_mkStr' ?_ ?c); case c => size_fits)
  | wp_delta
  | with_reducible_and_instances refine wpAny_pure ?_)
section
open PySem PySem.W PySem.W.X PyProof.Rows PySem.Calls
set_option maxRecDepth 100000
set_option maxHeartbeats 2000000
abbrev ent (x : String) (h : Int) (t : Tok) (v : Value) : DictEntry := ⟨h, .str (Str.ofString x) t, v⟩
theorem st_obj : isSubtype (.type "object") (.type "object") = pure true := by rw [isSubtype_type]; kernel_rfl
local macro_rules | `(tactic| walk_at "tn") => `(tactic| first
  | with_reducible refine wpAny_of_eq st_tuple ?_ | with_reducible refine wpAny_of_eq st_dict ?_ | with_reducible refine wpAny_of_eq st_type ?_ | with_reducible refine wpAny_of_eq mro_obj ?_
  | with_reducible refine wpAny_of_eq dict_iter ?_ | with_reducible refine wpAny_of_eq type_obj ?_
  | ((with_reducible show wpAny _ _ (isSubtype (.type "object") _) _ _ _); refine wpAny_of_eq st_obj ?_)
  | ((with_reducible show wpAny _ _ (Builtin.notOverATurnedClass _) _ _ _); refine wpAny_of_eq turned_obj ?_)
  | ((with_reducible show wpAny _ _ (Builtin.extendedBase _) _ _ _); refine wpAny_of_eq ext_obj ?_)
  | ((with_reducible show wpAny _ _ (Builtin.Slots.bestBase _) _ _ _); refine wpAny_of_eq best_obj ?_)
  | ((with_reducible show wpAny _ _ (Builtin.linearize _ _) _ _ _); refine wpAny_of_eq lin_obj ?_)
  | ((with_reducible show wpAny _ _ (Builtin.mroHook? _) _ _ _); refine wpAny_of_eq hook_type ?_)
  | ((with_reducible show wpAny _ _ (Builtin.Slots.slotNamesOf _) _ _ _); refine wpAny_of_eq slotn_obj ?_)
  | ((with_reducible show wpAny _ _ (Builtin.Slots.givesDict _) _ _ _); refine wpAny_of_eq gd_obj ?_)
  | ((with_reducible show wpAny _ _ (Builtin.Slots.givesWeak _) _ _ _); refine wpAny_of_eq gw_obj ?_)
  | ((with_reducible show wpAny _ _ (Builtin.Slots.varSize _) _ _ _); refine wpAny_of_eq vs_obj ?_)
  | walk_at "st")

def ents (h1 h2 h3 h4 h5 h6 h7 h8 h9 h10 h11 h12 : Int) (t1 t2 t3 t4 t5 t6 t7 t8 t9 t10 t11 t12 q1 q2 q3 : Tok) (f0 f1 f2 f3 f4 f5 S St : Addr) : Array DictEntry :=
  #[ent "__module__" h1 t1 (.str (Str.ofString "cpy313.functools") q1), ent "__qualname__" h2 t2 (.str (Str.ofString "cmp_to_key.<locals>.K") q2), ent "__firstlineno__" h3 t3 (.int 62 q3),
     ent "__slots__" h4 t4 (.ref S), ent "__init__" h5 t5 (.ref f0), ent "__lt__" h6 t6 (.ref f1), ent "__gt__" h7 t7 (.ref f2), ent "__eq__" h8 t8 (.ref f3), ent "__le__" h9 t9 (.ref f4), ent "__ge__" h10 t10 (.ref f5), ent "__hash__" h11 t11 .none, ent "__static_attributes__" h12 t12 (.ref St)]
section
variable {prog : Program} {w : World} {M : Model} {A : Around} {E : Value → Shared → Prop} {h₀ h : Heap} {g : Array GenState} {d : Drawn} {tk : Nat} {os : OsState} {chg news : List (Addr × Obj)}
theorem m_alloc {o : Obj} {Q : Addr → Shared → Prop} (D : Mem h₀ h chg news) (hf : o.isFreed = false) (hq : ∀ a h', Mem h₀ h' chg ((a, o) :: news) → Q a ⟨h', g, d, tk, os⟩) : wpAny M A (alloc o) Q E ⟨h, g, d, tk, os⟩ :=
  wpAny_alloc (hq _ _ (D.alloc hf))
theorem m_updatePart {a : Addr} {part : Option Value} {f : Obj → Obj} {o o' : Obj} {Q : Unit → Shared → Prop} (D : Mem h₀ h chg news) (i : Nat) (hi : news[i]? = some (a, o)) (e : f o = o') (hf : o'.isFreed = false)
    (hq : ∀ h', Mem h₀ h' chg (news.set i (a, o')) → Q () ⟨h', g, d, tk, os⟩) : wpAny M A (updatePart a part f) Q E ⟨h, g, d, tk, os⟩ := by
  subst e; exact wpAny_updatePart (D.at i a o hi) (hq _ (D.update hi hf))
theorem m_update {a : Addr} {f : Obj → Obj} {o o' : Obj} {Q : Unit → Shared → Prop} (D : Mem h₀ h chg news) (i : Nat) (hi : news[i]? = some (a, o)) (e : f o = o') (hf : o'.isFreed = false)
    (hq : ∀ h', Mem h₀ h' chg (news.set i (a, o')) → Q () ⟨h', g, d, tk, os⟩) : wpAny M A (update a f) Q E ⟨h, g, d, tk, os⟩ := by
  subst e; exact wpAny_update (D.at i a o hi) (hq _ (D.update hi hf))
theorem m_load {a : Addr} {o : Obj} {Q : Obj → Shared → Prop} (D : Mem h₀ h chg news) (i : Nat) (hi : news[i]? = some (a, o)) (hq : Q o ⟨h, g, d, tk, os⟩) : wpAny M A (load a) Q E ⟨h, g, d, tk, os⟩ := wpAny_load (D.at i a o hi) hq
theorem m_loadPart {a : Addr} {part : Option Value} {o : Obj} {Q : Obj → Shared → Prop} (D : Mem h₀ h chg news) (i : Nat) (hi : news[i]? = some (a, o)) (hq : Q o ⟨h, g, d, tk, os⟩) : wpAny M A (loadPart a part) Q E ⟨h, g, d, tk, os⟩ := wpAny_loadPart (D.at i a o hi) hq
theorem Mem.keepAll (D : Mem h₀ h [] news) : ∀ b o, h₀.get? b = some o → h.get? b = some o := fun b o e => D.keep b o e (by cases hasCls o <;> rfl)
theorem Mem.more {h' : Heap} {o : Obj} (D : Mem h₀ h chg news) (k : ∀ b o, h.get? b = some o → h'.get? b = some o) (e : h'.get? h.objs.size = some o) : Mem h₀ h' chg ((h.objs.size, o) :: news) := by
  have hn : h₀.get? h.objs.size = none := by
    cases q : h₀.get? h.objs.size with
    | none => rfl
    | some o => obtain ⟨o', q'⟩ := D.there q; exact absurd (Heap.lt_size q') (Nat.lt_irrefl _)
  refine ⟨fun b o q r => k _ _ (D.keep b o q r), fun p hp => ⟨k _ _ (D.ch p hp).1, (D.ch p hp).2⟩, D.cd, ?_, ?_⟩
  · intro p hp
    rcases List.mem_cons.mp hp with rfl | hp
    · exact ⟨e, hn⟩
    · exact ⟨k _ _ (D.nw p hp).1, (D.nw p hp).2⟩
  · refine List.Pairwise.cons (fun b hb => ?_) D.ord
    obtain ⟨p, hp, rfl⟩ := List.mem_map.mp hb
    exact Heap.lt_size (D.nw p hp).1
theorem ns_get {a : Addr} {name : Str} {o : Obj} {v : Option Value} {Q : Option Value → Shared → Prop}
   (ho : h.get? a = some o) (hl : nsLook name o = pure v) (hq : Q v ⟨h, g, d, tk, os⟩) : wpAny M A (nsGet a name) Q E ⟨h, g, d, tk, os⟩ := by
  unfold nsGet
  refine wpAny_bind (wpAny_loadPart_at ho ?_)
  rw [hl]
  exact wpAny_pure hq
end
theorem sread {prog : Program} {w : World} {A : Around} {E : Value → Shared → Prop} {h : Heap} {g : Array GenState} {d : Drawn} {tk : Nat} {os : OsState} {Q : Builtin.Slots.Plan → Shared → Prop}
  {h1 h2 h3 h4 h5 h6 h7 h8 h9 h10 h11 h12 : Int} {t1 t2 t3 t4 t5 t6 t7 t8 t9 t10 t11 t12 : Tok} {q1 q2 q3 : Tok} {f0 f1 f2 f3 f4 f5 S St : Addr}
  {qS : Tok} {eS : Nat} {h₀ : Heap} {chg news : List (Addr × Obj)} (D : Mem h₀ h chg news) (hS : h.get? S = some ⟨.type "list", none, .seq #[.str (Str.ofString "obj") qS] eS, #[]⟩)
  (hQ : ∀ a h', Mem h₀ h' chg ((a, seqObj "list" #[.str (Str.ofString "obj") qS] 1) :: news) → Q { names := [Str.ofString "obj"], dict := false, weak := false, inherited := [] } ⟨h', g, d, tk, os⟩) :
    wpAny (model prog w) A (Builtin.Slots.read (Str.ofString "K") [.type "object"] (ents h1 h2 h3 h4 h5 h6 h7 h8 h9 h10 h11 h12 t1 t2 t3 t4 t5 t6 t7 t8 t9 t10 t11 t12 q1 q2 q3 f0 f1 f2 f3 f4 f5 S St)) Q E ⟨h, g, d, tk, os⟩ := by
  unfold Builtin.Slots.read
  have e : (ents h1 h2 h3 h4 h5 h6 h7 h8 h9 h10 h11 h12 t1 t2 t3 t4 t5 t6 t7 t8 t9 t10 t11 t12 q1 q2 q3 f0 f1 f2 f3 f4 f5 S St).find? (·.key.isStr (Str.ofString "__slots__")) = some (ent "__slots__" h4 t4 (.ref S)) := by rfl
  have e2 : (ents h1 h2 h3 h4 h5 h6 h7 h8 h9 h10 h11 h12 t1 t2 t3 t4 t5 t6 t7 t8 t9 t10 t11 t12 q1 q2 q3 f0 f1 f2 f3 f4 f5 S St).any (·.key.isStr (Str.ofString "obj")) = false := by kernel_rfl
  have e3 : Builtin.Slots.isIdentifier (Str.ofString "obj") = some true := by kernel_rfl
  have e4 : Builtin.Slots.mangle (Str.ofString "K") (Str.ofString "obj") = Str.ofString "obj" := by kernel_rfl
  have e5 : (Str.ofString "obj" == Str.ofString "__dict__") = false := by kernel_rfl
  have e6 : (Str.ofString "obj" == Str.ofString "__weakref__") = false := by kernel_rfl
  have e7 : (Str.ofString "obj" == Str.ofString "__del__") = false := by kernel_rfl
  have e8 : (Str.ofString "obj").length = 3 := by kernel_rfl
  generalize (ents h1 h2 h3 h4 h5 h6 h7 h8 h9 h10 h11 h12 t1 t2 t3 t4 t5 t6 t7 t8 t9 t10 t11 t12 q1 q2 q3 f0 f1 f2 f3 f4 f5 S St) = es at *
  rw [e]
  have hSl : h.IsList S [.str (Str.ofString "obj") qS].toArray := ⟨_, hS, rfl, _, rfl⟩
  repeat (first | ((with_reducible show wpAny _ _ (collect _) _ _ _); refine collect_list hSl ?_ (by rw [sizeLine_eq]; exact Nat.le_of_ble_eq_true rfl)) | rw [e3] | rw [e4] | rw [e5] | rw [e6] | rw [e7] | rw [e8] | walk_at "tn")
  exact hQ _ _ ((D.alloc (o := seqObj "list" #[] 0) rfl).update (i := 0) rfl rfl)
end
section
open PySem PySem.W PySem.W.X PyProof.Rows PySem.Calls
set_option maxRecDepth 100000
set_option maxHeartbeats 4000000
section
variable {prog : Program} {w : World} {M : Model} {A : Around} {E : Value → Shared → Prop} {h₀ h : Heap} {g : Array GenState} {d : Drawn} {tk : Nat} {os : OsState} {chg news : List (Addr × Obj)}
theorem mem_eq {l l' : List (Addr × Obj)} (D : Mem h₀ h chg l) (e : l = l') : Mem h₀ h chg l' := e ▸ D
theorem m_setSlot {a : Addr} {o o' : Obj} {k : Nat} {v : Option Value} {Q : Unit → Shared → Prop} (D : Mem h₀ h chg news) (i : Nat) (hi : news[i]? = some (a, o)) (hk : k < sizeLine)
    (e : ({ o with slots := (o.slots ++ Array.replicate (k + 1 - o.slots.size) none).setIfInBounds k v } : Obj) = o') (hf : o'.isFreed = false)
    (hq : ∀ h', Mem h₀ h' chg (news.set i (a, o')) → Q () ⟨h', g, d, tk, os⟩) : wpAny M A (setSlotAt a k v) Q E ⟨h, g, d, tk, os⟩ := by
  unfold setSlotAt
  rw [if_neg (by lia)]
  exact wpAny_bind (wpAny_pure (m_updatePart D i hi e hf hq))
theorem put_nf {name : Str} {hs : Int} {key v c : Value} {dd : Option Addr} {es : Array DictEntry} {n : Nat} {sl : Array (Option Value)} : (Obj.putName name hs key v ⟨c, dd, .dict es n, sl⟩).isFreed = false := by
  unfold Obj.putName
  dsimp only
  split <;> rfl
theorem m_nsSet {a : Addr} {name : Str} {v : Value} {c : Value} {dd : Option Addr} {es : Array DictEntry} {n : Nat} {sl : Array (Option Value)} {Q : Unit → Shared → Prop} (D : Mem h₀ h chg news) (i : Nat) (hi : news[i]? = some (a, ⟨c, dd, .dict es n, sl⟩))
    (hr : aRefKeyMayBeTheName name es = false)
    (hq : ∀ h' hs, Mem h₀ h' chg (news.set i (a, Obj.putName name hs (.str name tk) v ⟨c, dd, .dict es n, sl⟩)) → Q () ⟨h', g, d, tk + 1, os⟩) : wpAny M A (nsSet a name v) Q E ⟨h, g, d, tk, os⟩ := by
  unfold nsSet strHash
  refine wpAny_bind (wpAny_bind (wpAny_askSetting (wpAny_pure ?_)))
  refine wpAny_bind (wpAny_mkText ?_)
  refine wpAny_bind (wpAny_loadPart (D.at i a _ hi) ?_)
  dsimp only
  rw [hr]
  exact wpAny_bind (wpAny_pure (m_updatePart D i hi rfl put_nf fun h' D' => hq h' _ D'))
end
def kcls (C NS : Addr) (hd : Bool) (sn : List Str) (sl : Array (Option Value)) : Obj := ⟨.type "type", none, .cls { name := Str.ofString "K", bases := [.type "object"], mro := [.ref C, .type "object"], ns := NS, qualname := Str.ofString "cmp_to_key.<locals>.K", hasDict := hd, slotNames := sn }, sl⟩
def ents2 (h1 h3 h4 h5 h6 h7 h8 h9 h10 h11 h12 : Int) (t1 t3 t4 t5 t6 t7 t8 t9 t10 t11 t12 q1 q3 : Tok) (f0 f1 f2 f3 f4 f5 S St : Addr) : Array DictEntry :=
  #[ent "__module__" h1 t1 (.str (Str.ofString "cpy313.functools") q1), ent "__firstlineno__" h3 t3 (.int 62 q3),
     ent "__slots__" h4 t4 (.ref S), ent "__init__" h5 t5 (.ref f0), ent "__lt__" h6 t6 (.ref f1), ent "__gt__" h7 t7 (.ref f2), ent "__eq__" h8 t8 (.ref f3), ent "__le__" h9 t9 (.ref f4), ent "__ge__" h10 t10 (.ref f5), ent "__hash__" h11 t11 .none, ent "__static_attributes__" h12 t12 (.ref St)]
def ents3 (h1 h3 h4 h5 h6 h7 h8 h9 h10 h11 h12 ho hd : Int) (t1 t3 t4 t5 t6 t7 t8 t9 t10 t11 t12 q1 q3 to td : Tok) (f0 f1 f2 f3 f4 f5 S St X : Addr) : Array DictEntry :=
  #[ent "__module__" h1 t1 (.str (Str.ofString "cpy313.functools") q1), ent "__firstlineno__" h3 t3 (.int 62 q3),
     ent "__slots__" h4 t4 (.ref S), ent "__init__" h5 t5 (.ref f0), ent "__lt__" h6 t6 (.ref f1), ent "__gt__" h7 t7 (.ref f2), ent "__eq__" h8 t8 (.ref f3), ent "__le__" h9 t9 (.ref f4), ent "__ge__" h10 t10 (.ref f5), ent "__hash__" h11 t11 .none, ent "__static_attributes__" h12 t12 (.ref St),
     ent "obj" ho to (.ref X), ent "__doc__" hd td .none]
def ents2o (h1 h3 h4 h5 h6 h7 h8 h9 h10 h11 h12 ho : Int) (t1 t3 t4 t5 t6 t7 t8 t9 t10 t11 t12 q1 q3 to : Tok) (f0 f1 f2 f3 f4 f5 S St X : Addr) : Array DictEntry :=
  #[ent "__module__" h1 t1 (.str (Str.ofString "cpy313.functools") q1), ent "__firstlineno__" h3 t3 (.int 62 q3),
     ent "__slots__" h4 t4 (.ref S), ent "__init__" h5 t5 (.ref f0), ent "__lt__" h6 t6 (.ref f1), ent "__gt__" h7 t7 (.ref f2), ent "__eq__" h8 t8 (.ref f3), ent "__le__" h9 t9 (.ref f4), ent "__ge__" h10 t10 (.ref f5), ent "__hash__" h11 t11 .none, ent "__static_attributes__" h12 t12 (.ref St),
     ent "obj" ho to (.ref X)]
abbrev dobj (es : Array DictEntry) (n : Nat) : Obj := ⟨.type "dict", none, .dict es n, #[]⟩
def ksl3 (B : Addr) (t0 q2 : Tok) : Array (Option Value) := #[some (.ref B), none, some (.str (Str.ofString "K") t0), some (.str (Str.ofString "cmp_to_key.<locals>.K") q2)]
def ksl4 (B : Addr) (t0 q2 : Tok) : Array (Option Value) := #[some (.ref B), none, some (.str (Str.ofString "K") t0), some (.str (Str.ofString "cmp_to_key.<locals>.K") q2), some (.builtin "object.__new__")]
def ksl5 (B : Addr) (t0 q2 : Tok) : Array (Option Value) := #[some (.ref B), none, some (.str (Str.ofString "K") t0), some (.str (Str.ofString "cmp_to_key.<locals>.K") q2), some (.builtin "object.__new__"), some (.bool false)]
def mdesc (C : Addr) (t : Tok) : Obj := ⟨.type "member_descriptor", none, .fields #[.str (Str.ofString "obj") t, .ref C, .builtin "proto.slot", .builtin "proto.slot#set", rawInt 0], #[]⟩
section
variable {prog : Program} {w : World} {M : Model} {A : Around} {E : Value → Shared → Prop} {h₀ h : Heap} {g : Array GenState} {d : Drawn} {tk : Nat} {os : OsState} {chg news : List (Addr × Obj)}
  {C NS B : Addr} {hd : Bool} {sn : List Str} {sl : Array (Option Value)} {rest : List (Addr × Obj)}
local macro_rules | `(tactic| walk_at "tq") => `(tactic| first
  | with_reducible (first | refine wpAny_pure ?_ | refine wpAny_bind ?_ | refine wpAny_holding ?_ | refine wpAny_standAt ?_ | refine wpAny_point ?_ | refine wpAny_rule ?_)
  | ((with_reducible show wpAny _ _ (load _) _ _ _); first | refine m_load (by assumption) 0 rfl ?_ | refine m_load (by assumption) 1 rfl ?_ | refine m_load (by assumption) 2 rfl ?_ | refine m_load (by assumption) 3 rfl ?_)
  | ((with_reducible show wpAny _ _ (loadPart _ _) _ _ _); first | refine m_loadPart (by assumption) 0 rfl ?_ | refine m_loadPart (by assumption) 1 rfl ?_ | refine m_loadPart (by assumption) 2 rfl ?_ | refine m_loadPart (by assumption) 3 rfl ?_)
  | ((with_reducible show wpAny _ _ (typeLookup (.ref _) _) _ _ _); unfold typeLookup)
  | walk_at "st")
theorem forin_each {s : Shared} {es : List DictEntry} {f : DictEntry → PUnit → Sem (ForInStep PUnit)} {Q : PUnit → Shared → Prop} (hs : ∀ e ∈ es, ∀ Q' : ForInStep PUnit → Shared → Prop, Q' (ForInStep.yield PUnit.unit) s → wpAny M A (f e PUnit.unit) Q' E s) (hq : Q PUnit.unit s) :
    wpAny M A (forIn es.toArray PUnit.unit f) Q E s := by
  rw [← Array.forIn_toList]
  induction es with
  | nil => exact wpAny_pure hq
  | cons e es ih =>
    show wpAny M A (forIn (e :: es) PUnit.unit f) Q E s
    rw [List.forIn_cons]
    refine wpAny_bind (hs e (.head _) _ ?_)
    exact ih fun e' h' => hs e' (.tail _ h')
theorem refresh {es : Array DictEntry} {n : Nat} {Q : Unit → Shared → Prop} {t0 q2 : Tok} (D : Mem h₀ h chg ((C, kcls C NS hd sn (ksl4 B t0 q2)) :: (NS, dobj es n) :: rest)) (hn : nsLook (Str.ofString "__new__") (dobj es n) = pure none)
   (hq : Q () ⟨h, g, d, tk, os⟩) : wpAny M A (Bind.refreshMaker C) Q E ⟨h, g, d, tk, os⟩ := by
  unfold Bind.refreshMaker
  have e1 : builtinOwn "object" (Str.ofString "__new__") = some (.builtin "object.__new__") := by kernel_rfl
  have e2 : ("object.__new__".endsWith ".__new__") = true := by kernel_rfl
  repeat (first | ((with_reducible show wpAny _ _ (nsGet _ _) _ _ _); refine ns_get (D.at 1 _ _ rfl) hn ?_) | walk_at "tq")
  rw [if_neg (show ¬ ((!(toString "object" ++ toString "." ++ toString (Str.ofString "__new__").toString).endsWith ".__new__") = true) from by decide +kernel)]
  exact wpAny_pure hq
theorem installK {es : Array DictEntry} {n : Nat} {Q : Unit → Shared → Prop} {t0 q2 : Tok} (D : Mem h₀ h chg ((C, kcls C NS true [] (ksl4 B t0 q2)) :: (NS, dobj es n) :: rest)) (hn : nsLook (Str.ofString "obj") (dobj es n) = pure none)
   (hr : aRefKeyMayBeTheName (Str.ofString "obj") es = false) (hz : noSuchName (Str.ofString "obj") es = true → es.size ≤ sizeLine) 
   (hq : ∀ h' X hs tk', Mem h₀ h' chg ((X, mdesc C tk) :: (C, kcls C NS false [Str.ofString "obj"] (ksl4 B t0 q2)) :: (NS, Obj.putName (Str.ofString "obj") hs (.str (Str.ofString "obj") (tk + 1)) (.ref X) (dobj es n)) :: rest) → Q () ⟨h', g, d, tk', os⟩) :
   wpAny M A (Builtin.Slots.install (.ref C) NS [.type "object"] { names := [Str.ofString "obj"], dict := false, weak := false, inherited := [] }) Q E ⟨h, g, d, tk, os⟩ := by
  unfold Builtin.Slots.install
  have e0 : ¬ (es.size > sizeLine && noSuchName (Str.ofString "obj") es) = true := by
    intro q
    simp only [Bool.and_eq_true, decide_eq_true_eq] at q
    exact absurd (hz q.2) (by lia)
  repeat (first | ((with_reducible show wpAny _ _ (nsGet _ _) _ _ _); refine ns_get (D.at 1 _ _ rfl) hn ?_) | ((with_reducible show wpAny _ _ (alloc _) _ _ _); refine m_alloc D rfl ?_; intro X h2 D2) | ((with_reducible show wpAny _ _ (nsSet _ _ _) _ _ _); refine m_nsSet D2 2 rfl hr ?_; intro h3 hs D3) | ((with_reducible show wpAny _ _ (update _ _) _ _ _); refine m_update D3 1 rfl (o' := kcls C NS false [Str.ofString "obj"] (ksl4 B t0 q2)) rfl rfl ?_; intro h4 D4) | ((with_reducible show wpAny _ _ (Builtin.Slots.givesDict _) _ _ _); refine wpAny_of_eq gd_obj ?_) | walk_at "tq")
  exact hq _ _ _ _ D4
end
end
section
open PySem PySem.W PySem.W.X PyProof.Rows PySem.Calls
set_option maxRecDepth 100000
set_option maxHeartbeats 4000000
section
variable {prog : Program} {w : World} {M : Model} {A : Around} {E : Value → Shared → Prop} {h₀ h : Heap} {g : Array GenState} {d : Drawn} {t : Nat} {os : OsState} {C NS : Addr} {hd : Bool} {sn : List Str} {sl : Array (Option Value)}
theorem self_sub {Q : Bool → Shared → Prop} (hC : h.get? C = some (kcls C NS hd sn sl)) (hq : Q true ⟨h, g, d, t, os⟩) : wpAny M A (isSubtype (.ref C) (.ref C)) Q E ⟨h, g, d, t, os⟩ := by
  unfold isSubtype
  repeat walk_at "st"
  have e : ([Value.ref C, Value.type "object"]).contains (Value.ref C) = true := by simp
  rw [← e] at hq
  exact hq
theorem call_super_cc {Q : Value → Shared → Prop} (hC : h.get? C = some (kcls C NS hd sn sl))
    (hq : ∀ h', h'.get? h.objs.size = some { cls := .type "super", dict := none, data := .fields #[.ref C, .ref C, .ref C], slots := #[] } → (∀ y o, h.get? y = some o → h'.get? y = some o) → Q (.ref h.objs.size) ⟨h', g, d, t, os⟩) :
    wpAny (model prog w) A (call (.type "super") [.ref C, .ref C]) Q E ⟨h, g, d, t, os⟩ := by
  refine ks_callType_codesW (Q₁ := fun obj s₁ => obj = .ref h.objs.size ∧ s₁ = ⟨h.push { cls := .type "super", data := .fields #[.none, .none, .none] }, g, d, t, os⟩) F.ks_called_super (ks_wpAny_checkTypeCall_super hC rfl) F.ks_entry_super_init
    (ks_code_super_new _ _ ⟨rfl, rfl⟩) fun obj s₁ h₁ => ?_
  obtain ⟨rfl, rfl⟩ := h₁
  have up : ∀ y o, h.get? y = some o → (h.push { cls := .type "super", data := .fields #[.none, .none, .none] }).get? y = some o := fun y o e => Heap.get?_push_of_some _ e
  have hso : (h.push { cls := .type "super", data := .fields #[.none, .none, .none] }).get? h.objs.size = some { cls := .type "super", dict := none, data := .fields #[.none, .none, .none], slots := #[] } := Heap.get?_push_at rfl rfl
  have hC' := up _ _ hC
  refine ⟨⟨_, hso, rfl⟩, F.ks_initArgs_super _ _ _, ?_⟩
  unfold Builtin.«super.__init__» noKeywords
  repeat (first | (with_reducible refine ks_wpAny_isType_cls hC' rfl ?_) | (with_reducible refine self_sub hC' ?_) | (with_reducible refine ks_wpAny_super_set3 hso ?_) | walk_at "st")
  intro h' e k
  exact ⟨rfl, hq h' e fun y o ey => k y o (Nat.ne_of_lt (Heap.lt_size ey)) (up y o ey)⟩
theorem own_is : classOwn (.type "object") (Str.ofString "__init_subclass__") = pure (some (.builtin "object.__init_subclass__")) := by kernel_rfl
theorem type_is : typeOf (.builtin "object.__init_subclass__") = pure (.type "classmethod_descriptor") := by show builtinType _ = _; rw [builtinType_eq_fast]; kernel_rfl
theorem get_cmd : typeLookup (.type "classmethod_descriptor") (Str.ofString "__get__") = pure (some (.builtin "classmethod_descriptor.__get__")) := by rw [typeLookup_type, builtinLookup_eq_fast]; kernel_rfl
theorem drop_cc (C : Addr) : (([Value.ref C, Value.type "object"]).dropWhile (· != Value.ref C)).drop 1 = [Value.type "object"] := by
  have e1 : (Value.ref C != Value.ref C) = false := by simp
  rw [List.dropWhile_cons, e1]
  rfl
theorem opq {Q : Option Str → Shared → Prop} (hst : h.get? cStatics = some ⟨.none, none, .dict #[] 0, #[]⟩) (hq : Q none ⟨h, g, d, t, os⟩) : wpAny M A (opaqueClassAbove (.ref C)) Q E ⟨h, g, d, t, os⟩ := by
  unfold opaqueClassAbove anyOpaqueLoaded
  refine wpAny_bind (wpAny_bind (ns_get hst rfl (wpAny_pure ?_)))
  exact wpAny_pure hq
theorem forin_conv {β : Type} {l l' : List Value} (e : l = l') {b : β} {f : Value → β → Sem (ForInStep β)} {Q : β → Shared → Prop} {s : Shared} (q : wpAny M A (forIn l' b f) Q E s) : wpAny M A (forIn l b f) Q E s := e ▸ q
theorem slot_cmg : Slot "classmethod_descriptor" "__get__" "classmethod_descriptor.__get__" :=
  .of (owner := "classmethod_descriptor") (n := "__get__") (by rw [typeLookup_type, builtinLookup_eq_fast]; kernel_rfl) (by decide +kernel) (by decide +kernel) (by decide +kernel)
    (by first | exact .inl (by decide +kernel) | exact .inr (by decide +kernel)) (by rw [isSubtype_type]; kernel_rfl)
theorem entry_cmg : entryFor table "classmethod_descriptor.__get__" = some Builtin.«classmethod_descriptor.__get__» := entryFor_of_tree (by kernel_rfl)
theorem args_cmg (a b c : Value) : argsOk "classmethod_descriptor.__get__" ⟨[a, b, c], []⟩ := by unfold argsOk; kernel_rfl
theorem self_obj {Q : Bool → Shared → Prop} (hC : h.get? C = some (kcls C NS hd sn sl)) (hq : Q true ⟨h, g, d, t, os⟩) : wpAny M A (isSubtype (.ref C) (.type "object")) Q E ⟨h, g, d, t, os⟩ := by
  unfold isSubtype
  repeat walk_at "st"
  have e : ([Value.ref C, Value.type "object"]).contains (Value.type "object") = true := by simp
  rw [← e] at hq
  exact hq
theorem cmd_get {Q : Value → Shared → Prop} (hC : h.get? C = some (kcls C NS hd sn sl))
    (hq : ∀ h', h'.get? h.objs.size = some { cls := .type "builtin_function_or_method", dict := none, data := .fields #[.builtin "object.__init_subclass__", .ref C], slots := #[] } → (∀ y o, h.get? y = some o → h'.get? y = some o) → Q (.ref h.objs.size) ⟨h', g, d, t, os⟩) :
    wpAny (model prog w) A (call (.builtin "classmethod_descriptor.__get__") [.builtin "object.__init_subclass__", .none, .ref C]) Q E ⟨h, g, d, t, os⟩ := by
  refine wpAny_call_entry slot_cmg type_is entry_cmg ?_ (args_cmg _ _ _)
  unfold Builtin.«classmethod_descriptor.__get__»
  have e0 : (".".intercalate ("object.__init_subclass__".cutAt '.').dropLast) = "object" := by kernel_rfl
  repeat (first | rw [e0] | (with_reducible refine ks_wpAny_isType_cls hC rfl ?_) | (with_reducible refine self_obj hC ?_) | walk_at "st")
  exact ⟨_, rfl, hq _ (Heap.get?_push_at rfl rfl) fun y o ey => Heap.get?_push_of_some _ ey⟩
theorem call_conv {f : Value} {l l' : List Value} (e : l = l') {Q : Value → Shared → Prop} {s : Shared} (q : wpAny M A (call f l') Q E s) : wpAny M A (call f l) Q E s := e ▸ q
theorem super_ga {so : Addr} {tn : Tok} {Q : Fin → Shared → Prop} (hC : h.get? C = some (kcls C NS hd sn sl)) (hst : h.get? cStatics = some ⟨.none, none, .dict #[] 0, #[]⟩)
    (hso : h.get? so = some { cls := .type "super", dict := none, data := .fields #[.ref C, .ref C, .ref C], slots := #[] })
    (hq : ∀ h', h'.get? h.objs.size = some { cls := .type "builtin_function_or_method", dict := none, data := .fields #[.builtin "object.__init_subclass__", .ref C], slots := #[] } → (∀ y o, h.get? y = some o → h'.get? y = some o) → Q (.done (.ret (.ref h.objs.size))) ⟨h', g, d, t, os⟩) :
    wpAny (model prog w) A (Builtin.«super.__getattribute__» ⟨[.ref so, .str (Str.ofString "__init_subclass__") tn], []⟩) Q E ⟨h, g, d, t, os⟩ := by
  unfold Builtin.«super.__getattribute__»
  have e5 : (Str.ofString "__init_subclass__" == Str.ofString "__class__") = false := by kernel_rfl
  have e6 : (Value.ref C == Value.none) = false := by rfl
  have e7 : (Value.ref C == Value.type "module") = false := by rfl
  have e8 : (Value.ref C == Value.ref C) = true := by simp
  repeat (first | ((with_reducible show wpAny _ _ (call (.builtin "classmethod_descriptor.__get__") _) _ _ _); refine call_conv (l' := [.builtin "object.__init_subclass__", .none, .ref C]) (by show [_, if (Value.ref C == Value.ref C) = true then _ else _, _] = _; rw [if_pos e8]; rfl) ?_; refine cmd_get hC ?_; intro h' q1 q2) | with_reducible refine opq hst ?_ | ((with_reducible show wpAny _ _ (forIn (List.drop _ _) _ _) _ _ _); refine forin_conv (drop_cc C) ?_) | with_reducible refine wpAny_of_eq own_is ?_ | with_reducible refine wpAny_of_eq type_is ?_ | with_reducible refine wpAny_of_eq get_cmd ?_ | walk_at "st")
  exact hq _ q1 q2
end
end
section
open PySem PySem.W PySem.W.X PyProof.Rows PySem.Calls
set_option maxRecDepth 100000
set_option maxHeartbeats 4000000
section
variable {prog : Program} {w : World} {M : Model} {A : Around} {E : Value → Shared → Prop} {h₀ h : Heap} {g : Array GenState} {d : Drawn} {t : Nat} {os : OsState} {C NS : Addr} {hd : Bool} {sn : List Str} {sl : Array (Option Value)}
theorem super_attr {so : Addr} {Q : Value → Shared → Prop} (hC : h.get? C = some (kcls C NS hd sn sl)) (hst : h.get? cStatics = some ⟨.none, none, .dict #[] 0, #[]⟩)
    (hso : h.get? so = some { cls := .type "super", dict := none, data := .fields #[.ref C, .ref C, .ref C], slots := #[] })
    (hq : ∀ h', h'.get? h.objs.size = some { cls := .type "builtin_function_or_method", dict := none, data := .fields #[.builtin "object.__init_subclass__", .ref C], slots := #[] } → (∀ y o, h.get? y = some o → h'.get? y = some o) → Q (.ref h.objs.size) ⟨h', g, d, t + 1, os⟩) :
    wpAny (model prog w) A (getAttr (.ref so) (Str.ofString "__init_subclass__")) Q E ⟨h, g, d, t, os⟩ := by
  have hlk := F.ks_slot_super_ga.lookup
  have hT : ∀ t', (⟨h, g, d, t', os⟩ : Shared).TypeIs (.ref so) "super" := fun _ => ⟨_, hso, rfl⟩
  unfold getAttr getAttrBy
  refine wpAny_bind (wpAny_mkText (wpAny_holding (wpAny_bind (wpAny_typeOf (hT _) (wpAny_bind (wpAny_of_eq hlk ?_))))))
  show wpAny _ _ (getAttrByItsOwn (.ref so) (.str _ t) (.type "super") (.builtin "super.__getattribute__") true false) _ _ _
  unfold getAttrByItsOwn hookBefore callGetattribute boundAndCalled
  refine wpAny_bind (wpAny_of_eq (show (if onTheHeap (.type "super") then typeLookup (.type "super") "__getattr__" else pure none) = pure none from rfl) ?_)
  refine wpAny_bind (wpAny_attempt (wpAny_holding ?_))
  show wpAny _ _ (bindSpecial (.builtin "super.__getattribute__") (.ref so) >>= _) _ _ _
  refine wpAny_bind (wpAny_of_eq (F.ks_slot_super_ga.bind _) ?_)
  refine wpAny_mono (Q := fun v s' => v = .ref h.objs.size ∧ ∃ h', s' = ⟨h', g, d, t + 1, os⟩ ∧ h'.get? h.objs.size = some { cls := .type "builtin_function_or_method", dict := none, data := .fields #[.builtin "object.__init_subclass__", .ref C], slots := #[] } ∧ (∀ y o, h.get? y = some o → h'.get? y = some o)) (E := fun _ _ => False)
    (wpAny_call_entry F.ks_slot_super_ga (hT _) F.ks_entry_super_ga (super_ga hC hst hso fun h' q1 q2 => ⟨_, rfl, rfl, h', rfl, q1, q2⟩) (F.ks_gaArgs_super _ _)) (fun v s' hv => ?_) fun _ _ z => z.elim
  obtain ⟨rfl, h', rfl, q1, q2⟩ := hv
  exact wpAny_pure (hq h' q1 q2)
theorem st_tm : isSubtype (.type "type") (.type "module") = pure false := by rw [isSubtype_type]; kernel_rfl
theorem entry_isc : entryFor table "object.__init_subclass__" = some Builtin.«object.__init_subclass__» := entryFor_of_tree (by kernel_rfl)
theorem call_isc {b : Addr} {Q : Value → Shared → Prop} (hb : h.get? b = some { cls := .type "builtin_function_or_method", dict := none, data := .fields #[.builtin "object.__init_subclass__", .ref C], slots := #[] })
    (hC : h.get? C = some (kcls C NS hd sn sl)) (hq : Q .none ⟨h, g, d, t, os⟩) : wpAny (model prog w) A (call (.ref b) []) Q E ⟨h, g, d, t, os⟩ := by
  refine wpAny_call (codeAny_of_tree ?_)
  show wpAny _ _ (callAny (.ref b) _) _ _ _
  unfold callAny
  have e1 : Manifest.varargsMethods.contains "object.__init_subclass__" = false := by kernel_rfl
  repeat (first | ((with_reducible show wpAny _ _ (isSubtype _ (.type "module")) _ _ _); refine wpAny_of_eq st_tm ?_) | (with_reducible refine ks_wpAny_isType_cls hC rfl ?_) | walk_at "st")
  refine ⟨Code.quiet_builtin _ (by decide +kernel), codeAny_builtin entry_isc ?_⟩
  unfold Builtin.«object.__init_subclass__»
  repeat walk_at "st"
  exact hq
end
end
section
open PySem PySem.W PySem.W.X PyProof.Rows PySem.Calls
set_option maxRecDepth 100000
set_option maxHeartbeats 4000000
local macro_rules | `(tactic| walk_at "tm") => `(tactic| first
  | with_reducible (first | refine wpAny_pure ?_ | refine wpAny_bind ?_ | refine wpAny_holding ?_ | refine wpAny_standAt ?_ | refine wpAny_point ?_ | refine wpAny_rule ?_)
  | with_reducible refine wpAny_of_eq st_tuple ?_ | with_reducible refine wpAny_of_eq st_dict ?_ | with_reducible refine wpAny_of_eq st_type ?_ | with_reducible refine wpAny_of_eq mro_obj ?_
  | with_reducible refine wpAny_of_eq dict_iter ?_ | with_reducible refine wpAny_of_eq type_obj ?_
  | ((with_reducible show wpAny _ _ (isSubtype (.type "object") _) _ _ _); refine wpAny_of_eq st_obj ?_)
  | ((with_reducible show wpAny _ _ (Builtin.notOverATurnedClass _) _ _ _); refine wpAny_of_eq turned_obj ?_)
  | ((with_reducible show wpAny _ _ (Builtin.extendedBase _) _ _ _); refine wpAny_of_eq ext_obj ?_)
  | ((with_reducible show wpAny _ _ (Builtin.Slots.bestBase _) _ _ _); refine wpAny_of_eq best_obj ?_)
  | ((with_reducible show wpAny _ _ (Builtin.linearize _ _) _ _ _); refine wpAny_of_eq lin_obj ?_)
  | ((with_reducible show wpAny _ _ (Builtin.mroHook? _) _ _ _); refine wpAny_of_eq hook_type ?_)
  | ((with_reducible show wpAny _ _ (Builtin.Slots.slotNamesOf _) _ _ _); refine wpAny_of_eq slotn_obj ?_)
  | ((with_reducible show wpAny _ _ (Builtin.Slots.givesDict _) _ _ _); refine wpAny_of_eq gd_obj ?_)
  | ((with_reducible show wpAny _ _ (Builtin.Slots.givesWeak _) _ _ _); refine wpAny_of_eq gw_obj ?_)
  | ((with_reducible show wpAny _ _ (Builtin.Slots.varSize _) _ _ _); refine wpAny_of_eq vs_obj ?_)
  | ((with_reducible show wpAny _ _ (nsGet _ _) _ _ _); first | refine ns_get (Mem.at (by assumption) 0 _ _ rfl) (by rfl) ?_ | refine ns_get (Mem.at (by assumption) 1 _ _ rfl) (by rfl) ?_ | refine ns_get (Mem.at (by assumption) 2 _ _ rfl) (by rfl) ?_ | refine ns_get (Mem.at (by assumption) 3 _ _ rfl) (by rfl) ?_)
  | ((with_reducible show wpAny _ _ (alloc _) _ _ _); refine m_alloc (by assumption) rfl ?_; intro a' h' D')
  | ((with_reducible show wpAny _ _ (load _) _ _ _); first | refine m_load (by assumption) 0 rfl ?_ | refine m_load (by assumption) 1 rfl ?_ | refine m_load (by assumption) 2 rfl ?_ | refine m_load (by assumption) 3 rfl ?_)
  | ((with_reducible show wpAny _ _ (loadPart _ _) _ _ _); first | refine m_loadPart (by assumption) 0 rfl ?_ | refine m_loadPart (by assumption) 1 rfl ?_ | refine m_loadPart (by assumption) 2 rfl ?_ | refine m_loadPart (by assumption) 3 rfl ?_)
  | ((with_reducible show wpAny _ _ (update _ _) _ _ _); (first | refine m_update (by assumption) 0 rfl rfl rfl ?_ | refine m_update (by assumption) 1 rfl rfl rfl ?_ | refine m_update (by assumption) 2 rfl rfl rfl ?_ | refine m_update (by assumption) 3 rfl rfl rfl ?_); intro h' D'; (try dsimp only [List.set] at D'))
  | ((with_reducible show wpAny _ _ (updatePart _ _ _) _ _ _); (first | refine m_updatePart (by assumption) 0 rfl rfl rfl ?_ | refine m_updatePart (by assumption) 1 rfl rfl rfl ?_ | refine m_updatePart (by assumption) 2 rfl rfl rfl ?_ | refine m_updatePart (by assumption) 3 rfl rfl rfl ?_); intro h' D'; (try dsimp only [List.set] at D'))
  | walk_at "st")
theorem filt (a : Addr) : List.filter (fun x => x != Value.ref a) [Value.ref a, Value.type "object"] = [Value.type "object"] := by
  have e1 : (Value.ref a != Value.ref a) = false := by simp
  have e2 : (Value.type "object" != Value.ref a) = true := by rfl
  rw [List.filter_cons, e1, List.filter_cons, e2]
  rfl
theorem made_obj : Bind.madeBy (.type "object") = pure (some "object.__new__") := by kernel_rfl
local macro_rules | `(tactic| walk_at "tk") => `(tactic| first
  | ((with_reducible show wpAny _ _ (List.anyM _ _) _ _ _); refine wpAny_of_eq (a := false) (by rw [filt]; kernel_rfl) ?_)
  | ((with_reducible show wpAny _ _ (Bind.madeBy _) _ _ _); refine wpAny_of_eq made_obj ?_)
  | ((with_reducible show wpAny _ _ (typeLookup (.ref _) _) _ _ _); unfold typeLookup)
  | walk_at "tm")
theorem sn_fun : typeLookup (.type "function") (Str.ofString "__set_name__") = pure none := by rw [typeLookup_type, builtinLookup_eq_fast]; kernel_rfl
theorem sn_tup : typeLookup (.type "tuple") (Str.ofString "__set_name__") = pure none := by rw [typeLookup_type, builtinLookup_eq_fast]; kernel_rfl
theorem sn_list : typeLookup (.type "list") (Str.ofString "__set_name__") = pure none := by rw [typeLookup_type, builtinLookup_eq_fast]; kernel_rfl
theorem sn_md : typeLookup (.type "member_descriptor") (Str.ofString "__set_name__") = pure none := by rw [typeLookup_type, builtinLookup_eq_fast]; kernel_rfl
theorem sn_str : typeLookup (.type "str") (Str.ofString "__set_name__") = pure none := by rw [typeLookup_type, builtinLookup_eq_fast]; kernel_rfl
theorem sn_int : typeLookup (.type "int") (Str.ofString "__set_name__") = pure none := by rw [typeLookup_type, builtinLookup_eq_fast]; kernel_rfl
theorem sn_none : typeLookup (.type "NoneType") (Str.ofString "__set_name__") = pure none := by rw [typeLookup_type, builtinLookup_eq_fast]; kernel_rfl
theorem all_cons {α : Type} {p : α → Prop} {a : α} {l : List α} (h : p a) (t : ∀ x ∈ l, p x) : ∀ x ∈ a :: l, p x := fun x hx => by
  rcases List.mem_cons.mp hx with rfl | q
  · exact h
  · exact t x q
theorem tnew {prog : Program} {w : World} {A : Around} {E : Value → Shared → Prop} {h : Heap} {g : Array GenState} {d : Drawn} {tk : Nat} {os : OsState} {Q : Fin → Shared → Prop} {B N : Addr} {t0 : Tok}
  {h1 h2 h3 h4 h5 h6 h7 h8 h9 h10 h11 h12 : Int} {t1 t2 t3 t4 t5 t6 t7 t8 t9 t10 t11 t12 : Tok} {q1 q2 q3 : Tok} {f0 f1 f2 f3 f4 f5 S St : Addr} {eB eN : Nat}
  {qS : Tok} {eS : Nat} (hS : h.get? S = some ⟨.type "list", none, .seq #[.str (Str.ofString "obj") qS] eS, #[]⟩)
  (hNs : (N == sysModules) = false)
  (hB : h.get? B = some ⟨.type "tuple", none, .seq #[.type "object"] eB, #[]⟩)
  (hN : h.get? N = some ⟨.type "dict", none, .dict (ents h1 h2 h3 h4 h5 h6 h7 h8 h9 h10 h11 h12 t1 t2 t3 t4 t5 t6 t7 t8 t9 t10 t11 t12 q1 q2 q3 f0 f1 f2 f3 f4 f5 S St) eN, #[]⟩)
  (hf0 : ∃ o, h.get? f0 = some o ∧ o.cls = .type "function") (hf1 : ∃ o, h.get? f1 = some o ∧ o.cls = .type "function") (hf2 : ∃ o, h.get? f2 = some o ∧ o.cls = .type "function") (hf3 : ∃ o, h.get? f3 = some o ∧ o.cls = .type "function") (hf4 : ∃ o, h.get? f4 = some o ∧ o.cls = .type "function") (hf5 : ∃ o, h.get? f5 = some o ∧ o.cls = .type "function") (hSt : ∃ o, h.get? St = some o ∧ o.cls = .type "tuple") (hst : h.get? cStatics = some ⟨.none, none, .dict #[] 0, #[]⟩)
  (hQ : ∀ h' tk' C NS X L sp bm ho hd tx to td oL, Mem h h' [] ((bm, { cls := .type "builtin_function_or_method", dict := none, data := .fields #[.builtin "object.__init_subclass__", .ref C], slots := #[] }) :: (sp, { cls := .type "super", dict := none, data := .fields #[.ref C, .ref C, .ref C], slots := #[] }) ::
     (X, mdesc C tx) :: (C, kcls C NS false [Str.ofString "obj"] (ksl5 B t0 q2)) :: (NS, dobj (ents3 h1 h3 h4 h5 h6 h7 h8 h9 h10 h11 h12 ho hd t1 t3 t4 t5 t6 t7 t8 t9 t10 t11 t12 q1 q3 to td f0 f1 f2 f3 f4 f5 S St X) 3) :: (L, oL) :: []) → Q (.done (.ret (.ref C))) ⟨h', g, d, tk', os⟩) :
    wpAny (model prog w) A (Builtin.«type.__new__» ⟨[.type "type", .str (Str.ofString "K") t0, .ref B, .ref N], []⟩) Q E ⟨h, g, d, tk, os⟩ := by
  have D := Mem.start h
  unfold Builtin.«type.__new__»
  have em : (ents h1 h2 h3 h4 h5 h6 h7 h8 h9 h10 h11 h12 t1 t2 t3 t4 t5 t6 t7 t8 t9 t10 t11 t12 q1 q2 q3 f0 f1 f2 f3 f4 f5 S St).isEmpty = false := by kernel_rfl
  have ed : (ents h1 h2 h3 h4 h5 h6 h7 h8 h9 h10 h11 h12 t1 t2 t3 t4 t5 t6 t7 t8 t9 t10 t11 t12 q1 q2 q3 f0 f1 f2 f3 f4 f5 S St).any (·.key.isStr (Str.ofString "__module__")) = true := by kernel_rfl
  have c1 : ((Str.ofString "K").cps.any fun c => decide (55296 ≤ c) && decide (c ≤ 57343)) = false := by kernel_rfl
  have c2 : ((Str.ofString "K").cps.contains 0) = false := by kernel_rfl
  repeat (first | ((with_reducible show wpAny _ _ (Builtin.Slots.read _ _ _) _ _ _); refine sread D hS ?_; intro a' h' D') | rw [c2] | walk_at "tm")
  iterate 14 (walk_at "tk")
  rename_i NS g6 G6 C g5 G5 g4 G4 g3 G3 g2 G2 g1 G1 g0 G0
  have D1 := mem_eq (l' := (C, kcls C NS true [] (ksl3 B t0 q2)) :: (NS, dobj (ents2 h1 h3 h4 h5 h6 h7 h8 h9 h10 h11 h12 t1 t3 t4 t5 t6 t7 t8 t9 t10 t11 t12 q1 q3 f0 f1 f2 f3 f4 f5 S St) 1) :: (a', seqObj "list" #[Value.str (Str.ofString "obj") qS] 1) :: []) G0 (by kernel_rfl)
  clear G6 G5 G4 G3 G2 G1 G0 D' g6 g5 g4 g3 g2 g1
  refine wpAny_bind (m_setSlot D1 0 rfl (by rw [sizeLine_eq]; lia) (o' := kcls C NS true [] (ksl4 B t0 q2)) (by kernel_rfl) rfl ?_)
  intro k2 D2
  clear D1
  refine wpAny_bind (refresh D2 (by kernel_rfl) ?_)
  refine wpAny_bind (installK D2 (by kernel_rfl) (by kernel_rfl) (fun _ => by rw [sizeLine_eq]; exact Nat.le_of_ble_eq_true (by kernel_rfl)) ?_)
  intro k3 X hs tk3 D3
  clear D2
  have D4 := mem_eq (l' := (X, mdesc C tk) :: (C, kcls C NS false [Str.ofString "obj"] (ksl4 B t0 q2)) :: (NS, dobj (ents2o h1 h3 h4 h5 h6 h7 h8 h9 h10 h11 h12 hs t1 t3 t4 t5 t6 t7 t8 t9 t10 t11 t12 q1 q3 (tk+1) f0 f1 f2 f3 f4 f5 S St X) 2) :: (a', seqObj "list" #[Value.str (Str.ofString "obj") qS] 1) :: []) D3 (by kernel_rfl)
  clear D3
  refine wpAny_bind (wpAny_of_eq gw_obj ?_)
  refine wpAny_bind (m_setSlot D4 1 rfl (by rw [sizeLine_eq]; lia) (o' := kcls C NS false [Str.ofString "obj"] (ksl5 B t0 q2)) (by kernel_rfl) rfl ?_)
  intro k5 D5
  clear D4
  iterate 4 (walk_at "tk")
  refine wpAny_bind (m_nsSet D5 2 rfl (by kernel_rfl) ?_)
  intro k6 hd D6'
  have D6 := mem_eq (l' := (X, mdesc C tk) :: (C, kcls C NS false [Str.ofString "obj"] (ksl5 B t0 q2)) :: (NS, dobj (ents3 h1 h3 h4 h5 h6 h7 h8 h9 h10 h11 h12 hs hd t1 t3 t4 t5 t6 t7 t8 t9 t10 t11 t12 q1 q3 (tk+1) tk3 f0 f1 f2 f3 f4 f5 S St X) 3) :: (a', seqObj "list" #[Value.str (Str.ofString "obj") qS] 1) :: []) D6' (by kernel_rfl)
  clear D6' D5
  iterate 8 (walk_at "tk")
  refine wpAny_of_eq (a := PUnit.unit) (by kernel_rfl) ?_
  refine wpAny_bind (wpAny_tryCatch (wpAny_holding ?_))
  refine wpAny_bind (wpAny_dictEntries (D6.at 2 _ _ rfl) rfl ?_)
  refine wpAny_bind (wpAny_of_eq (a := false) (by kernel_rfl) ?_)
  have kk := Mem.keepAll D6
  have T0 : (⟨k6, g, d, tk3 + 1, os⟩ : Shared).TypeIs (.ref f0) "function" := by obtain ⟨o, q, r⟩ := hf0; exact ⟨o, kk _ _ q, r⟩
  have T1 : (⟨k6, g, d, tk3 + 1, os⟩ : Shared).TypeIs (.ref f1) "function" := by obtain ⟨o, q, r⟩ := hf1; exact ⟨o, kk _ _ q, r⟩
  have T2 : (⟨k6, g, d, tk3 + 1, os⟩ : Shared).TypeIs (.ref f2) "function" := by obtain ⟨o, q, r⟩ := hf2; exact ⟨o, kk _ _ q, r⟩
  have T3 : (⟨k6, g, d, tk3 + 1, os⟩ : Shared).TypeIs (.ref f3) "function" := by obtain ⟨o, q, r⟩ := hf3; exact ⟨o, kk _ _ q, r⟩
  have T4 : (⟨k6, g, d, tk3 + 1, os⟩ : Shared).TypeIs (.ref f4) "function" := by obtain ⟨o, q, r⟩ := hf4; exact ⟨o, kk _ _ q, r⟩
  have T5 : (⟨k6, g, d, tk3 + 1, os⟩ : Shared).TypeIs (.ref f5) "function" := by obtain ⟨o, q, r⟩ := hf5; exact ⟨o, kk _ _ q, r⟩
  have T6 : (⟨k6, g, d, tk3 + 1, os⟩ : Shared).TypeIs (.ref St) "tuple" := by obtain ⟨o, q, r⟩ := hSt; exact ⟨o, kk _ _ q, r⟩
  have T7 : (⟨k6, g, d, tk3 + 1, os⟩ : Shared).TypeIs (.ref S) "list" := ⟨_, kk _ _ hS, rfl⟩
  have T8 : (⟨k6, g, d, tk3 + 1, os⟩ : Shared).TypeIs (.ref X) "member_descriptor" := ⟨_, D6.at 0 _ _ rfl, rfl⟩
  have hl : ∀ e ∈ (ents3 h1 h3 h4 h5 h6 h7 h8 h9 h10 h11 h12 hs hd t1 t3 t4 t5 t6 t7 t8 t9 t10 t11 t12 q1 q3 (tk+1) tk3 f0 f1 f2 f3 f4 f5 S St X).toList, Builtin.laidUnderItsOwnName e.key e.val = false := by
    exact all_cons rfl (all_cons rfl (all_cons rfl (all_cons rfl (all_cons rfl (all_cons rfl (all_cons rfl (all_cons rfl (all_cons rfl (all_cons rfl (all_cons rfl (all_cons rfl (all_cons rfl (fun _ h => nomatch h)))))))))))))
  have hsp : ∀ e ∈ (ents3 h1 h3 h4 h5 h6 h7 h8 h9 h10 h11 h12 hs hd t1 t3 t4 t5 t6 t7 t8 t9 t10 t11 t12 q1 q3 (tk+1) tk3 f0 f1 f2 f3 f4 f5 S St X).toList, ∀ (A' : Around) (E' : Value → Shared → Prop) (Q'' : Option Value → Shared → Prop), Q'' none ⟨k6, g, d, tk3 + 1, os⟩ → wpAny (model prog w) A' (specialOf e.val (Str.ofString "__set_name__")) Q'' E' ⟨k6, g, d, tk3 + 1, os⟩ := by
    refine all_cons ?_ (all_cons ?_ (all_cons ?_ (all_cons ?_ (all_cons ?_ (all_cons ?_ (all_cons ?_ (all_cons ?_ (all_cons ?_ (all_cons ?_ (all_cons ?_ (all_cons ?_ (all_cons ?_ (fun _ h => nomatch h)))))))))))))
    all_goals (
      intro A' E' Q'' hQ'
      first
        | exact wpAny_specialOf T0 sn_fun hQ' | exact wpAny_specialOf T1 sn_fun hQ' | exact wpAny_specialOf T2 sn_fun hQ' | exact wpAny_specialOf T3 sn_fun hQ' | exact wpAny_specialOf T4 sn_fun hQ' | exact wpAny_specialOf T5 sn_fun hQ'
        | exact wpAny_specialOf T6 sn_tup hQ' | exact wpAny_specialOf T7 sn_list hQ' | exact wpAny_specialOf T8 sn_md hQ'
        | exact wpAny_specialOf_val (T := "str") rfl sn_str hQ' | exact wpAny_specialOf_val (T := "int") rfl sn_int hQ' | exact wpAny_specialOf_val (T := "NoneType") rfl sn_none hQ')
  iterate 1 (walk_at "tk")
  refine wpAny_bind (wpAny_dictEntries (D6.at 2 _ _ rfl) rfl ?_)
  refine wpAny_bind (forin_each (es := (ents3 h1 h3 h4 h5 h6 h7 h8 h9 h10 h11 h12 hs hd t1 t3 t4 t5 t6 t7 t8 t9 t10 t11 t12 q1 q3 (tk+1) tk3 f0 f1 f2 f3 f4 f5 S St X).toList) ?_ ?_)
  · intro e he Q' hQ'
    rw [if_neg (by rw [hl e he]; exact Bool.false_ne_true)]
    refine wpAny_bind ?_
    exact hsp e he _ _ _ (wpAny_pure hQ')
  have hC6 := D6.at 1 _ _ rfl
  have hst6 := kk _ _ hst
  refine wpAny_bind (call_super_cc hC6 fun k7 e7 u7 => ?_)
  have D7 := Mem.more D6 u7 e7
  refine wpAny_bind (wpAny_holding (super_attr (u7 _ _ hC6) (u7 _ _ hst6) e7 fun k8 e8 u8 => ?_))
  have D8 := Mem.more D7 u8 e8
  refine wpAny_bind (call_isc e8 (u8 _ _ (u7 _ _ hC6)) ?_)
  refine wpAny_pure ?_
  exact wpAny_pure (hQ _ _ _ _ _ _ _ _ _ _ _ _ _ _ D8)
end
section
open PySem PySem.W PySem.W.X PyProof.Rows PySem.Calls
set_option maxRecDepth 100000
set_option maxHeartbeats 4000000
section
variable {prog : Program} {w : World} {M : Model} {A : Around} {E : Value → Shared → Prop} {h₀ h : Heap} {g : Array GenState} {d : Drawn} {t : Nat} {os : OsState} {C NS : Addr} {hd : Bool} {sn : List Str} {sl : Array (Option Value)}
theorem mro_type : mroOf (.type "type") = pure [.type "type", .type "object"] := by rw [mroOf_type]; kernel_rfl
theorem made_type : Bind.madeBy (.type "type") = pure (some "type.__new__") := by kernel_rfl
theorem ctc_type (a b c : Value) : checkTypeCall "type" ⟨[a, b, c], []⟩ = pure () := by kernel_rfl
theorem cbc_type (a b c : Value) : checkBuiltinCall "type.__new__" ⟨[.type "type", a, b, c], []⟩ = pure () := by kernel_rfl
theorem entry_tnew : entryFor table "type.__new__" = some Builtin.«type.__new__» := entryFor_of_tree (by kernel_rfl)
theorem entry_tinit : entryFor table "type.__init__" = some Builtin.«type.__init__» := entryFor_of_tree (by kernel_rfl)
theorem slot_tinit : Slot "type" "__init__" "type.__init__" :=
  .of (owner := "type") (n := "__init__") (by rw [typeLookup_type, builtinLookup_eq_fast]; kernel_rfl) (by decide +kernel) (by decide +kernel) (by decide +kernel)
    (by first | exact .inl (by decide +kernel) | exact .inr (by decide +kernel)) (by rw [isSubtype_type]; kernel_rfl)
theorem args_tinit (o a b c : Value) : argsOk "type.__init__" ⟨[o, a, b, c], []⟩ := by unfold argsOk; kernel_rfl
theorem call_type3 {s : Shared} {x : Str} {tx : Tok} {B N : Addr} {P : Addr → Shared → Prop} {Q : Value → Shared → Prop}
    (hnew : ∀ {A : Around} {E : Value → Shared → Prop} {Q : Fin → Shared → Prop}, (∀ C s', P C s' → Q (.done (.ret (.ref C))) s') → wpAny (model prog w) A (Builtin.«type.__new__» ⟨[.type "type", .str x tx, .ref B, .ref N], []⟩) Q E s)
    (hP : ∀ C s', P C s' → ∃ o, s'.heap.get? C = some o ∧ o.cls = .type "type") (hQ : ∀ C s', P C s' → Q (.ref C) s') :
    wpAny (model prog w) A (call (.type "type") [.str x tx, .ref B, .ref N]) Q E s := by
  refine wpAny_call (codeAny_of_tree ?_)
  show wpAny _ _ (callAny (.type "type") _) _ _ _
  refine wpAny_pure ⟨Code.quiet_builtin _ (by decide +kernel), codeAny_builtin F.entry_type_call ?_⟩
  rw [Around.under_plain (weight_type_call_type "type" _ []) rfl]
  unfold Builtin.«type.__call__»
  repeat (first | (with_reducible refine wpAny_of_eq mro_type ?_) | (with_reducible refine wpAny_of_eq made_type ?_) | ((with_reducible show wpAny _ _ (checkTypeCall _ _) _ _ _); refine wpAny_of_eq (ctc_type _ _ _) ?_) | walk_at "st")
  refine codeAny_call_builtin_at (Code.quiet_builtin _ (by decide +kernel)) entry_tnew (wpAny_of_eq (cbc_type _ _ _) (hnew fun C s' hC => ?_))
  obtain ⟨o, q1, q2⟩ := hP C s' hC
  have hT : s'.TypeIs (.ref C) "type" := ⟨o, q1, q2⟩
  have hst := st_type
  have hli := slot_tinit.lookup
  have hbi := slot_tinit.bind (.ref C)
  obtain ⟨hp', g', d', tk', os'⟩ := s'
  show wpAny _ _ _ _ _ _
  repeat (any_goals (first | assumption | walk_at "st"))
  refine codeAny_call_builtin slot_tinit.plain entry_tinit (slot_tinit.check _ _ _ _ _ _ _ _ hT (args_tinit _ _ _ _) ?_)
  unfold Builtin.«type.__init__»
  repeat walk_at "st"
  exact hQ C _ hC
end
end
section
open PySem PySem.W PySem.W.X PyProof.Rows PySem.Calls
set_option maxRecDepth 100000
set_option maxHeartbeats 4000000
section
variable {M : Model} {A : Around} {E : Value → Shared → Prop} {s : Shared}
theorem codeRec_but {h h' : Heap} {a c : Addr} {q : Str} (x : h.CodeRec (.ref c) q) (k : Heap.ExtBut a h h') (hn : c ≠ a) : h'.CodeRec (.ref c) q := by
  obtain ⟨c₂, o, vs, t, e, g, r⟩ := x
  cases e
  exact ⟨_, o, vs, t, rfl, k _ _ hn g, r⟩
theorem class_code {env : Env} {c P : Addr} {ps : Array Value} {pos : Pos} {fl : Nat} {name qual : Str} {scope : Scope} {Q : Value → Shared → Prop}
    (hc : env.code = .ref c) (hok : s.heap.IsCode c P ps) (hnf : codeAmong pos ps.toList = none)
    (hQ : ∀ c' P' h' tk, Heap.ExtBut P s.heap h' → s.heap.objs.size ≤ c' → s.heap.objs.size ≤ P' → h'.IsCode c' P' #[] → (∀ ps0, s.heap.get? P = some (tabObj ps0) → ∃ qs, h'.get? P = some (tabObj qs)) → Q (.ref c') { s with heap := h', toks := tk }) :
    wpAny M A (classCode env pos fl name qual scope) Q E s := by
  obtain ⟨o, vs, file, tf, flags, tg, inF, text, tt, op, ho, hd, i11, i18, i7, i9, i10, hop, hpd, htr, hne⟩ := hok
  unfold classCode codeAt
  rw [hc, if_neg (show ¬ ((Value.ref c == Value.none) = true) from Bool.false_ne_true)]
  refine wpAny_bind (wpAny_fieldsOf ho hd ?_)
  rw [i11]
  refine wpAny_bind (wpAny_fieldsOf hop hpd ?_)
  rw [hnf, i18, i7, i9, i10]
  refine wpAny_bind (wpAny_newCode fun c' P' h' tk k lc lP ok _ => ?_)
  have hop' := k _ _ hop
  have lt := Heap.lt_size hop
  have n1 : c' ≠ P := Nat.ne_of_gt (Nat.lt_of_lt_of_le lt lc)
  have n2 : P' ≠ P := Nat.ne_of_gt (Nat.lt_of_lt_of_le lt lP)
  refine wpAny_bind (wpAny_updateFieldsOfTheText hop' hpd ?_)
  have hnew : (Obj.mapFields (fun vs => if (codeAmong pos vs.toList).isSome = true then vs else vs ++ #[rawInt pos.line, rawInt pos.col, .ref c']) op).data = .fields (ps ++ #[rawInt pos.line, rawInt pos.col, .ref c']) := by
    rw [Obj.data_mapFields hpd, hnf]; rfl
  refine wpAny_bind (wpAny_fieldsOf (Heap.get?_update_self (h := h') _ hop' (Obj.isFreed_of_fields hnew)) hnew ?_)
  rw [show (ps ++ #[rawInt pos.line, rawInt pos.col, Value.ref c']).toList = ps.toList ++ [rawInt pos.line, rawInt pos.col, .ref c'] from by simp, codeAmong_snoc _ htr hnf]
  exact wpAny_pure (hQ _ P' _ _ (fun b o' hb e => (Heap.SameBut.update ..).extBut b o' hb (k b o' e)) lc lP (ok.extBut (Heap.SameBut.update ..).extBut n1 n2) fun ps0 e => by
    rw [hop] at e; cases e
    exact ⟨_, Heap.get?_update_self (h := h') _ hop' rfl⟩)
abbrev fdK (name qual : Str) (params : Arguments) (body : List Stmt) (scope : Scope) (cl : List (Str × Addr)) (pm code ct : Value) : FuncData :=
  { name, qualname := qual, params, body := .stmts body, scope, globals := mainGlobals, closure := cl, defaults := .none, kwdefaults := .none, annotations := none, pyModule := pm, code, closureTuple := ct, doc := .none, builtins := builtinsNs }
theorem mkfun {env : Env} {name qual : Str} {params : Arguments} {body : List Stmt} {scope : Scope} {cl : List (Str × Addr)} {mg : Str → Option Value} {c P : Addr} {ps : Array Value} {pos : Pos} {fl : Nat} {Q : Value → Shared → Prop}
    (hkw : params.kwonlyargs = []) (hdoc : docOf body = none) (hcl : closureFor scope env = pure cl) (hgl : env.globals = mainGlobals) (hg : s.heap.Ns mainGlobals mg) (hcode : env.code = .ref c) (hok : s.heap.IsCode c P ps)
    (hnf : codeAmong pos ps.toList = none) (hgP : mainGlobals ≠ P) (hb : s.heap.BuiltinsAt mg P)
    (hQ : ∀ f c' ct h' tk, Heap.ExtBut P s.heap h' → s.heap.objs.size ≤ f → h'.IsCode c P (ps ++ #[rawInt pos.line, rawInt pos.col, .ref c']) → h'.CodeRec (.ref c') qual → s.heap.objs.size ≤ c' →
      h'.get? f = some { cls := .type "function", data := .func (fdK name qual params body scope cl ((mg "__name__").getD .none) (.ref c') ct) } → Q (.ref f) { s with heap := h', toks := tk }) :
    wpAny M A (makeFunction name qual params (.stmts body) scope env [] [] [] pos fl) Q E s := by
  have key : ∀ (ct : Value) (h₁ : Heap), (∀ b o, s.heap.get? b = some o → h₁.get? b = some o) → s.heap.objs.size ≤ h₁.objs.size →
      wpAny M A (do
        let fd : FuncData := { name, qualname := qual, params, body := .stmts body, scope, globals := env.globals, closure := cl, closureTuple := ct, code := ← functionCode env pos fl name qual params scope (.stmts body), builtins := ← builtinsFor env.globals env.builtins, defaults := .none, kwdefaults := .none, annotations := none, pyModule := (← nsGet env.globals "__name__").getD .none, doc := ← (match docOf body with | some s => mkText s | none => pure .none : Sem Value) }
        newObj (.type "function") (.func fd)) Q E { s with heap := h₁ } := by
    intro ct h₁ k hz
    refine wpAny_bind (wpAny_functionCodeN (s := { s with heap := h₁ }) hcode (hok.keeps k) hnf fun c' h' tk hx hge hlt hok' hrec htb => ?_)
    obtain ⟨bm, o, hbm, hne0, _, hneP, hbo, hcls, hdict, hdata⟩ := hb
    have hg' := (hg.keeps k).extBut hx hgP
    rw [hgl]
    refine wpAny_bind (wpAny_builtinsFor hg' hbm hne0 (hx _ _ hneP (k _ _ hbo)) hcls hdict hdata ?_)
    refine wpAny_bind (wpAny_nsGet hg' ?_)
    rw [hdoc]
    refine wpAny_bind (wpAny_pure (wpAny_newObj_type ?_ (by size_fits)))
    exact hQ _ c' ct _ _ (fun b o' hb' e => Heap.get?_push_of_some _ (hx b o' hb' (k b o' e))) (Nat.le_trans hz (Nat.le_trans hge (Nat.le_of_lt hlt))) (hok'.push _)
      (codeRec_but (a := h'.objs.size) hrec (fun b o' _ e => Heap.get?_push_of_some _ e) (Nat.ne_of_lt hlt)) (Nat.le_trans hz hge) (Heap.get?_push_size _ rfl)
  rw [makeFunction_eq, hkw]
  refine wpAny_bind (wpAny_pure (wpAny_bind (wpAny_pure (wpAny_bind (wpAny_pure ?_)))))
  unfold makeTail
  rw [hcl]
  refine wpAny_bind (wpAny_pure ?_)
  cases cl with
  | nil => exact wpAny_bind (wpAny_pure (key .none s.heap (fun _ _ e => e) (Nat.le_refl _)))
  | cons x xs =>
    refine wpAny_bind (wpAny_newTextTuple ?_)
    refine key _ _ (fun b o e => Heap.get?_push_of_some _ e) ?_
    rw [Heap.size_push]; lia
end
end
section
open PySem PySem.W PySem.W.X PyProof.Rows PySem.Calls
set_option maxRecDepth 100000
set_option maxHeartbeats 4000000
section
variable {M : Model} {A : Around} {E : Value → Shared → Prop} {s : Shared}
theorem cset {env : Env} {NS : Addr} {name : Str} {v : Value} {es : Array DictEntry} {ep : Nat} {Q : Unit → Shared → Prop} (hst : storeName env name v = localSet env name v) (hloc : env.locals = NS)
    (hNS : s.heap.get? NS = some (dobj es ep)) (hr : aRefKeyMayBeTheName name es = false)
    (hQ : ∀ hs h', Heap.ExtBut NS s.heap h' → h'.objs.size = s.heap.objs.size → h'.get? NS = some (Obj.putName name hs (.str name s.toks) v (dobj es ep)) → Q () { s with heap := h', toks := s.toks + 1 }) :
    wpAny M A (storeName env name v) Q E s := by
  rw [hst]
  unfold localSet
  rw [hloc]
  refine wpAny_bind (wpAny_load hNS ?_)
  rw [if_pos (show (((dobj es ep).cls == Value.type "dict") = true) from rfl)]
  unfold nsSet strHash
  refine wpAny_bind (wpAny_bind (wpAny_askSetting (wpAny_pure ?_)))
  refine wpAny_bind (wpAny_mkText ?_)
  refine wpAny_bind (wpAny_loadPart hNS ?_)
  dsimp only
  rw [hr]
  rw [if_neg Bool.false_ne_true]
  refine wpAny_updatePart (s := { s with toks := s.toks + 1 }) hNS ?_
  exact hQ _ _ (Heap.SameBut.update ..).extBut (Heap.size_after_update ..) (Heap.get?_update_self _ hNS put_nf)
theorem defc {env : Env} {name : Str} {params : Arguments} {body : List Stmt} {scope : Scope} {cl : List (Str × Addr)} {mg : Str → Option Value} {c P NS : Addr} {ps : Array Value} {pos : Pos} {es : Array DictEntry} {ep : Nat} {Q : Flow → Shared → Prop}
    (hst : ∀ v, storeName env name v = localSet env name v) (hloc : env.locals = NS) (hNS : s.heap.get? NS = some (dobj es ep)) (hr : aRefKeyMayBeTheName name es = false) (hd : params.defaults = []) (hkd : params.kw_defaults = []) (hann : annTrees params none env = [])
    (hkw : params.kwonlyargs = []) (hdoc : docOf body = none) (hcl : closureFor scope env = pure cl) (hgl : env.globals = mainGlobals) (hg : s.heap.Ns mainGlobals mg) (hcode : env.code = .ref c) (hok : s.heap.IsCode c P ps)
    (hnf : codeAmong pos ps.toList = none) (hgP : mainGlobals ≠ P) (hb : s.heap.BuiltinsAt mg P)
    (hQ : ∀ f c' ct h' tk hs t0, (∀ b o, b ≠ P → b ≠ NS → s.heap.get? b = some o → h'.get? b = some o) → s.heap.objs.size ≤ f → h'.IsCode c P (ps ++ #[rawInt pos.line, rawInt pos.col, .ref c']) → h'.CodeRec (.ref c') (qualnameIn env name name) → s.heap.objs.size ≤ c' → 
      h'.get? f = some { cls := .type "function", data := .func (fdK name (qualnameIn env name name) params body scope cl ((mg "__name__").getD .none) (.ref c') ct) } → h'.get? NS = some (Obj.putName name hs (.str name t0) (.ref f) (dobj es ep)) → Q .next { s with heap := h', toks := tk }) :
    wpAny M A (exec (.FunctionDef name params body [] none [] scope none name pos) env) Q E s := by
  have nP : NS ≠ P := by
    rintro rfl
    obtain ⟨o, vs, file, tf, flags, tg, inF, text, tt, op, ho, hd, i11, i18, i7, i9, i10, hop, hpd, htr, hne⟩ := hok
    rw [hNS] at hop; cases hop; cases hpd
  have nC : c ≠ NS := by
    rintro rfl
    obtain ⟨o, vs, file, tf, flags, tg, inF, text, tt, op, ho, hd, i11, i18, i7, i9, i10, hop, hpd, htr, hne⟩ := hok
    rw [hNS] at ho; cases ho; cases hd
  have lN := Heap.lt_size hNS
  rw [exec_def, defaultsOf_eq, hd, hkd, hann]
  refine wpAny_bind (wpAny_standAt (wpAny_bind (wpAny_holding ?_)))
  refine wpAny_bind (wpAny_pure ?_)
  refine wpAny_bind (wpAny_holding (wpAny_pure ?_))
  refine wpAny_holding ?_
  refine wpAny_bind (wpAny_pure ?_)
  refine mkfun hkw hdoc hcl hgl hg hcode hok hnf hgP hb fun f c' ct h' tk hx lf ok rec lc gf => ?_
  refine wpAny_bind (wpAny_standAt (wpAny_bind (wpAny_bindName ?_)))
  have hN' := hx _ _ nP hNS
  refine cset (s := { s with heap := h', toks := tk }) (hst _) hloc hN' hr fun hs h'' k hz g2 => ?_
  refine wpAny_pure (hQ f c' ct h'' _ hs _ (fun b o b1 b2 e => k b o b2 (hx b o b1 e)) lf (ok.extBut k nC (Ne.symm nP)) (codeRec_but rec k (Nat.ne_of_gt (Nat.lt_of_lt_of_le lN lc))) lc (k _ _ (Nat.ne_of_gt (Nat.lt_of_lt_of_le lN lf)) gf) g2)
end
end
section
open PySem PySem.W PySem.W.X PyProof.Rows PySem.Calls
set_option maxRecDepth 100000
set_option maxHeartbeats 4000000
structure FnAt (P NS : Addr) (h : Heap) (f : Addr) (name qual : Str) (ps : Arguments) (B : List Stmt) (S : Scope) (cl : List (Str × Addr)) (pm : Value) : Prop where
  it : ∃ c ct, h.get? f = some { cls := .type "function", data := .func (fdK name qual ps B S cl pm (.ref c) ct) } ∧ h.CodeRec (.ref c) qual ∧ f ≠ P ∧ f ≠ NS ∧ c ≠ P ∧ c ≠ NS
theorem FnAt.but {P NS : Addr} {h h' : Heap} {f : Addr} {name qual : Str} {ps : Arguments} {B : List Stmt} {S : Scope} {cl : List (Str × Addr)} {pm : Value} (x : FnAt P NS h f name qual ps B S cl pm)
    (k : ∀ y o, y ≠ P → y ≠ NS → h.get? y = some o → h'.get? y = some o) : FnAt P NS h' f name qual ps B S cl pm := by
  obtain ⟨c, ct, e, r, n1, n2, n3, n4⟩ := x
  obtain ⟨c₂, o, vs, t, e2, g, r2⟩ := r
  cases e2
  exact ⟨_, ct, k _ _ n1 n2 e, ⟨_, o, vs, t, rfl, k _ _ n3 n4 g, r2⟩, n1, n2, n3, n4⟩
structure CSt (h₁ h : Heap) (NS : Addr) (es : Array DictEntry) (ep : Nat) (c P : Addr) (ps : Array Value) : Prop where
  keep : ∀ b o, b ≠ 67 → h₁.get? b = some o → h.get? b = some o
  ns : h.get? NS = some (dobj es ep)
  nn : h₁.get? NS = none
  pn : h₁.get? P = none
  code : h.IsCode c P ps
  tab : (∃ o, h₁.get? 67 = some o) ∧ ∃ qs, h.get? 67 = some (tabObj qs)
theorem CSt.n67 {h₁ h : Heap} {NS c P : Addr} {es : Array DictEntry} {ep : Nat} {ps : Array Value} (K : CSt h₁ h NS es ep c P ps) : 67 ≠ NS ∧ 67 ≠ P := by
  obtain ⟨⟨o, e⟩, qs, g⟩ := K.tab
  constructor
  · rintro rfl; rw [K.ns] at g; cases g
  · rintro rfl; rw [K.pn] at e; cases e
section
variable {M : Model} {A : Around} {E : Value → Shared → Prop} {s : Shared} {h₁ : Heap} {env : Env} {NS c P : Addr} {es : Array DictEntry} {ep : Nat} {ps : Array Value} {mg : Str → Option Value}
theorem CSt.nP {h : Heap} (K : CSt h₁ h NS es ep c P ps) : NS ≠ P := by
  rintro rfl
  obtain ⟨o, vs, file, tf, flags, tg, inF, text, tt, op, ho, hd, i11, i18, i7, i9, i10, hop, hpd, htr, hne⟩ := K.code
  rw [K.ns] at hop; cases hop; cases hpd
theorem CSt.nC {h : Heap} (K : CSt h₁ h NS es ep c P ps) : c ≠ NS := by
  rintro rfl
  obtain ⟨o, vs, file, tf, flags, tg, inF, text, tt, op, ho, hd, i11, i18, i7, i9, i10, hop, hpd, htr, hne⟩ := K.code
  rw [K.ns] at ho; cases ho; cases hd
theorem cset2 {name : Str} {v : Value} {Q : Unit → Shared → Prop} (K : CSt h₁ s.heap NS es ep c P ps) (hst : storeName env name v = localSet env name v) (hloc : env.locals = NS)
    (hr : aRefKeyMayBeTheName name es = false)
    (hQ : ∀ hs h' es' ep', Obj.putName name hs (.str name s.toks) v (dobj es ep) = dobj es' ep' → (∀ y o, y ≠ P → y ≠ NS → s.heap.get? y = some o → h'.get? y = some o) → CSt h₁ h' NS es' ep' c P ps → Q () { s with heap := h', toks := s.toks + 1 }) :
    wpAny M A (storeName env name v) Q E s := by
  refine cset hst hloc K.ns hr fun hs h' k hz g => ?_
  have e : ∃ es' ep', Obj.putName name hs (.str name s.toks) v (dobj es ep) = dobj es' ep' := by
    unfold Obj.putName
    dsimp only
    split
    · exact ⟨_, _, rfl⟩
    · exact ⟨_, _, rfl⟩
  obtain ⟨es', ep', e⟩ := e
  refine hQ hs h' es' ep' e (fun y o _ n => k y o n) ⟨fun b o n q => k b o ?_ (K.keep b o n q), e ▸ g, K.nn, K.pn, K.code.extBut k K.nC (Ne.symm K.nP), K.tab.1, let ⟨qs, g⟩ := K.tab.2; ⟨qs, k _ _ K.n67.1 g⟩⟩
  rintro rfl; rw [K.nn] at q; cases q
theorem defc2 {name : Str} {params : Arguments} {body : List Stmt} {scope : Scope} {cl : List (Str × Addr)} {pos : Pos} {Q : Flow → Shared → Prop} (K : CSt h₁ s.heap NS es ep c P ps)
    (hst : ∀ v, storeName env name v = localSet env name v) (hloc : env.locals = NS) (hr : aRefKeyMayBeTheName name es = false) (hd : params.defaults = []) (hkd : params.kw_defaults = []) (hann : annTrees params none env = [])
    (hkw : params.kwonlyargs = []) (hdoc : docOf body = none) (hcl : closureFor scope env = pure cl) (hgl : env.globals = mainGlobals) (hg : h₁.Ns mainGlobals mg) (hcode : env.code = .ref c)
    (hnf : codeAmong pos ps.toList = none) (hb : h₁.BuiltinsAt mg 67)
    (hQ : ∀ f h' tk hs t0 es' ep' ps' c', Obj.putName name hs (.str name t0) (.ref f) (dobj es ep) = dobj es' ep' → ps' = ps ++ #[rawInt pos.line, rawInt pos.col, .ref c'] → (∀ y o, y ≠ P → y ≠ NS → s.heap.get? y = some o → h'.get? y = some o) → CSt h₁ h' NS es' ep' c P ps' →
      FnAt P NS h' f name (qualnameIn env name name) params body scope cl ((mg "__name__").getD .none) → Q .next { s with heap := h', toks := tk }) :
    wpAny M A (exec (.FunctionDef name params body [] none [] scope none name pos) env) Q E s := by
  have hk : ∀ b o, b ≠ 67 → h₁.get? b = some o → s.heap.get? b = some o := K.keep
  have hg' : s.heap.Ns mainGlobals mg := by
    obtain ⟨o, q, qp, e, r⟩ := hg
    exact ⟨o, q, qp, hk _ _ (by decide) e, r⟩
  have gP : mainGlobals ≠ P := by
    rintro rfl
    obtain ⟨o, q, qp, e, r⟩ := hg
    rw [K.pn] at e; cases e
  have hb' : s.heap.BuiltinsAt mg P := by
    obtain ⟨bm, o, b1, b2, b3, b4, b5, r⟩ := hb
    refine ⟨bm, o, b1, b2, b3, ?_, hk _ _ b4 b5, r⟩
    rintro rfl; rw [K.pn] at b5; cases b5
  have lN := Heap.lt_size K.ns
  have lP := K.code.lt.2
  refine defc hst hloc K.ns hr hd hkd hann hkw hdoc hcl hgl hg' hcode K.code hnf gP hb' fun f c' ct h' tk hs t0 k lf ok rec lc gf g2 => ?_
  have e : ∃ es' ep', Obj.putName name hs (.str name t0) (.ref f) (dobj es ep) = dobj es' ep' := by
    unfold Obj.putName
    dsimp only
    split
    · exact ⟨_, _, rfl⟩
    · exact ⟨_, _, rfl⟩
  obtain ⟨es', ep', e⟩ := e
  refine hQ f h' tk hs t0 es' ep' _ c' e rfl k ⟨fun b o n q => k b o ?_ ?_ (hk b o n q), e ▸ g2, K.nn, K.pn, ok, K.tab.1, let ⟨qs, g⟩ := K.tab.2; ⟨qs, k _ _ K.n67.2 K.n67.1 g⟩⟩
    ⟨c', ct, gf, rec, Nat.ne_of_gt (Nat.lt_of_lt_of_le lP lf), Nat.ne_of_gt (Nat.lt_of_lt_of_le lN lf), Nat.ne_of_gt (Nat.lt_of_lt_of_le lP lc), Nat.ne_of_gt (Nat.lt_of_lt_of_le lN lc)⟩
  · rintro rfl; rw [K.pn] at q; cases q
  · rintro rfl; rw [K.nn] at q; cases q
end
end
section
open PySem PySem.W PySem.W.X PyProof.Rows PySem.Calls
set_option maxRecDepth 100000
set_option maxHeartbeats 4000000
section
variable {M : Model} {A : Around} {E : Value → Shared → Prop} {h₁ : Heap} {env : Env} {NS c P : Addr} {mg : Str → Option Value}
theorem CSt.keeps {h h' : Heap} {es : Array DictEntry} {ep : Nat} {ps : Array Value} (K : CSt h₁ h NS es ep c P ps) (k : ∀ b o, h.get? b = some o → h'.get? b = some o) : CSt h₁ h' NS es ep c P ps :=
  ⟨fun b o n q => k _ _ (K.keep b o n q), k _ _ K.ns, K.nn, K.pn, K.code.keeps k, K.tab.1, let ⟨qs, g⟩ := K.tab.2; ⟨qs, k _ _ g⟩⟩
theorem dobj_inj {es es' : Array DictEntry} {n n' : Nat} (e : dobj es n = dobj es' n') : es = es' ∧ n = n' := by cases e; exact ⟨rfl, rfl⟩
theorem kbody {s : Shared} {h1 h2 h3 : Int} {t1 t2 t3 q2 q3 : Tok} {v1 : Value} {P0 : Arguments} {B0 : List Stmt} {S0 : Scope} {cl0 : List (Str × Addr)} {ps0 : Pos} {P1 : Arguments} {B1 : List Stmt} {S1 : Scope} {cl1 : List (Str × Addr)} {ps1 : Pos} {P2 : Arguments} {B2 : List Stmt} {S2 : Scope} {cl2 : List (Str × Addr)} {ps2 : Pos} {P3 : Arguments} {B3 : List Stmt} {S3 : Scope} {cl3 : List (Str × Addr)} {ps3 : Pos} {P4 : Arguments} {B4 : List Stmt} {S4 : Scope} {cl4 : List (Str × Addr)} {ps4 : Pos} {P5 : Arguments} {B5 : List Stmt} {S5 : Scope} {cl5 : List (Str × Addr)} {ps5 : Pos} {pa pb pc pd pe pf pg ph pi pa' : Pos} {ka kb kc : Nat} {Q : Flow → Shared → Prop}
    (K : CSt h₁ s.heap NS #[ent "__module__" h1 t1 v1, ent "__qualname__" h2 t2 (.str (Str.ofString "cmp_to_key.<locals>.K") q2), ent "__firstlineno__" h3 t3 (.int 62 q3)] 3 c P #[]) (hst : ∀ x ∈ [Str.ofString "__module__", Str.ofString "__slots__", Str.ofString "__init__", Str.ofString "__lt__", Str.ofString "__gt__", Str.ofString "__eq__", Str.ofString "__le__", Str.ofString "__ge__", Str.ofString "__hash__"], ∀ v, storeName env x v = localSet env x v) (hloc : env.locals = NS)
    (hgl : env.globals = mainGlobals) (hg : h₁.Ns mainGlobals mg) (hcode : env.code = .ref c) (hb : h₁.BuiltinsAt mg 67)
    (d0 : P0.defaults = [] ∧ P0.kw_defaults = [] ∧ annTrees P0 none env = [] ∧ P0.kwonlyargs = [] ∧ docOf B0 = none) (c0 : closureFor S0 env = pure cl0)
    (d1 : P1.defaults = [] ∧ P1.kw_defaults = [] ∧ annTrees P1 none env = [] ∧ P1.kwonlyargs = [] ∧ docOf B1 = none) (c1 : closureFor S1 env = pure cl1)
    (d2 : P2.defaults = [] ∧ P2.kw_defaults = [] ∧ annTrees P2 none env = [] ∧ P2.kwonlyargs = [] ∧ docOf B2 = none) (c2 : closureFor S2 env = pure cl2)
    (d3 : P3.defaults = [] ∧ P3.kw_defaults = [] ∧ annTrees P3 none env = [] ∧ P3.kwonlyargs = [] ∧ docOf B3 = none) (c3 : closureFor S3 env = pure cl3)
    (d4 : P4.defaults = [] ∧ P4.kw_defaults = [] ∧ annTrees P4 none env = [] ∧ P4.kwonlyargs = [] ∧ docOf B4 = none) (c4 : closureFor S4 env = pure cl4)
    (d5 : P5.defaults = [] ∧ P5.kw_defaults = [] ∧ annTrees P5 none env = [] ∧ P5.kwonlyargs = [] ∧ docOf B5 = none) (c5 : closureFor S5 env = pure cl5)
    (hps : [(ps0.line, ps0.col), (ps1.line, ps1.col), (ps2.line, ps2.col), (ps3.line, ps3.col), (ps4.line, ps4.col), (ps5.line, ps5.col)] = [(66, 8), (69, 8), (72, 8), (75, 8), (78, 8), (81, 8)])
    (hQ : ∀ h' tk S qS eS f0 f1 f2 f3 f4 f5 h4 h5 h6 h7 h8 h9 h10 h11 t4 t5 t6 t7 t8 t9 t10 t11 q1 ps', CSt h₁ h' NS #[ent "__module__" h1 t1 (.str (Str.ofString "cpy313.functools") q1), ent "__qualname__" h2 t2 (.str (Str.ofString "cmp_to_key.<locals>.K") q2), ent "__firstlineno__" h3 t3 (.int 62 q3), ent "__slots__" h4 t4 (.ref S), ent "__init__" h5 t5 (.ref f0), ent "__lt__" h6 t6 (.ref f1), ent "__gt__" h7 t7 (.ref f2), ent "__eq__" h8 t8 (.ref f3), ent "__le__" h9 t9 (.ref f4), ent "__ge__" h10 t10 (.ref f5), ent "__hash__" h11 t11 .none] 11 c P ps' → (∀ y o, y ≠ P → y ≠ NS → s.heap.get? y = some o → h'.get? y = some o) → h'.get? S = some ⟨.type "list", none, .seq #[.str (Str.ofString "obj") qS] eS, #[]⟩ →
      FnAt P NS h' f0 (Str.ofString "__init__") (qualnameIn env (Str.ofString "__init__") (Str.ofString "__init__")) P0 B0 S0 cl0 ((mg "__name__").getD .none) →
      FnAt P NS h' f1 (Str.ofString "__lt__") (qualnameIn env (Str.ofString "__lt__") (Str.ofString "__lt__")) P1 B1 S1 cl1 ((mg "__name__").getD .none) →
      FnAt P NS h' f2 (Str.ofString "__gt__") (qualnameIn env (Str.ofString "__gt__") (Str.ofString "__gt__")) P2 B2 S2 cl2 ((mg "__name__").getD .none) →
      FnAt P NS h' f3 (Str.ofString "__eq__") (qualnameIn env (Str.ofString "__eq__") (Str.ofString "__eq__")) P3 B3 S3 cl3 ((mg "__name__").getD .none) →
      FnAt P NS h' f4 (Str.ofString "__le__") (qualnameIn env (Str.ofString "__le__") (Str.ofString "__le__")) P4 B4 S4 cl4 ((mg "__name__").getD .none) →
      FnAt P NS h' f5 (Str.ofString "__ge__") (qualnameIn env (Str.ofString "__ge__") (Str.ofString "__ge__")) P5 B5 S5 cl5 ((mg "__name__").getD .none) →
      Q .next { s with heap := h', toks := tk }) :
    wpAny M A (execs [.Assign [.Name (Str.ofString "__module__") pa] (.Constant (.str (Str.ofString "cpy313.functools")) ka pb) pc, .Assign [.Name (Str.ofString "__slots__") pd] (.List [.Constant (.str (Str.ofString "obj")) kb pe] pf) pg,
      .FunctionDef (Str.ofString "__init__") P0 B0 [] none [] S0 none (Str.ofString "__init__") ps0,
      .FunctionDef (Str.ofString "__lt__") P1 B1 [] none [] S1 none (Str.ofString "__lt__") ps1,
      .FunctionDef (Str.ofString "__gt__") P2 B2 [] none [] S2 none (Str.ofString "__gt__") ps2,
      .FunctionDef (Str.ofString "__eq__") P3 B3 [] none [] S3 none (Str.ofString "__eq__") ps3,
      .FunctionDef (Str.ofString "__le__") P4 B4 [] none [] S4 none (Str.ofString "__le__") ps4,
      .FunctionDef (Str.ofString "__ge__") P5 B5 [] none [] S5 none (Str.ofString "__ge__") ps5,
      .Assign [.Name (Str.ofString "__hash__") ph] (.Constant .none kc pi) pa'] env) Q E s := by
  simp only [List.cons.injEq, Prod.mk.injEq, and_true] at hps
  obtain ⟨⟨l0, k0⟩, ⟨l1, k1⟩, ⟨l2, k2⟩, ⟨l3, k3⟩, ⟨l4, k4⟩, l5, k5⟩ := hps
  refine wpAny_execs_cons (wpAny_Assign_Name ?_)
  refine wpAny_mkText ?_
  refine cset2 (s := { s with toks := s.toks + 1 }) K (hst _ (by simp) _) hloc (by kernel_rfl) ?_
  intro hs h' es' ep' e k K1
  obtain ⟨rfl, rfl⟩ := dobj_inj ((show _ = dobj #[ent "__module__" h1 t1 (.str (Str.ofString "cpy313.functools") s.toks), ent "__qualname__" h2 t2 (.str (Str.ofString "cmp_to_key.<locals>.K") q2), ent "__firstlineno__" h3 t3 (.int 62 q3)] 3 from by kernel_rfl).symm.trans e)
  refine wpAny_execs_cons (wpAny_Assign_Name ?_)
  rw [arm_eval_List]
  refine wpAny_bind (wpAny_standAt ?_)
  repeat ((fail_if_success (with_reducible show wpAny _ _ (newList _) _ _ _)); walk_at "st")
  refine wpAny_newList ?_ (by rw [sizeLine_eq]; exact Nat.le_of_ble_eq_true rfl)
  dsimp only
  show wpAny M A (storeName env _ (Value.ref h'.objs.size)) _ E ⟨h'.push (seqObj "list" #[.str (Str.ofString "obj") (s.toks + 1 + 1)] 0), s.gens, s.drawn, s.toks + 1 + 1 + 1, s.os⟩
  have K2 := K1.keeps (h' := h'.push (seqObj "list" #[.str (Str.ofString "obj") (s.toks + 1 + 1)] 0)) (fun b o e => Heap.get?_push_of_some _ e)
  have Z2 : ∀ y o, y ≠ P → y ≠ NS → s.heap.get? y = some o → (h'.push (seqObj "list" #[.str (Str.ofString "obj") (s.toks + 1 + 1)] 0)).get? y = some o := fun y o a b e => Heap.get?_push_of_some _ (k y o a b e)
  have g2 : (h'.push (seqObj "list" #[.str (Str.ofString "obj") (s.toks + 1 + 1)] 0)).get? h'.objs.size = some (seqObj "list" #[.str (Str.ofString "obj") (s.toks + 1 + 1)] 0) := Heap.get?_push_size _ rfl
  clear e k K1 K hs
  generalize (h'.push (seqObj "list" #[.str (Str.ofString "obj") (s.toks + 1 + 1)] 0)) = k2 at *
  generalize h'.objs.size = S at *
  have nSN : S ≠ NS := by
    rintro rfl
    have q := congrArg Obj.data (Option.some.inj (K2.ns.symm.trans g2))
    cases q
  have nSP : S ≠ P := by
    rintro rfl
    obtain ⟨o, vs, file, tf, flags, tg, inF, text, tt, op, ho, hd, i11, i18, i7, i9, i10, hop, hpd, htr, hne⟩ := K2.code
    rw [g2] at hop; cases hop; cases hpd
  refine cset2 (s := ⟨k2, s.gens, s.drawn, _, s.os⟩) K2 (hst (Str.ofString "__slots__") (by simp) _) hloc (by kernel_rfl) ?_
  intro h4 k4 es' ep' e k K4
  obtain ⟨rfl, rfl⟩ := dobj_inj ((show _ = dobj #[ent "__module__" h1 t1 (.str (Str.ofString "cpy313.functools") s.toks), ent "__qualname__" h2 t2 (.str (Str.ofString "cmp_to_key.<locals>.K") q2), ent "__firstlineno__" h3 t3 (.int 62 q3), ent "__slots__" h4 (s.toks + 1 + 1 + 1) (.ref S)] 4 from by kernel_rfl).symm.trans e)
  have g4 := k _ _ (nSP) (nSN) g2
  replace Z2 : ∀ y o, y ≠ P → y ≠ NS → s.heap.get? y = some o → k4.get? y = some o := fun y o a b e => k y o a b (Z2 y o a b e)
  clear e k K2 g2
  refine wpAny_execs_cons ?_
  refine defc2 (s := ⟨k4, s.gens, s.drawn, _, s.os⟩) K4 (hst (Str.ofString "__init__") (by simp)) hloc (by kernel_rfl) d0.1 d0.2.1 d0.2.2.1 d0.2.2.2.1 d0.2.2.2.2 c0 hgl hg hcode (by simp [codeAmong, rawInt, l0, l1, l2, l3, l4, l5]) hb ?_
  intro f0 m0 tk0 h5 t5 es' ep' pp0 cc0 e pe k K5a F0
  subst pe
  obtain ⟨rfl, rfl⟩ := dobj_inj ((show _ = dobj #[ent "__module__" h1 t1 (.str (Str.ofString "cpy313.functools") s.toks), ent "__qualname__" h2 t2 (.str (Str.ofString "cmp_to_key.<locals>.K") q2), ent "__firstlineno__" h3 t3 (.int 62 q3), ent "__slots__" h4 (s.toks + 1 + 1 + 1) (.ref S), ent "__init__" h5 t5 (.ref f0)] 5 from by kernel_rfl).symm.trans e)
  have g50 := k _ _ (nSP) (nSN) g4
  replace Z2 : ∀ y o, y ≠ P → y ≠ NS → s.heap.get? y = some o → m0.get? y = some o := fun y o a b e => k y o a b (Z2 y o a b e)
  clear e k K4 g4
  refine wpAny_execs_cons ?_
  refine defc2 (s := ⟨m0, s.gens, s.drawn, _, s.os⟩) K5a (hst (Str.ofString "__lt__") (by simp)) hloc (by kernel_rfl) d1.1 d1.2.1 d1.2.2.1 d1.2.2.2.1 d1.2.2.2.2 c1 hgl hg hcode (by simp [codeAmong, rawInt, l0, l1, l2, l3, l4, l5]) hb ?_
  intro f1 m1 tk1 h6 t6 es' ep' pp1 cc1 e pe k K5b F1
  subst pe
  obtain ⟨rfl, rfl⟩ := dobj_inj ((show _ = dobj #[ent "__module__" h1 t1 (.str (Str.ofString "cpy313.functools") s.toks), ent "__qualname__" h2 t2 (.str (Str.ofString "cmp_to_key.<locals>.K") q2), ent "__firstlineno__" h3 t3 (.int 62 q3), ent "__slots__" h4 (s.toks + 1 + 1 + 1) (.ref S), ent "__init__" h5 t5 (.ref f0), ent "__lt__" h6 t6 (.ref f1)] 6 from by kernel_rfl).symm.trans e)
  have g51 := k _ _ (nSP) (nSN) g50
  replace Z2 : ∀ y o, y ≠ P → y ≠ NS → s.heap.get? y = some o → m1.get? y = some o := fun y o a b e => k y o a b (Z2 y o a b e)
  replace F0 := F0.but k
  clear e k K5a g50
  refine wpAny_execs_cons ?_
  refine defc2 (s := ⟨m1, s.gens, s.drawn, _, s.os⟩) K5b (hst (Str.ofString "__gt__") (by simp)) hloc (by kernel_rfl) d2.1 d2.2.1 d2.2.2.1 d2.2.2.2.1 d2.2.2.2.2 c2 hgl hg hcode (by simp [codeAmong, rawInt, l0, l1, l2, l3, l4, l5]) hb ?_
  intro f2 m2 tk2 h7 t7 es' ep' pp2 cc2 e pe k K5c F2
  subst pe
  obtain ⟨rfl, rfl⟩ := dobj_inj ((show _ = dobj #[ent "__module__" h1 t1 (.str (Str.ofString "cpy313.functools") s.toks), ent "__qualname__" h2 t2 (.str (Str.ofString "cmp_to_key.<locals>.K") q2), ent "__firstlineno__" h3 t3 (.int 62 q3), ent "__slots__" h4 (s.toks + 1 + 1 + 1) (.ref S), ent "__init__" h5 t5 (.ref f0), ent "__lt__" h6 t6 (.ref f1), ent "__gt__" h7 t7 (.ref f2)] 7 from by kernel_rfl).symm.trans e)
  have g52 := k _ _ (nSP) (nSN) g51
  replace Z2 : ∀ y o, y ≠ P → y ≠ NS → s.heap.get? y = some o → m2.get? y = some o := fun y o a b e => k y o a b (Z2 y o a b e)
  replace F0 := F0.but k
  replace F1 := F1.but k
  clear e k K5b g51
  refine wpAny_execs_cons ?_
  refine defc2 (s := ⟨m2, s.gens, s.drawn, _, s.os⟩) K5c (hst (Str.ofString "__eq__") (by simp)) hloc (by kernel_rfl) d3.1 d3.2.1 d3.2.2.1 d3.2.2.2.1 d3.2.2.2.2 c3 hgl hg hcode (by simp [codeAmong, rawInt, l0, l1, l2, l3, l4, l5]) hb ?_
  intro f3 m3 tk3 h8 t8 es' ep' pp3 cc3 e pe k K5d F3
  subst pe
  obtain ⟨rfl, rfl⟩ := dobj_inj ((show _ = dobj #[ent "__module__" h1 t1 (.str (Str.ofString "cpy313.functools") s.toks), ent "__qualname__" h2 t2 (.str (Str.ofString "cmp_to_key.<locals>.K") q2), ent "__firstlineno__" h3 t3 (.int 62 q3), ent "__slots__" h4 (s.toks + 1 + 1 + 1) (.ref S), ent "__init__" h5 t5 (.ref f0), ent "__lt__" h6 t6 (.ref f1), ent "__gt__" h7 t7 (.ref f2), ent "__eq__" h8 t8 (.ref f3)] 8 from by kernel_rfl).symm.trans e)
  have g53 := k _ _ (nSP) (nSN) g52
  replace Z2 : ∀ y o, y ≠ P → y ≠ NS → s.heap.get? y = some o → m3.get? y = some o := fun y o a b e => k y o a b (Z2 y o a b e)
  replace F0 := F0.but k
  replace F1 := F1.but k
  replace F2 := F2.but k
  clear e k K5c g52
  refine wpAny_execs_cons ?_
  refine defc2 (s := ⟨m3, s.gens, s.drawn, _, s.os⟩) K5d (hst (Str.ofString "__le__") (by simp)) hloc (by kernel_rfl) d4.1 d4.2.1 d4.2.2.1 d4.2.2.2.1 d4.2.2.2.2 c4 hgl hg hcode (by simp [codeAmong, rawInt, l0, l1, l2, l3, l4, l5]) hb ?_
  intro f4 m4 tk4 h9 t9 es' ep' pp4 cc4 e pe k K5e F4
  subst pe
  obtain ⟨rfl, rfl⟩ := dobj_inj ((show _ = dobj #[ent "__module__" h1 t1 (.str (Str.ofString "cpy313.functools") s.toks), ent "__qualname__" h2 t2 (.str (Str.ofString "cmp_to_key.<locals>.K") q2), ent "__firstlineno__" h3 t3 (.int 62 q3), ent "__slots__" h4 (s.toks + 1 + 1 + 1) (.ref S), ent "__init__" h5 t5 (.ref f0), ent "__lt__" h6 t6 (.ref f1), ent "__gt__" h7 t7 (.ref f2), ent "__eq__" h8 t8 (.ref f3), ent "__le__" h9 t9 (.ref f4)] 9 from by kernel_rfl).symm.trans e)
  have g54 := k _ _ (nSP) (nSN) g53
  replace Z2 : ∀ y o, y ≠ P → y ≠ NS → s.heap.get? y = some o → m4.get? y = some o := fun y o a b e => k y o a b (Z2 y o a b e)
  replace F0 := F0.but k
  replace F1 := F1.but k
  replace F2 := F2.but k
  replace F3 := F3.but k
  clear e k K5d g53
  refine wpAny_execs_cons ?_
  refine defc2 (s := ⟨m4, s.gens, s.drawn, _, s.os⟩) K5e (hst (Str.ofString "__ge__") (by simp)) hloc (by kernel_rfl) d5.1 d5.2.1 d5.2.2.1 d5.2.2.2.1 d5.2.2.2.2 c5 hgl hg hcode (by simp [codeAmong, rawInt, l0, l1, l2, l3, l4, l5]) hb ?_
  intro f5 m5 tk5 h10 t10 es' ep' pp5 cc5 e pe k K5f F5
  subst pe
  obtain ⟨rfl, rfl⟩ := dobj_inj ((show _ = dobj #[ent "__module__" h1 t1 (.str (Str.ofString "cpy313.functools") s.toks), ent "__qualname__" h2 t2 (.str (Str.ofString "cmp_to_key.<locals>.K") q2), ent "__firstlineno__" h3 t3 (.int 62 q3), ent "__slots__" h4 (s.toks + 1 + 1 + 1) (.ref S), ent "__init__" h5 t5 (.ref f0), ent "__lt__" h6 t6 (.ref f1), ent "__gt__" h7 t7 (.ref f2), ent "__eq__" h8 t8 (.ref f3), ent "__le__" h9 t9 (.ref f4), ent "__ge__" h10 t10 (.ref f5)] 10 from by kernel_rfl).symm.trans e)
  have g55 := k _ _ (nSP) (nSN) g54
  replace Z2 : ∀ y o, y ≠ P → y ≠ NS → s.heap.get? y = some o → m5.get? y = some o := fun y o a b e => k y o a b (Z2 y o a b e)
  replace F0 := F0.but k
  replace F1 := F1.but k
  replace F2 := F2.but k
  replace F3 := F3.but k
  replace F4 := F4.but k
  clear e k K5e g54
  refine wpAny_execs_cons (wpAny_Assign_Name (wpAny_pure ?_))
  refine cset2 (s := ⟨m5, s.gens, s.drawn, _, s.os⟩) K5f (hst (Str.ofString "__hash__") (by simp) _) hloc (by kernel_rfl) ?_
  intro h11 m6 es' ep' e k K6
  obtain ⟨rfl, rfl⟩ := dobj_inj ((show _ = dobj #[ent "__module__" h1 t1 (.str (Str.ofString "cpy313.functools") s.toks), ent "__qualname__" h2 t2 (.str (Str.ofString "cmp_to_key.<locals>.K") q2), ent "__firstlineno__" h3 t3 (.int 62 q3), ent "__slots__" h4 (s.toks + 1 + 1 + 1) (.ref S), ent "__init__" h5 t5 (.ref f0), ent "__lt__" h6 t6 (.ref f1), ent "__gt__" h7 t7 (.ref f2), ent "__eq__" h8 t8 (.ref f3), ent "__le__" h9 t9 (.ref f4), ent "__ge__" h10 t10 (.ref f5), ent "__hash__" h11 tk5 .none] 11 from by kernel_rfl).symm.trans e)
  refine wpAny_execs_nil ?_
  exact hQ _ _ _ _ _ _ _ _ _ _ _ _ _ _ _ _ _ _ _ _ _ _ _ _ _ _ _ _ _ K6 (fun y o a b e => k y o a b (Z2 y o a b e)) (k _ _ (nSP) (nSN) g55) (F0.but k) (F1.but k) (F2.but k) (F3.but k) (F4.but k) (F5.but k)
end
end
section
open PySem PySem.W PySem.W.X PyProof.Rows PySem.Calls
set_option maxRecDepth 100000
set_option maxHeartbeats 4000000
theorem lk_ga : typeLookup (.type "type") (Str.ofString "__getattribute__") = pure (some (.builtin "type.__getattribute__")) := by rw [typeLookup_type, builtinLookup_eq_fast]; kernel_rfl
theorem ty_type : typeOf (.type "type") = pure (.type "type") := by kernel_rfl
theorem lk_prep : typeLookup (.type "type") (Str.ofString "__prepare__") = pure (some (.builtin "type.__prepare__")) := by rw [typeLookup_type, builtinLookup_eq_fast]; kernel_rfl
theorem ty_prep : typeOf (.builtin "type.__prepare__") = pure (.type "classmethod_descriptor") := by show builtinType _ = _; rw [builtinType_eq_fast]; kernel_rfl
theorem cmd_set : typeLookup (.type "classmethod_descriptor") (Str.ofString "__set__") = pure none := by rw [typeLookup_type, builtinLookup_eq_fast]; kernel_rfl
theorem cmd_del : typeLookup (.type "classmethod_descriptor") (Str.ofString "__delete__") = pure none := by rw [typeLookup_type, builtinLookup_eq_fast]; kernel_rfl
theorem opq_type : opaqueClassAbove (.type "type") = pure none := by kernel_rfl
theorem slot_tga : Slot "type" "__getattribute__" "type.__getattribute__" :=
  .of (owner := "type") (n := "__getattribute__") (by rw [typeLookup_type, builtinLookup_eq_fast]; kernel_rfl) (by decide +kernel) (by decide +kernel) (by decide +kernel)
    (by first | exact .inl (by decide +kernel) | exact .inr (by decide +kernel)) (by rw [isSubtype_type]; kernel_rfl)
theorem entry_tga : entryFor table "type.__getattribute__" = some Builtin.«type.__getattribute__» := entryFor_of_tree (by kernel_rfl)
theorem args_tga (a b : Value) : argsOk "type.__getattribute__" ⟨[a, b], []⟩ := by unfold argsOk; kernel_rfl
theorem entry_prep : entryFor table "type.__prepare__" = some Builtin.«type.__prepare__» := entryFor_of_tree (by kernel_rfl)
theorem st_to : isSubtype (.type "type") (.type "object") = pure true := by rw [isSubtype_type]; kernel_rfl
section
variable {prog : Program} {w : World} {M : Model} {A : Around} {E : Value → Shared → Prop} {h : Heap} {g : Array GenState} {d : Drawn} {t : Nat} {os : OsState}
theorem cmd_get_prep {Q : Value → Shared → Prop}
    (hq : ∀ h', h'.get? h.objs.size = some { cls := .type "builtin_function_or_method", dict := none, data := .fields #[.builtin "type.__prepare__", .type "type"], slots := #[] } → (∀ y o, h.get? y = some o → h'.get? y = some o) → Q (.ref h.objs.size) ⟨h', g, d, t, os⟩) :
    wpAny (model prog w) A (call (.builtin "classmethod_descriptor.__get__") [.builtin "type.__prepare__", .none, .type "type"]) Q E ⟨h, g, d, t, os⟩ := by
  refine wpAny_call_entry slot_cmg ty_prep entry_cmg ?_ (args_cmg _ _ _)
  unfold Builtin.«classmethod_descriptor.__get__»
  have e0 : (".".intercalate ("type.__prepare__".cutAt '.').dropLast) = "type" := by kernel_rfl
  repeat (first | rw [e0] | (with_reducible refine wpAny_of_eq st_type ?_) | walk_at "st")
  exact ⟨_, rfl, hq _ (Heap.get?_push_at rfl rfl) fun y o ey => Heap.get?_push_of_some _ ey⟩
theorem tga_prep {tn : Tok} {Q : Fin → Shared → Prop}
    (hq : ∀ h', h'.get? h.objs.size = some { cls := .type "builtin_function_or_method", dict := none, data := .fields #[.builtin "type.__prepare__", .type "type"], slots := #[] } → (∀ y o, h.get? y = some o → h'.get? y = some o) → Q (.done (.ret (.ref h.objs.size))) ⟨h', g, d, t, os⟩) :
    wpAny (model prog w) A (Builtin.«type.__getattribute__» ⟨[.type "type", .str (Str.ofString "__prepare__") tn], []⟩) Q E ⟨h, g, d, t, os⟩ := by
  unfold Builtin.«type.__getattribute__»
  have e1 : Builtin.heldUnderItsOwnName (Str.ofString "__prepare__") (.builtin "type.__prepare__") = false := by kernel_rfl
  have e2 : ([Value.type "function", .type "method_descriptor", .type "wrapper_descriptor", .type "getset_descriptor", .type "member_descriptor"].contains (.type "classmethod_descriptor")) = false := by kernel_rfl
  repeat (first | ((with_reducible show wpAny _ _ (call (.builtin "classmethod_descriptor.__get__") _) _ _ _); refine cmd_get_prep ?_; intro h' q1 q2) | with_reducible refine wpAny_of_eq opq_type ?_ | with_reducible refine wpAny_of_eq ty_type ?_ | with_reducible refine wpAny_of_eq lk_prep ?_ | with_reducible refine wpAny_of_eq ty_prep ?_ | with_reducible refine wpAny_of_eq get_cmd ?_ | with_reducible refine wpAny_of_eq cmd_set ?_ | with_reducible refine wpAny_of_eq cmd_del ?_ | rw [e1] | rw [e2] | walk_at "st")
  exact hq _ q1 q2
end
end
section
open PySem PySem.W PySem.W.X PyProof.Rows PySem.Calls
set_option maxRecDepth 100000
set_option maxHeartbeats 4000000
section
variable {prog : Program} {w : World} {M : Model} {A : Around} {E : Value → Shared → Prop} {h : Heap} {g : Array GenState} {d : Drawn} {t : Nat} {os : OsState}
theorem get_prep {Q : Option Value → Shared → Prop}
    (hq : ∀ h', h'.get? h.objs.size = some { cls := .type "builtin_function_or_method", dict := none, data := .fields #[.builtin "type.__prepare__", .type "type"], slots := #[] } → (∀ y o, h.get? y = some o → h'.get? y = some o) → Q (some (.ref h.objs.size)) ⟨h', g, d, t + 1, os⟩) :
    wpAny (model prog w) A (getAttr? (.type "type") (Str.ofString "__prepare__")) Q E ⟨h, g, d, t, os⟩ := by
  unfold getAttr? getAttrBy? getAttrBy
  refine wpAny_bind (wpAny_mkText (wpAny_bind (wpAny_attempt (wpAny_holding (wpAny_bind (wpAny_of_eq ty_type (wpAny_bind (wpAny_of_eq lk_ga ?_))))))))
  show wpAny _ _ (getAttrByItsOwn (.type "type") (.str _ t) (.type "type") (.builtin "type.__getattribute__") false false) _ _ _
  unfold getAttrByItsOwn hookBefore callGetattribute boundAndCalled
  refine wpAny_bind (wpAny_of_eq (show (if onTheHeap (.type "type") then typeLookup (.type "type") "__getattr__" else pure none) = pure none from rfl) ?_)
  refine wpAny_bind (wpAny_attempt (wpAny_holding ?_))
  show wpAny _ _ (bindSpecial (.builtin "type.__getattribute__") (.type "type") >>= _) _ _ _
  refine wpAny_bind (wpAny_of_eq (slot_tga.bind _) ?_)
  refine wpAny_mono (Q := fun v s' => v = .ref h.objs.size ∧ ∃ h', s' = ⟨h', g, d, t + 1, os⟩ ∧ h'.get? h.objs.size = some { cls := .type "builtin_function_or_method", dict := none, data := .fields #[.builtin "type.__prepare__", .type "type"], slots := #[] } ∧ (∀ y o, h.get? y = some o → h'.get? y = some o)) (E := fun _ _ => False)
    (wpAny_call_entry slot_tga ty_type entry_tga (tga_prep fun h' q1 q2 => ⟨_, rfl, rfl, h', rfl, q1, q2⟩) (args_tga _ _)) (fun v s' hv => ?_) fun _ _ z => z.elim
  obtain ⟨rfl, h', rfl, q1, q2⟩ := hv
  exact wpAny_pure (wpAny_pure (hq h' q1 q2))
theorem call_prep {b : Addr} {x : Str} {tx : Tok} {B : Addr} {Q : Value → Shared → Prop} (hb : h.get? b = some { cls := .type "builtin_function_or_method", dict := none, data := .fields #[.builtin "type.__prepare__", .type "type"], slots := #[] })
    (hq : Q (.ref h.objs.size) ⟨h.push (dobj #[] 0), g, d, t, os⟩) : wpAny (model prog w) A (call (.ref b) [.str x tx, .ref B]) Q E ⟨h, g, d, t, os⟩ := by
  refine wpAny_call (codeAny_of_tree ?_)
  show wpAny _ _ (callAny (.ref b) _) _ _ _
  unfold callAny
  have e1 : Manifest.varargsMethods.contains "type.__prepare__" = false := by kernel_rfl
  repeat (first | ((with_reducible show wpAny _ _ (isSubtype _ (.type "module")) _ _ _); refine wpAny_of_eq st_tm ?_) | with_reducible refine wpAny_of_eq ty_type ?_ | walk_at "st")
  refine ⟨Code.quiet_builtin _ (by decide +kernel), codeAny_builtin entry_prep ?_⟩
  unfold Builtin.«type.__prepare__»
  repeat walk_at "st"
  exact hq
end
end
section
open PySem PySem.W PySem.W.X PyProof.Rows PySem.Calls
set_option maxRecDepth 100000
set_option maxHeartbeats 4000000
theorem di_getitem : typeLookup (.type "dict") (Str.ofString "__getitem__") = pure (some (.builtin "dict.__getitem__")) := by rw [typeLookup_type, builtinLookup_eq_fast]; kernel_rfl
local macro_rules | `(tactic| walk_at "bk") => `(tactic| first
  | with_reducible refine wpAny_of_eq type_obj ?_ | with_reducible refine wpAny_of_eq ty_type ?_ | with_reducible refine wpAny_of_eq st_type ?_ | with_reducible refine wpAny_of_eq di_getitem ?_
  | ((fail_if_success (with_reducible show wpAny _ _ (getAttr? _ _) _ _ _)); (fail_if_success (with_reducible show wpAny _ _ (call _ _ _) _ _ _)); (fail_if_success (with_reducible show wpAny _ _ (classCode _ _ _ _ _ _) _ _ _)); (fail_if_success (with_reducible show wpAny _ _ (builtinsFor _ _) _ _ _));
     (fail_if_success (with_reducible show wpAny _ _ (newBodyFrame _ _ _ _) _ _ _)); (fail_if_success (with_reducible show wpAny _ _ (closureFor _ _) _ _ _)); (fail_if_success (with_reducible show wpAny _ _ (enterFrame) _ _ _)); (fail_if_success (with_reducible show wpAny _ _ (storeName _ _ _) _ _ _)); (fail_if_success (with_reducible show wpAny _ _ (loadName _ _) _ _ _));
     (fail_if_success (with_reducible show wpAny _ _ (run _) _ _ _)); walk_at "st"))
section
variable {prog : Program} {w : World} {A : Around} {E : Value → Shared → Prop} {h₁ : Heap} {g : Array GenState} {d : Drawn} {tk : Nat} {os : OsState} {mg : Str → Option Value}
abbrev cenvK (scope : Scope) (cl : List (Str × Addr)) (NS c fr : Addr) : Env :=
  { scope, locals := NS, globals := mainGlobals, qual := Str.ofString "cmp_to_key.<locals>.K" ++ Str.ofString ".", code := .ref c, frame := some fr, builtins := builtinsNs, cells := cl }
theorem nt {M : Model} {h : Heap} {items : List Value} {Q : Value → Shared → Prop} (hs : items.length ≤ sizeLine) (hq : Q (.ref h.objs.size) ⟨h.push (seqObj "tuple" items.toArray 0), g, d, tk, os⟩) : wpAny M A (newTuple items) Q E ⟨h, g, d, tk, os⟩ :=
  wpAny_newObj_type hq (by show items.toArray.size ≤ sizeLine; rw [List.size_toArray]; exact hs)
abbrev FnD := Str × Str × Arguments × List Stmt × Scope × List (Str × Addr)
abbrev FnA (P NS : Addr) (h : Heap) (f : Addr) (x : FnD) (pm : Value) : Prop := FnAt P NS h f x.1 x.2.1 x.2.2.1 x.2.2.2.1 x.2.2.2.2.1 x.2.2.2.2.2 pm
inductive KDoneI (h₁ h' : Heap) (C : Addr) (x0 x1 : FnD) (pm : Value) : Prop
  | mk (NS X P N0 B : Addr) (t0 q2 tx : Tok) (h1 h3 h4 h5 h6 h7 h8 h9 h10 h11 h12 ho hd : Int) (t1 t3 t4 t5 t6 t7 t8 t9 t10 t11 t12 q1 q3 to td : Tok) (f0 f1 f2 f3 f4 f5 S St : Addr) (q : h'.get? C = some (kcls C NS false [Str.ofString "obj"] (ksl5 B t0 q2)) ∧ h'.get? NS = some (dobj (ents3 h1 h3 h4 h5 h6 h7 h8 h9 h10 h11 h12 ho hd t1 t3 t4 t5 t6 t7 t8 t9 t10 t11 t12 q1 q3 to td f0 f1 f2 f3 f4 f5 S St X) 3) ∧
    h'.get? X = some (mdesc C tx) ∧ FnA P N0 h' f0 x0 pm ∧ FnA P N0 h' f1 x1 pm ∧ (∀ b o, b ≠ 67 → h₁.get? b = some o → b ≠ C ∧ b ≠ NS ∧ b ≠ X))
structure KDone (h₁ h' : Heap) (C : Addr) (x0 x1 : FnD) (pm : Value) : Prop where
  keep : ∀ b o, b ≠ 67 → h₁.get? b = some o → h'.get? b = some o
  it : KDoneI h₁ h' C x0 x1 pm
  tab : ∃ qs, h'.get? 67 = some (tabObj qs)
theorem buildK {env : Env} {scope : Scope} {cl : List (Str × Addr)} {body : List Stmt} {pos : Pos} {nm : Value} {Q : Value → Shared → Prop}
    (hd : A.depth < recursionLimit) (hlim : h₁.NoLimit) (hgl : env.globals = mainGlobals) (hbu : env.builtins = builtinsNs) (hcode : env.code = .ref 71) (hok : h₁.IsCode 71 67 #[]) (hnf : codeAmong pos (#[] : Array Value).toList = none)
    (hg : h₁.Ns mainGlobals mg) (hb : h₁.BuiltinsAt mg 67) (hnm : mg (Str.ofString "__name__") = some nm) (hcl : closureFor scope env = pure cl)
    (s1 : (scope.names.lookup (Str.ofString "__class__") == some NameKind.cell) = false) (s2 : (scope.names.lookup (Str.ofString "__classdict__") == some NameKind.cell) = false)
    (h131 : ∃ o, h₁.get? 131 = some o) (h67 : h₁.get? 67 = some (tabObj #[]))
    (hln : ∀ (NS c fr : Addr) (Q' : Value → Shared → Prop) (E' : Value → Shared → Prop) (s' : Shared), wpAny (model prog w) A (localGet (cenvK scope cl NS c fr) (Str.ofString "__name__")) (fun r s₂ => match r with | some v => Q' v s₂ | none => wpAny (model prog w) A (loadGlobal (cenvK scope cl NS c fr) (Str.ofString "__name__")) Q' E' s₂) E' s' → wpAny (model prog w) A (loadName (cenvK scope cl NS c fr) (Str.ofString "__name__")) Q' E' s')
    (hst : ∀ NS c fr, ∀ x ∈ [Str.ofString "__module__", Str.ofString "__qualname__", Str.ofString "__firstlineno__", Str.ofString "__static_attributes__"], ∀ v, storeName (cenvK scope cl NS c fr) x v = localSet (cenvK scope cl NS c fr) x v)
    (hann : hasAnns body = false) (hdoc : docOf body = none) {x0 x1 x2 x3 x4 x5 : FnD} (hst0 : h₁.get? cStatics = some ⟨.none, none, .dict #[] 0, #[]⟩)
    (hbody : ∀ {A' : Around} {E' : Value → Shared → Prop} {Q' : Flow → Shared → Prop} {s' : Shared} {NS c P fr : Addr} {h1 h2 h3 : Int} {t1 t2 t3 q2 q3 : Tok} {v1 : Value}, CSt h₁ s'.heap NS #[ent "__module__" h1 t1 v1, ent "__qualname__" h2 t2 (.str (Str.ofString "cmp_to_key.<locals>.K") q2), ent "__firstlineno__" h3 t3 (.int 62 q3)] 3 c P #[] →
      (∀ h' tk S qS eS f0 f1 f2 f3 f4 f5 h4 h5 h6 h7 h8 h9 h10 h11 t4 t5 t6 t7 t8 t9 t10 t11 q1 ps', CSt h₁ h' NS #[ent "__module__" h1 t1 (.str (Str.ofString "cpy313.functools") q1), ent "__qualname__" h2 t2 (.str (Str.ofString "cmp_to_key.<locals>.K") q2), ent "__firstlineno__" h3 t3 (.int 62 q3), ent "__slots__" h4 t4 (.ref S), ent "__init__" h5 t5 (.ref f0), ent "__lt__" h6 t6 (.ref f1), ent "__gt__" h7 t7 (.ref f2), ent "__eq__" h8 t8 (.ref f3), ent "__le__" h9 t9 (.ref f4), ent "__ge__" h10 t10 (.ref f5), ent "__hash__" h11 t11 .none] 11 c P ps' → (∀ y o, y ≠ P → y ≠ NS → s'.heap.get? y = some o → h'.get? y = some o) → h'.get? S = some ⟨.type "list", none, .seq #[.str (Str.ofString "obj") qS] eS, #[]⟩ →
        FnA P NS h' f0 x0 nm →
        FnA P NS h' f1 x1 nm →
        FnA P NS h' f2 x2 nm →
        FnA P NS h' f3 x3 nm →
        FnA P NS h' f4 x4 nm →
        FnA P NS h' f5 x5 nm →
        Q' .next { s' with heap := h', toks := tk }) → wpAny (model prog w) A' (execs body (cenvK scope cl NS c fr)) Q' E' s')
    (hQ : ∀ h' tk' C, KDone h₁ h' C x0 x1 nm → Q (.ref C) ⟨h', g, d, tk', os⟩) :
    wpAny (model prog w) A (buildClass (Str.ofString "K") (Str.ofString "cmp_to_key.<locals>.K") [.type "object"] [] body scope [Str.ofString "obj"] 62 env pos none) Q E ⟨h₁, g, d, tk, os⟩ := by
  unfold buildClass
  refine wpAny_bind (nt (by rw [sizeLine_eq]; exact Nat.le_of_ble_eq_true rfl) ?_)
  have k1 : ∀ b o, h₁.get? b = some o → (h₁.push (seqObj "tuple" #[.type "object"] 0)).get? b = some o := fun b o e => Heap.get?_push_of_some _ e
  have gB : (h₁.push (seqObj "tuple" #[.type "object"] 0)).get? h₁.objs.size = some (seqObj "tuple" #[.type "object"] 0) := Heap.get?_push_size _ rfl
  generalize (h₁.push (seqObj "tuple" #[.type "object"] 0)) = m1 at *
  generalize h₁.objs.size = B at *
  repeat walk_at "bk"
  refine get_prep fun m2 p1 k2 => ?_
  generalize m1.objs.size = pr at *
  repeat walk_at "bk"
  refine call_prep p1 ?_
  have k3 : ∀ b o, m2.get? b = some o → (m2.push (dobj #[] 0)).get? b = some o := fun b o e => Heap.get?_push_of_some _ e
  have gN : (m2.push (dobj #[] 0)).get? m2.objs.size = some (dobj #[] 0) := Heap.get?_push_size _ rfl
  have nN : h₁.get? m2.objs.size = none := by
    cases q : h₁.get? m2.objs.size with
    | none => rfl
    | some o => exact absurd (Heap.lt_size (k2 _ _ (k1 _ _ q))) (Nat.lt_irrefl _)
  have l131 : 131 < m2.objs.size := by obtain ⟨o, q⟩ := h131; exact Heap.lt_size (k2 _ _ (k1 _ _ q))
  generalize (m2.push (dobj #[] 0)) = m3 at *
  generalize m2.objs.size = NS at *
  have n67 : NS ≠ 67 := by rintro rfl; lia
  have hsm : (NS == sysModules) = false := by
    have : NS ≠ 1 := by lia
    exact beq_eq_false_iff_ne.mpr this
  repeat walk_at "bk"
  refine class_code (s := ⟨m3, g, d, _, os⟩) hcode (hok.keeps fun b o e => k3 _ _ (k2 _ _ (k1 _ _ e))) hnf fun c P m4 tk4 x4 lc lP ok4 tb4 => ?_
  have K4 : CSt h₁ m4 NS #[] 0 c P #[] := ⟨fun b o n e => x4 b o n (k3 _ _ (k2 _ _ (k1 _ _ e))), x4 _ _ n67 gN, nN, by
    cases q : h₁.get? P with
    | none => rfl
    | some o => exact absurd (Nat.lt_of_lt_of_le (Heap.lt_size (k3 _ _ (k2 _ _ (k1 _ _ q)))) lP) (Nat.lt_irrefl _), ok4, ⟨_, h67⟩, tb4 _ (k3 _ _ (k2 _ _ (k1 _ _ h67)))⟩
  have gB4 : m4.get? B = some (seqObj "tuple" #[.type "object"] 0) := x4 _ _ (by rintro rfl; obtain ⟨_, _, _, _, _, _, _, _, _, op, _, _, _, _, _, _, _, hop, hpd, _⟩ := hok; rw [k1 _ _ hop] at gB; cases gB; cases hpd) (k3 _ _ (k2 _ _ gB))
  clear x4 ok4 gN gB k3 k2 k1 p1
  show wpAny _ _ _ _ _ ⟨m4, g, d, tk4, os⟩
  rw [hgl, hbu]
  have hg4 : m4.Ns mainGlobals mg := by
    obtain ⟨o, q, qp, e, r⟩ := hg
    exact ⟨o, q, qp, K4.keep _ _ (by decide) e, r⟩
  obtain ⟨bm, ob, b1, b2, b3, b4, b5, b6, b7, b8⟩ := id hb
  refine wpAny_bind (wpAny_builtinsFor (s := ⟨m4, g, d, tk4, os⟩) hg4 b1 b2 (K4.keep _ _ b4 b5) b6 b7 b8 ?_)
  unfold newBodyFrame
  refine wpAny_bind (wpAny_bind (wpAny_nsGet (s := ⟨m4, g, d, tk4, os⟩) hg4 (wpAny_alloc' ?_)))
  have k5 : ∀ b o, m4.get? b = some o → (m4.push { cls := .type "frame", slots := #[some (Value.ref c), some (.ref mainGlobals), some (.ref NS), none, some ((mg "__name__").getD .none), none, some (.ref builtinsNs)] }).get? b = some o := fun b o e => Heap.get?_push_of_some _ e
  generalize (m4.push { cls := .type "frame", slots := #[some (Value.ref c), some (.ref mainGlobals), some (.ref NS), none, some ((mg "__name__").getD .none), none, some (.ref builtinsNs)] }) = m5 at *
  generalize m4.objs.size = fr at *
  have K5 := K4.keeps k5
  have gB5 := k5 _ _ gB4
  have hg5 := hg4.keeps k5
  have hlim5 : m5.NoLimit := by
    obtain ⟨mc, ⟨o, q, qp, e, r⟩, r2⟩ := hlim
    exact ⟨mc, ⟨o, q, qp, K5.keep _ _ (by decide) e, r⟩, r2⟩
  clear K4 gB4 hg4 k5
  refine wpAny_bind (wpAny_of_eq hcl ?_)
  refine wpAny_holding (wpAny_bind (wpAny_enterFrame (s := ⟨m5, g, d, tk4, os⟩) hlim5 hd ?_))
  refine wpAny_bind (wpAny_onRaise ?_)
  show wpAny _ _ (loadName (cenvK scope cl NS c fr) (Str.ofString "__name__") >>= _) _ _ _
  refine wpAny_bind (hln _ _ _ _ _ _ ?_)
  unfold localGet
  refine wpAny_bind (wpAny_load (s := ⟨m5, g, d, tk4, os⟩) K5.ns ?_)
  rw [if_pos (show (((dobj #[] 0).cls == Value.type "dict") = true) from rfl)]
  refine ns_get K5.ns rfl ?_
  unfold loadGlobal
  refine wpAny_bind (wpAny_nsGet (s := ⟨m5, g, d, tk4, os⟩) hg5 ?_)
  rw [hnm]
  refine wpAny_pure ?_
  refine wpAny_bind (cset2 (s := ⟨m5, g, d, tk4, os⟩) K5 (hst NS c fr (Str.ofString "__module__") (by simp) _) rfl (by rfl) ?_)
  intro h1 m6 es' ep' e k6 K6
  obtain ⟨rfl, rfl⟩ := dobj_inj ((show _ = dobj #[ent "__module__" h1 tk4 nm] 1 from by kernel_rfl).symm.trans e)
  refine wpAny_bind (wpAny_mkText ?_)
  refine wpAny_bind (cset2 (s := ⟨m6, g, d, _, os⟩) K6 (hst NS c fr (Str.ofString "__qualname__") (by simp) _) rfl (by rfl) ?_)
  intro h2 m7 es' ep' e k7 K7
  obtain ⟨rfl, rfl⟩ := dobj_inj ((show _ = dobj #[ent "__module__" h1 tk4 nm, ent "__qualname__" h2 (tk4 + 1 + 1) (.str (Str.ofString "cmp_to_key.<locals>.K") (tk4 + 1))] 2 from by kernel_rfl).symm.trans e)
  refine wpAny_bind (wpAny_mkInt ?_)
  refine wpAny_bind (cset2 (s := ⟨m7, g, d, _, os⟩) K7 (hst NS c fr (Str.ofString "__firstlineno__") (by simp) _) rfl (by rfl) ?_)
  intro h3 m8 es' ep' e k8 K8
  obtain ⟨rfl, rfl⟩ := dobj_inj ((show _ = dobj #[ent "__module__" h1 tk4 nm, ent "__qualname__" h2 (tk4 + 1 + 1) (.str (Str.ofString "cmp_to_key.<locals>.K") (tk4 + 1)), ent "__firstlineno__" h3 (tk4 + 1 + 1 + 1 + 1) (.int 62 (tk4 + 1 + 1 + 1))] 3 from by kernel_rfl).symm.trans e)
  have bN : B ≠ NS := by
    rintro rfl
    have q := congrArg Obj.data (Option.some.inj (K5.ns.symm.trans gB5))
    cases q
  have bP : B ≠ P := by
    rintro rfl
    obtain ⟨o, vs, file, tf, flags, tg, inF, text, tt, op, ho, hd, i11, i18, i7, i9, i10, hop, hpd, htr, hne⟩ := K5.code
    rw [gB5] at hop; cases hop; cases hpd
  have gB8 := k8 _ _ bP bN (k7 _ _ bP bN (k6 _ _ bP bN gB5))
  clear k6 k7 k8 K5 K6 K7 gB5 e
  iterate 2 walk_at "st"
  refine wpAny_run (codeAny_body hann hdoc ?_)
  refine hbody (s' := ⟨m8, g, d, _, os⟩) K8 ?_
  intro m9 tk9 S qS eS f0 f1 f2 f3 f4 f5 h4 h5 h6 h7 h8 h9 h10 h11 t4 t5 t6 t7 t8 t9 t10 t11 q1 ps' K9 Z9 gS F0 F1 F2 F3 F4 F5
  have gB9 := Z9 _ _ bP bN gB8
  clear Z9 K8 gB8
  show wpAny _ _ _ _ _ ⟨m9, g, d, tk9, os⟩
  refine wpAny_bind (wpAny_onRaise ?_)
  refine wpAny_bind (wpAny_mkStrs fun vs => ?_)
  refine wpAny_bind (wpAny_newTextTuple ?_)
  have k10 : ∀ b o, m9.get? b = some o → (m9.push (seqObj "tuple" vs.toArray 0)).get? b = some o := fun b o e => Heap.get?_push_of_some _ e
  have gT : (m9.push (seqObj "tuple" vs.toArray 0)).get? m9.objs.size = some (seqObj "tuple" vs.toArray 0) := Heap.get?_push_size _ rfl
  show wpAny _ _ (storeName (cenvK scope cl NS c fr) (Str.ofString "__static_attributes__") (Value.ref m9.objs.size) >>= _) _ _ ⟨m9.push (seqObj "tuple" vs.toArray 0), g, d, tk9 + 1, os⟩
  have K10 := K9.keeps k10
  have gB10 := k10 _ _ gB9
  have gS10 := k10 _ _ gS
  replace F0 := F0.but (fun y o _ _ e => k10 y o e)
  replace F1 := F1.but (fun y o _ _ e => k10 y o e)
  replace F2 := F2.but (fun y o _ _ e => k10 y o e)
  replace F3 := F3.but (fun y o _ _ e => k10 y o e)
  replace F4 := F4.but (fun y o _ _ e => k10 y o e)
  replace F5 := F5.but (fun y o _ _ e => k10 y o e)
  clear k10 K9 gB9 gS
  generalize (m9.push (seqObj "tuple" vs.toArray 0)) = m10 at *
  generalize m9.objs.size = St at *
  have sN : S ≠ NS := by
    rintro rfl
    have q := congrArg Obj.data (Option.some.inj (K10.ns.symm.trans gS10))
    cases q
  have sP : S ≠ P := by
    rintro rfl
    obtain ⟨o, vs, file, tf, flags, tg, inF, text, tt, op, ho, hd, i11, i18, i7, i9, i10, hop, hpd, htr, hne⟩ := K10.code
    rw [gS10] at hop; cases hop; cases hpd
  have tN : St ≠ NS := by
    rintro rfl
    have q := congrArg Obj.data (Option.some.inj (K10.ns.symm.trans gT))
    cases q
  have tP : St ≠ P := by
    rintro rfl
    obtain ⟨o, vs, file, tf, flags, tg, inF, text, tt, op, ho, hd, i11, i18, i7, i9, i10, hop, hpd, htr, hne⟩ := K10.code
    rw [gT] at hop; cases hop; cases hpd
  refine wpAny_bind (cset2 (s := ⟨m10, g, d, tk9 + 1, os⟩) K10 (hst NS c fr (Str.ofString "__static_attributes__") (by simp) _) rfl (by kernel_rfl) ?_)
  intro h12 m11 es' ep' e k11 K11
  obtain ⟨rfl, rfl⟩ := dobj_inj ((show _ = dobj (ents h1 h2 h3 h4 h5 h6 h7 h8 h9 h10 h11 h12 tk4 (tk4 + 1 + 1) (tk4 + 1 + 1 + 1 + 1) t4 t5 t6 t7 t8 t9 t10 t11 (tk9 + 1) q1 (tk4 + 1) (tk4 + 1 + 1 + 1) f0 f1 f2 f3 f4 f5 S St) 12 from by kernel_rfl).symm.trans e)
  have gB11 := k11 _ _ bP bN gB10
  have gS11 := k11 _ _ sP sN gS10
  have gT11 := k11 _ _ tP tN gT
  replace F0 := F0.but k11
  replace F1 := F1.but k11
  replace F2 := F2.but k11
  replace F3 := F3.but k11
  replace F4 := F4.but k11
  replace F5 := F5.but k11
  clear k11 K10 gB10 gS10 gT e
  show wpAny _ _ _ _ _ ⟨m11, g, d, tk9 + 1 + 1, os⟩
  repeat ((fail_if_success (with_reducible show wpAny _ _ (call _ _ _) _ _ _)); walk_at "st")
  have hst11 := K11.keep _ _ (by decide) hst0
  have fk : ∀ {f : Addr} {x : FnD} {pm : Value}, FnA P NS m11 f x pm → ∃ o, m11.get? f = some o ∧ o.cls = .type "function" := fun y => by
    obtain ⟨c, ct, e, _⟩ := y; exact ⟨_, e, rfl⟩
  refine call_type3 (P := fun C s' => ∃ h' tk', s' = ⟨h', g, d, tk', os⟩ ∧ KDone h₁ h' C x0 x1 nm ∧ ∃ o, h'.get? C = some o ∧ o.cls = .type "type") ?hnew ?hP ?hQQ
  case hnew =>
    intro A' E' Q' hq
    refine tnew gS11 hsm gB11 K11.ns (fk F0) (fk F1) (fk F2) (fk F3) (fk F4) (fk F5) ⟨_, gT11, rfl⟩ hst11 ?_
    intro h' tk' C NS' X L sp bm ho hd tx to td oL D
    refine hq C _ ⟨h', tk', rfl, ⟨fun b o n q => Mem.keepAll D _ _ (K11.keep b o n q), ?_, let ⟨qs, g⟩ := K11.tab.2; ⟨qs, Mem.keepAll D _ _ g⟩⟩, _, D.at 3 _ _ rfl, rfl⟩
    exact ⟨NS', X, P, NS, _, _, _, _, _, _, _, _, _, _, _, _, _, _, _, _, _, _, _, _, _, _, _, _, _, _, _, _, _, _, _, _, _, _, _, _, _, _, _, _, D.at 3 _ _ rfl, D.at 4 _ _ rfl, D.at 2 _ _ rfl, F0.but (fun y o _ _ e => Mem.keepAll D _ _ e), F1.but (fun y o _ _ e => Mem.keepAll D _ _ e), fun b o n q => by
      have q11 := K11.keep b o n q
      refine ⟨?_, ?_, ?_⟩
      · rintro rfl; have z := (D.nw _ (.tail _ (.tail _ (.tail _ (.head _))))).2; rw [q11] at z; cases z
      · rintro rfl; have z := (D.nw _ (.tail _ (.tail _ (.tail _ (.tail _ (.head _)))))).2; rw [q11] at z; cases z
      · rintro rfl; have z := (D.nw _ (.tail _ (.tail _ (.head _)))).2; rw [q11] at z; cases z⟩
  case hP =>
    rintro C s' ⟨h', tk', rfl, _, o, e, q⟩
    exact ⟨o, e, q⟩
  case hQQ =>
    rintro C s' ⟨h', tk', rfl, KD, _⟩
    repeat walk_at "st"
    exact hQ h' tk' C KD
end
end
section
open PySem PySem.W PySem.W.X PyProof.Rows PySem.Calls
set_option maxRecDepth 100000
set_option maxHeartbeats 8000000
theorem bb_bc : bootBuiltins (Str.ofString "__build_class__") = some (.builtin "__build_class__") := by kernel_rfl
theorem bb_obj : bootBuiltins (Str.ofString "object") = some (.type "object") := by kernel_rfl
theorem nm_main (P : Params) : ∃ v, nsIn (hh.heap_1 P) mainGlobals (Str.ofString "__name__") = some (some v) := ⟨_, rfl⟩
def kBody : List Stmt := match (PySem.Challenge.rw_oh0008_01.row.prog.main.body[13]? : Option Stmt) with
  | some (.FunctionDef _ _ (.ClassDef _ _ _ b _ _ _ _ _ _ _ :: _) _ _ _ _ _ _ _) => b
  | _ => []
def kFn (i : Nat) (cl : List (Str × Addr)) : FnD := match (kBody[i + 2]? : Option Stmt) with
  | some (.FunctionDef n P B _ _ _ S _ _ _) => (n, Str.ofString "cmp_to_key.<locals>.K" ++ Str.ofString "." ++ n, P, B, S, cl)
  | _ => (Str.ofString "", Str.ofString "", ⟨[], [], none, [], [], none, []⟩, [], default, [])
theorem build_conv {M : Model} {A : Around} {E : Value → Shared → Prop} {s : Shared} {name qual qual' : Str} {given given' : List Value} {kw kw' : List (Str × Value)} {body : List Stmt} {scope : Scope} {st : List Str} {fl : Nat} {env : Env} {pos : Pos} {Q : Value → Shared → Prop}
    (e1 : qual = qual') (e2 : given = given') (e3 : kw = kw') (h : wpAny M A (buildClass name qual' given' kw' body scope st fl env pos none) Q E s) : wpAny M A (buildClass name qual given kw body scope st fl env pos none) Q E s := by
  subst e1 e2 e3; exact h
local macro_rules | `(tactic| walk_at "mine enterC") => `(tactic| (
  refine wpAny_call ?_
  k_dflt (refine' enterKC ?k1 ?k2 ?k3 ?k4 ?k5 ?k6 ?k7 ?k8 ?k9 ?k10 ?_ ?c2 ?c3 ?c4; (case k1 => k_asm); (case k2 => exact TopRead.nolimit (by assumption)); (case k3 => k_is); (case k4 => k_is); (case k5 => (dsimp only [recursionLimit]; lia)); (case k6 => exact BindsTo.of_eq rfl); (case k7 => exact rfl); (case k8 => decide +kernel); (case k9 => exact fun _ _ e => of_hideAll [67] e); (case k10 => exact Nat.le_of_eq (hideAll_size _ _)); (case c2 => exact rfl); (case c3 => exact rfl); (case c4 => exact rfl); k_whole)))
inductive KClsI (h : Heap) (C ce : Addr) : Prop
  | mk (NS X P N0 B : Addr) (t0 q2 tx : Tok) (h1 h3 h4 h5 h6 h7 h8 h9 h10 h11 h12 ho hd : Int) (t1 t3 t4 t5 t6 t7 t8 t9 t10 t11 t12 q1 q3 to td : Tok) (f0 f1 f2 f3 f4 f5 S St : Addr) (pm : Value) (q : h.get? C = some (kcls C NS false [Str.ofString "obj"] (ksl5 B t0 q2)) ∧ h.get? NS = some (dobj (ents3 h1 h3 h4 h5 h6 h7 h8 h9 h10 h11 h12 ho hd t1 t3 t4 t5 t6 t7 t8 t9 t10 t11 t12 q1 q3 to td f0 f1 f2 f3 f4 f5 S St X) 3) ∧
    h.get? X = some (mdesc C tx) ∧ FnA P N0 h f0 (kFn 0 []) pm ∧ FnA P N0 h f1 (kFn 1 [(Str.ofString "mycmp", ce)]) pm)
structure KCls (h : Heap) (C ce : Addr) : Prop where
  it : KClsI h C ce
  cell : ∃ o, h.get? ce = some o ∧ o.data = .cell (some (.ref 114))
inductive KClsFI (h₀ h : Heap) (C ce : Addr) : Prop
  | mk (NS X P N0 B : Addr) (t0 q2 tx : Tok) (h1 h3 h4 h5 h6 h7 h8 h9 h10 h11 h12 ho hd : Int) (t1 t3 t4 t5 t6 t7 t8 t9 t10 t11 t12 q1 q3 to td : Tok) (f0 f1 f2 f3 f4 f5 S St : Addr) (pm : Value) (q : h.get? C = some (kcls C NS false [Str.ofString "obj"] (ksl5 B t0 q2)) ∧ h.get? NS = some (dobj (ents3 h1 h3 h4 h5 h6 h7 h8 h9 h10 h11 h12 ho hd t1 t3 t4 t5 t6 t7 t8 t9 t10 t11 t12 q1 q3 to td f0 f1 f2 f3 f4 f5 S St X) 3) ∧
    h.get? X = some (mdesc C tx) ∧ FnA P N0 h f0 (kFn 0 []) pm ∧ FnA P N0 h f1 (kFn 1 [(Str.ofString "mycmp", ce)]) pm ∧ (∀ b o, b ≠ 67 → h₀.get? b = some o → b ≠ C ∧ b ≠ NS ∧ b ≠ X))
structure KClsF (h₀ h : Heap) (C ce : Addr) : Prop where
  it : KClsFI h₀ h C ce
  cell : ∃ o, h.get? ce = some o ∧ o.data = .cell (some (.ref 114))
  nce : h₀.get? ce = none
def KindsOff (hid : List Addr) (h₀ h : Heap) : Prop := ∀ a ∈ hid, a ≠ 67 ∧ (∃ o, h₀.get? a = some o) ∧ ∀ o, h.get? a = some o → (∀ fd, o.data ≠ .func fd) ∧ ∀ vs, o.data = .fields vs → ∀ q t, vs[1]? ≠ some (Value.str q t)
theorem FnAt.hide {P NS : Addr} {h₀ h : Heap} {f : Addr} {name qual : Str} {ps : Arguments} {B : List Stmt} {S : Scope} {cl : List (Str × Addr)} {pm : Value} {hid : List Addr} (x : FnAt P NS h f name qual ps B S cl pm)
    (k : KindsOff hid h₀ h) : FnAt P NS (hideAll h hid) f name qual ps B S cl pm := by
  obtain ⟨c, ct, e, r, n1, n2, n3, n4⟩ := x
  obtain ⟨c₂, o2, vs, t, e2, g, r2, r3⟩ := r
  cases e2
  exact ⟨_, ct, hideAll_get _ e (fun q => ((k _ q).2.2 _ e).1 _ rfl), ⟨_, o2, vs, t, rfl, hideAll_get _ g (fun q => ((k _ q).2.2 _ g).2 vs r2 _ _ r3), r2, r3⟩, n1, n2, n3, n4⟩
theorem KClsF.hide {h₀ h : Heap} {C ce : Addr} {hid : List Addr} (x : KClsF h₀ h C ce) (k : KindsOff hid h₀ h) : KCls (hideAll h hid) C ce := by
  obtain ⟨NS, X, P, N0, B, t0, q2, tx, h1, h3, h4, h5, h6, h7, h8, h9, h10, h11, h12, ho, hd, t1, t3, t4, t5, t6, t7, t8, t9, t10, t11, t12, q1, q3, to, td, f0, f1, f2, f3, f4, f5, S, St, pm, e1, e2, e3, F0, F1, fre⟩ := x.it
  obtain ⟨oc, ec, dc⟩ := x.cell
  have off : ∀ a ∈ hid, a ≠ C ∧ a ≠ NS ∧ a ≠ X := fun a ha => let ⟨n, ⟨o, e⟩, _⟩ := k a ha; fre a o n e
  refine ⟨⟨NS, X, P, N0, B, t0, q2, tx, h1, h3, h4, h5, h6, h7, h8, h9, h10, h11, h12, ho, hd, t1, t3, t4, t5, t6, t7, t8, t9, t10, t11, t12, q1, q3, to, td, f0, f1, f2, f3, f4, f5, S, St, pm, hideAll_get _ e1 (fun q => (off _ q).1 rfl), hideAll_get _ e2 (fun q => (off _ q).2.1 rfl), hideAll_get _ e3 (fun q => (off _ q).2.2 rfl), F0.hide k, F1.hide k⟩, oc, hideAll_get _ ec (fun q => ?_), dc⟩
  obtain ⟨_, ⟨o, e⟩, _⟩ := k _ q
  rw [x.nce] at e; cases e
theorem FnAt.off {P NS : Addr} {h h' : Heap} {f L : Addr} {name qual : Str} {ps : Arguments} {B : List Stmt} {S : Scope} {cl : List (Str × Addr)} {pm : Value} (x : FnAt P NS h f name qual ps B S cl pm)
    (k : ∀ y o, y ≠ L → h.get? y = some o → h'.get? y = some o) {o : Obj} {es : Array DictEntry} {ep : Nat} (hL : h.get? L = some o) (hd : o.data = .dict es ep) : FnAt P NS h' f name qual ps B S cl pm := by
  obtain ⟨c, ct, e, r, n1, n2, n3, n4⟩ := x
  obtain ⟨c₂, o2, vs, t, e2, g, r2, r3⟩ := r
  cases e2
  have n5 : f ≠ L := by rintro rfl; rw [hL] at e; cases e; cases hd
  have n6 : c ≠ L := by rintro rfl; rw [hL] at g; cases g; rw [hd] at r2; cases r2
  exact ⟨_, ct, k _ _ n5 e, ⟨_, o2, vs, t, rfl, k _ _ n6 g, r2, r3⟩, n1, n2, n3, n4⟩
theorem ctk (w : World) (mg mb : Str → Option Value) (s : Shared) (dp un : Nat) (fr : Option (List Env)) (gd : Option (List Code)) (hdp : dp < 490) (Q E : Value → Shared → Prop)
    (X0 : (hh.heap_1 w.params).In s.heap) (T0 : TopRead vw ls mg mb s.heap) (h67 : s.heap.get? 67 = some (tabObj #[])) (BM : s.heap.BuiltinsAt mg 67)
    (hQ : ∀ h' tk' C ce, (∀ b o, b ≠ 67 → s.heap.get? b = some o → h'.get? b = some o) → KClsF s.heap h' C ce → (∃ qs, h'.get? 67 = some (tabObj qs)) → Q (.ref C) { s with heap := h', toks := tk' }) :
    wpAny (model PySem.Challenge.rw_oh0008_01.row.prog w) { handled := none, depth := dp, frames := fr, guards := gd, units := un } (call (.ref 72) [.ref 114]) Q E s := by
  revert X0; k_fill; intro X0
  walk_at "mine enterC"
  intro L h₁ tk cells hL F N Y hk
  k_cells Y
  rename_i oc dcell
  (try simp only [List.cons_append, List.nil_append] at N)
  have X1 : (hh.heap_1 w.params).In h₁ := fun a o l => hk _ _ (X0 a o l)
  have T1 := T0.keeps hk
  have g67 := hk _ _ h67
  have ok : h₁.IsCode 71 67 #[] := ⟨_, _, _, _, _, _, _, _, _, _, X1 71 _ rfl, rfl, rfl, rfl, rfl, rfl, rfl, g67, rfl, trivial, by decide⟩
  refine wpAny_execs_cons ?_
  rw [arm_exec_ClassDef]
  refine wpAny_bind (wpAny_pure (wpAny_bind (wpAny_standAt (wpAny_bind ?_))))
  unfold buildClassGuard
  refine wpAny_bind (wpAny_nsGet T1.b ?_)
  rw [T1.builtins _ (by decide), bb_bc]
  refine wpAny_pure (wpAny_bind (wpAny_holding (wpAny_bind ?_)))
  repeat ((fail_if_success (with_reducible show wpAny _ _ (loadName _ _) _ _ _)); walk_at "st")
  refine ks_loadName_global rfl rfl (loadGlobal_builtin T1.g (mg_none_of X1 T1.g (by rfl)) T1.b ((T1.builtins _ (by decide)).trans bb_obj) ?_)
  repeat ((fail_if_success (with_reducible show wpAny _ _ (buildClass _ _ _ _ _ _ _ _ _ _ _) _ _ _)); walk_at "st")
  refine build_conv (qual' := Str.ofString "cmp_to_key.<locals>.K") (given' := [.type "object"]) (kw' := []) (by kernel_rfl) rfl rfl ?_
  obtain ⟨nm, hnm⟩ := nm_main w.params
  have hmg := mg_of X1 T1.g hnm
  have en : (mg (Str.ofString "__name__")).getD .none = nm := by rw [hmg]; rfl
  have BM1 := BM.keeps hk
  refine buildK (nm := nm) (cl := [(Str.ofString "mycmp", L + 1)]) (x0 := kFn 0 []) (x1 := kFn 1 [(Str.ofString "mycmp", L + 1)]) (x2 := kFn 2 [(Str.ofString "mycmp", L + 1)]) (x3 := kFn 3 [(Str.ofString "mycmp", L + 1)]) (x4 := kFn 4 [(Str.ofString "mycmp", L + 1)]) (x5 := kFn 5 [(Str.ofString "mycmp", L + 1)])
    ?hd T1.nolimit rfl rfl rfl ok rfl T1.g BM1 hmg rfl rfl rfl ⟨_, X1 131 _ rfl⟩ g67 ?hln ?hst rfl rfl (X1 2 _ rfl) ?hbody ?hQ
  case hd => (show dp + 1 < 1000); lia
  case hln =>
    intro NS c fr Q' E' s' q
    unfold loadName
    repeat ((fail_if_success (with_reducible show wpAny _ _ (localGet _ _) _ _ _)); walk_at "st")
    refine wpAny_mono q (fun r s₂ q2 => ?_) fun _ _ z => z
    cases r with
    | some v => exact wpAny_pure q2
    | none => exact q2
  case hst =>
    intro NS c fr x hx v
    simp only [List.mem_cons, List.not_mem_nil, or_false] at hx
    rcases hx with rfl | rfl | rfl | rfl <;> rfl
  case hbody =>
    intro A' E' Q' s' NS c P fr h1 h2 h3 t1 t2 t3 q2 q3 v1 K hq
    refine kbody (mg := mg) K ?_ rfl rfl T1.g rfl BM1 ⟨rfl, rfl, rfl, rfl, rfl⟩ rfl ⟨rfl, rfl, rfl, rfl, rfl⟩ rfl ⟨rfl, rfl, rfl, rfl, rfl⟩ rfl ⟨rfl, rfl, rfl, rfl, rfl⟩ rfl ⟨rfl, rfl, rfl, rfl, rfl⟩ rfl ⟨rfl, rfl, rfl, rfl, rfl⟩ rfl rfl ?_
    · intro x hx v
      simp only [List.mem_cons, List.not_mem_nil, or_false] at hx
      rcases hx with rfl | rfl | rfl | rfl | rfl | rfl | rfl | rfl | rfl <;> rfl
    · intro h' tk S qS eS f0 f1 f2 f3 f4 f5 h4 h5 h6 h7 h8 h9 h10 h11 t4 t5 t6 t7 t8 t9 t10 t11 q1 ps' K9 Z9 gS F0 F1 F2 F3 F4 F5
      rw [en] at F0 F1 F2 F3 F4 F5
      exact hq h' tk S qS eS f0 f1 f2 f3 f4 f5 h4 h5 h6 h7 h8 h9 h10 h11 t4 t5 t6 t7 t8 t9 t10 t11 q1 ps' K9 Z9 gS F0 F1 F2 F3 F4 F5
  case hQ =>
    intro h' tk' C KD
    have l131 : (131 : Nat) < L := by rw [hL]; exact Heap.lt_size (X0 131 _ rfl)
    have L67 : L ≠ 67 := by lia
    have M67 : L + 1 ≠ 67 := by lia
    obtain ⟨oL, es, ep, eL, dL, rL⟩ := id F.ns
    have eL' := KD.keep _ _ L67 eL
    refine wpAny_bind (wpAny_pure (wpAny_bind (wpAny_standAt (wpAny_bind (wpAny_bindName (wpAny_storeName_local rfl (⟨oL, es, ep, eL', dL, rL⟩ : h'.Ns _ _) (fun h2 n2 sb => wpAny_pure ?_)))))))
    refine wpAny_execs_cons (wpAny_Return_some (wpAny_Name (wpAny_loadName_local rfl rfl n2 (v := .ref C) (by rfl) ?_)))
    have sb' : ∀ y o, y ≠ L → h'.get? y = some o → h2.get? y = some o := fun y o n e => sb.extBut _ _ n e
    obtain ⟨NS, X, P, N0, B, t0, q2, tx, h1, h3, h4, h5, h6, h7, h8, h9, h10, h11, h12, ho, hd, t1, t3, t4, t5, t6, t7, t8, t9, t10, t11, t12, q1, q3, to, td, f0, f1, f2, f3, f4, f5, S, St, e1, e2, e3, F0, F1, fre⟩ := KD.it
    obtain ⟨n1, n2', n3⟩ := fre L _ L67 eL
    have gc := (N _ (.head _)).1
    refine hQ h2 _ C (L + 1) (fun b o n e => sb' b o (fun q => ?_) (KD.keep b o n (hk _ _ e)))
      ⟨⟨NS, X, P, N0, B, t0, q2, tx, h1, h3, h4, h5, h6, h7, h8, h9, h10, h11, h12, ho, hd, t1, t3, t4, t5, t6, t7, t8, t9, t10, t11, t12, q1, q3, to, td, f0, f1, f2, f3, f4, f5, S, St, nm, sb' _ _ (Ne.symm n1) e1, sb' _ _ (Ne.symm n2') e2, sb' _ _ (Ne.symm n3) e3, F0.off sb' eL' dL, F1.off sb' eL' dL, fun b o n e => fre b o n (hk _ _ e)⟩, ⟨_, sb' _ _ (Nat.succ_ne_self L) (KD.keep _ _ M67 gc), dcell⟩, Heap.get?_none_of_le (by rw [hL]; exact Nat.le_succ _)⟩ (let ⟨qs, g⟩ := KD.tab; ⟨qs, sb' _ _ (Ne.symm L67) g⟩)
    have := Heap.lt_size e
    rw [q, hL] at this
    exact absurd this (Nat.lt_irrefl _)
end
end Mine
namespace Mine
open PySem PySem.W PySem.W.X PyProof.Rows PySem.Calls
set_option maxRecDepth 100000
set_option maxHeartbeats 4000000
structure KIn (K : Frag) (C NS X f0 f1 : Addr) (sl : Array (Option Value)) (es : Array DictEntry) (tx : Tok) (fo0 fo1 : FuncData) : Prop where
  l1 : K.lookup C = some (kcls C NS false [Str.ofString "obj"] sl)
  l2 : K.lookup NS = some (dobj es 3)
  l3 : K.lookup X = some (mdesc C tx)
  l4 : K.lookup f0 = some { cls := .type "function", data := .func fo0 }
  l5 : K.lookup f1 = some { cls := .type "function", data := .func fo1 }
  s4 : (sl.toList[4]?).join = some (.builtin "object.__new__")
section
variable {K : Frag} {C NS X f0 f1 : Addr} {sl : Array (Option Value)} {tx : Tok} {fo0 fo1 : FuncData} {h1 h3 h4 h5 h6 h7 h8 h9 h10 h11 h12 ho hd : Int} {t1 t3 t4 t5 t6 t7 t8 t9 t10 t11 t12 q1 q3 to td : Tok} {f2 f3 f4 f5 S St : Addr}
theorem KIn.find (I : KIn K C NS X f0 f1 sl (ents3 h1 h3 h4 h5 h6 h7 h8 h9 h10 h11 h12 ho hd t1 t3 t4 t5 t6 t7 t8 t9 t10 t11 t12 q1 q3 to td f0 f1 f2 f3 f4 f5 S St X) tx fo0 fo1) (name : Str) :
    findIn K (.ref C) name = (match ((ents3 h1 h3 h4 h5 h6 h7 h8 h9 h10 h11 h12 ho hd t1 t3 t4 t5 t6 t7 t8 t9 t10 t11 t12 q1 q3 to td f0 f1 f2 f3 f4 f5 S St X).toList.find? (·.key.isStr name)) with | some e => some (some e.val) | none => alongIn K name [.type "object"]) := by
  have e0 : findIn K (.ref C) name = alongIn K name [.ref C, .type "object"] := by simp only [findIn, I.l1, kcls]
  have e : ownIn K name (.ref C) = nsIn K NS name := by simp only [ownIn, I.l1, kcls]
  rw [e0, alongIn, e]
  simp only [nsIn, I.l2]
  cases q : (ents3 h1 h3 h4 h5 h6 h7 h8 h9 h10 h11 h12 ho hd t1 t3 t4 t5 t6 t7 t8 t9 t10 t11 t12 q1 q3 to td f0 f1 f2 f3 f4 f5 S St X).toList.find? (·.key.isStr name) with
  | some e => rfl
  | none =>
    have z : (ents3 h1 h3 h4 h5 h6 h7 h8 h9 h10 h11 h12 ho hd t1 t3 t4 t5 t6 t7 t8 t9 t10 t11 t12 q1 q3 to td f0 f1 f2 f3 f4 f5 S St X).toList.any (·.refKey) = false := by rfl
    rw [z]
    rfl
structure KI (K : Frag) (C X f0 f1 : Addr) : Prop where
  init : findIn K (.ref C) (Str.ofString "__init__") = some (some (.ref f0))
  lt : findIn K (.ref C) (Str.ofString "__lt__") = some (some (.ref f1))
  obj : findIn K (.ref C) (Str.ofString "obj") = some (some (.ref X))
  setattr : findIn K (.ref C) (Str.ofString "__setattr__") = some (some (.builtin "object.__setattr__"))
  getattr : findIn K (.ref C) (Str.ofString "__getattribute__") = some (some (.builtin "object.__getattribute__"))
  getattr2 : findIn K (.ref C) (Str.ofString "__getattr__") = some none
  c : ∃ NS sl, K.lookup C = some (kcls C NS false [Str.ofString "obj"] sl) ∧ (sl.toList[4]?).join = some (.builtin "object.__new__")
  x : ∃ tx, K.lookup X = some (mdesc C tx)
  a : ∃ fo, K.lookup f0 = some { cls := .type "function", data := .func fo }
  b : ∃ fo, K.lookup f1 = some { cls := .type "function", data := .func fo }
theorem KIn.ki (J : KIn K C NS X f0 f1 sl (ents3 h1 h3 h4 h5 h6 h7 h8 h9 h10 h11 h12 ho hd t1 t3 t4 t5 t6 t7 t8 t9 t10 t11 t12 q1 q3 to td f0 f1 f2 f3 f4 f5 S St X) tx fo0 fo1) : KI K C X f0 f1 :=
  ⟨(J.find _).trans rfl, (J.find _).trans rfl, (J.find _).trans rfl, (J.find _).trans (by kernel_rfl), (J.find _).trans (by kernel_rfl), (J.find _).trans (by kernel_rfl), ⟨_, _, J.l1, J.s4⟩, ⟨_, J.l3⟩, ⟨_, J.l4⟩, ⟨_, J.l5⟩⟩
theorem KI.ty0 (I : KI K C X f0 f1) : typeIn K (.ref f0) = some (.type "function") := by obtain ⟨_, e⟩ := I.a; simp only [typeIn, e]; rfl
theorem KI.ty1 (I : KI K C X f0 f1) : typeIn K (.ref f1) = some (.type "function") := by obtain ⟨_, e⟩ := I.b; simp only [typeIn, e]; rfl
theorem KI.tyX (I : KI K C X f0 f1) : typeIn K (.ref X) = some (.type "member_descriptor") := by obtain ⟨_, e⟩ := I.x; simp only [typeIn, e]; rfl
theorem KI.tyC (I : KI K C X f0 f1) : typeIn K (.ref C) = some (.type "type") := by obtain ⟨_, _, e, _⟩ := I.c; simp only [typeIn, e]; rfl
theorem KI.over (I : KI K C X f0 f1) : plainOver K C = true := by obtain ⟨_, _, e, _⟩ := I.c; unfold plainOver clsIn; rw [e]; rfl
theorem KI.taker (I : KI K C X f0 f1) : takerIn K C (Str.ofString "obj") = some (some (.ref X)) := by
  have e : specialIn K (.ref X) (Str.ofString "__set__") = some (some (.builtin "member_descriptor.__set__")) := by
    unfold specialIn; rw [I.tyX]; kernel_rfl
  unfold takerIn
  rw [I.obj]
  simp only [Option.bind_some, takesIn]
  rw [show specialIn K (.ref X) "__set__" = _ from e]
  rfl
theorem KI.slot (I : KI K C X f0 f1) : slotIn K X C = some 0 := by
  obtain ⟨_, _, e, _⟩ := I.c
  obtain ⟨tx, g⟩ := I.x
  have r : recIn K X "member_descriptor" = some [.str (Str.ofString "obj") tx, .ref C, .builtin "proto.slot", .builtin "proto.slot#set", rawInt 0] := by unfold recIn; rw [g]; rfl
  unfold slotIn clsIn
  rw [r, e]
  dsimp only [kcls, rawInt]
  rw [if_pos (by simp)]
  rfl
theorem KI.makes (I : KI K C X f0 f1) : makesIn K C = true := by
  have e1 : specialIn K (.ref C) "__call__" = some (some (.builtin "type.__call__")) := by unfold specialIn; rw [I.tyC]; kernel_rfl
  have e2 : instIn K (.ref C) (.type "type") = some true := by unfold instIn; rw [I.tyC]; kernel_rfl
  obtain ⟨_, _, e, s4⟩ := I.c
  simp only [makesIn, e, kcls, e1, e2, s4]
  simp
end
end Mine
namespace Mine
open PySem PySem.W PySem.W.X PyProof.Rows PySem.Calls
set_option maxRecDepth 100000
set_option maxHeartbeats 4000000
theorem body0 : ∃ p1 p2 p3 p4, (kFn 0 []).2.2.2.1 = [Stmt.Assign [.Attribute (.Name (Str.ofString "self") p1) (Str.ofString "obj") p2] (.Name (Str.ofString "obj") p3) p4] := ⟨_, _, _, _, rfl⟩
section
variable {prog : Program} {w : World} {A : Around} {E : Value → Shared → Prop} {s : Shared} {K : Frag} {C X f0 f1 P N0 : Addr} {pm : Value}
theorem mkK {v : Value} {Q : Value → Shared → Prop} (I : KI K C X f0 f1) (XK : K.In s.heap) (F0 : FnA P N0 s.heap f0 (kFn 0 []) pm) (hlim : s.heap.NoLimit) (hd : A.depth < 980)
    (hQ : ∀ h' tk x dx, (∀ b o, s.heap.get? b = some o → h'.get? b = some o) → s.heap.get? x = none → h'.get? x = some ⟨.ref C, some dx, .plain, #[some v]⟩ → h'.get? dx = some emptyDict → s.heap.get? dx = none → Q (.ref x) { s with heap := h', toks := tk }) :
    wpAny (model prog w) A (call (.ref C) [v]) Q E s := by
  obtain ⟨hh, g, d, t, os⟩ := s
  refine wpAny_call ?_
  refine make_core (makes_of XK I.makes) (looks_findIn XK I.init) (fun self => bind_fn XK self I.ty0) (.inl rfl) ?_
  have k1 : ∀ b o, hh.get? b = some o → ((hh.push emptyDict).push (instObj C hh.objs.size)).get? b = some o := fun b o e => Heap.get?_push_of_some _ (Heap.get?_push_of_some _ e)
  have gd : ((hh.push emptyDict).push (instObj C hh.objs.size)).get? hh.objs.size = some emptyDict := Heap.get?_push_of_some _ (Heap.get?_push_size _ rfl)
  have gx : ((hh.push emptyDict).push (instObj C hh.objs.size)).get? (hh.objs.size + 1) = some (instObj C hh.objs.size) := Heap.get?_push_at (by rw [Heap.size_push]) rfl
  have nd : hh.get? hh.objs.size = none := by
    cases q : hh.get? hh.objs.size with
    | none => rfl
    | some o => exact absurd (Heap.lt_size q) (Nat.lt_irrefl _)
  have nx : hh.get? (hh.objs.size + 1) = none := by
    cases q : hh.get? (hh.objs.size + 1) with
    | none => rfl
    | some o => exact absurd (Nat.lt_of_succ_lt (Heap.lt_size q)) (Nat.lt_irrefl _)
  have nxd : hh.objs.size + 1 ≠ hh.objs.size := Nat.succ_ne_self _
  generalize ((hh.push emptyDict).push (instObj C hh.objs.size)) = m1 at *
  generalize hh.objs.size + 1 = x at *
  generalize hh.objs.size = dx at *
  obtain ⟨c, ct, e0, r0, _⟩ := F0
  obtain ⟨p1, p2, p3, p4, eB⟩ := body0
  refine codeAny_call_def (s := ⟨m1, g, d, t, os⟩) (binds := [(Str.ofString "self", .ref x), (Str.ofString "obj", v)]) ?_ (k1 _ _ e0) rfl (hlim.keeps k1) (r0.keeps k1) (congrArg FuncBody.stmts eB) (BindsTo.of_eq rfl) (show ∀ x ∈ (kFn 0 []).2.2.2.2.1.names, x.2 ≠ .cell from by decide +kernel) (locs rfl) (fun m2 n2 k2 => ?_)
  · rw [depth_under_make]; exact Nat.lt_of_lt_of_le (Nat.succ_lt_succ hd) (by decide)
  have k3 : ∀ b o, hh.get? b = some o → m2.get? b = some o := fun b o e => k2 _ _ (k1 _ _ e)
  have XK2 : K.In m2 := fun a o l => k3 _ _ (XK a o l)
  have Inst : InstAt m2 x (instObj C dx) C (some emptyDict) := ⟨k2 _ _ gx, rfl, rfl, k2 _ _ gd⟩
  have lx : x < m1.objs.size := Heap.lt_size gx
  have F : Fr (hideAll m1 [x]) m1.objs.size m2 _ := ⟨n2, fun b o e => k2 _ _ (of_hideAll _ e), Nat.le_of_eq (hideAll_size _ _)⟩
  have N : News (hideAll m1 [x]) m1.objs.size m2 ([] ++ (x, instObj C dx) :: []) := fun p hp => by
    have : p = (x, instObj C dx) := by simpa using hp
    subst this
    exact ⟨k2 _ _ gx, Nat.ne_of_lt lx, hideAll_none _ (.head _)⟩
  refine wpAny_execs_cons (plainObj_wpAny_Assign_Attribute (wpAny_Name (wpAny_loadName_local rfl rfl n2 (v := v) rfl (wpAny_Name (wpAny_loadName_local rfl rfl n2 (v := .ref x) rfl ?_)))))
  refine set_plain (K := K) XK2 Inst I.setattr (osa_descr (s := ⟨m2, g, d, _, os⟩) KF.slot_mset XK2 Inst I.over I.taker I.tyX (slot_set (s := ⟨m2, g, d, _, os⟩) F N XK2 Inst I.slot (by decide) (fun _ h => nomatch h) (fun _ h => nomatch h) (ox' := ⟨.ref C, some dx, .plain, #[some v]⟩) rfl rfl fun m3 F3 N3 => ?_))
  refine wpAny_execs_nil ⟨rfl, ?_⟩
  have g3 := (N3 _ (.head _)).1
  exact hQ m3 _ x dx (fun b o e => F3.keep _ _ (hideAll_get _ (k1 _ _ e) fun hm => by
    have : b = x := by simpa using hm
    subst this; rw [nx] at e; cases e)) nx g3 (F3.keep _ _ (hideAll_get _ gd fun hm => by
    have : dx = x := by simpa using hm
    exact nxd this.symm)) nd
end
end Mine
namespace Mine
open PySem PySem.W PySem.W.X PyProof.Rows PySem.Calls
set_option maxRecDepth 100000
set_option maxHeartbeats 8000000
theorem stop_out {P : Prop} (h : Stop P) : P := h
theorem news_swap {h₀ h : Heap} {L : Addr} {a b : List (Addr × Obj)} (N : News h₀ L h (a ++ b)) : News h₀ L h (b ++ a) := fun p hp => N p (by
  rcases List.mem_append.mp hp with q | q
  · exact List.mem_append_right _ q
  · exact List.mem_append_left _ q)
inductive TEnd (s s₃ : Shared) (h₀ : Heap) (L : Addr) (own : List (Addr × Obj)) (ok : Addr → Prop) (J : (Str → Option Value) → List (Addr × Obj) → Prop) : Prop
  | mk (h' : Heap) (tk : Nat) (m' : Str → Option Value) (news' : List (Addr × Obj)) (e : s₃ = { s with heap := h', toks := tk }) (F : Fr h₀ L h' m') (q : News h₀ L h' (news' ++ own) ∧ (∀ p ∈ news', ok p.1) ∧ J m' news')
theorem forL {prog : Program} {w : World} {A : Around} {s : Shared} {env : Env} {h₀ : Heap} {target : Expr} {body : List Stmt} {R : Result → Shared → Prop} {I : Addr} {fp wr : List Addr} {n : Nat} {P Md : Nat → Value → Heap → Prop} {St : Nat → Heap → Prop} {m : Str → Option Value} {news : List (Addr × Obj)} (W : KTurns prog w A target I fp wr n P Md St)
    (hLf : env.locals ∉ fp) (hwr : ∀ b ∈ wr, h₀.get? b = none) (hnw : ∀ p ∈ news, p.1 ∉ wr) (hst : St 0 s.heap) (F : Fr h₀ env.locals s.heap m) (N : News h₀ env.locals s.heap news)
    (J : Nat → (Str → Option Value) → List (Addr × Obj) → Prop) (h0 : J 0 m news)
    (step : ∀ i v m₁ news₁ h₁ tk₁ own, i < n → P i v h₁ → J i m₁ news₁ → (∀ p ∈ news₁, p.1 ∉ wr) → (∀ p ∈ own, p.1 ∈ fp) → Fr h₀ env.locals h₁ m₁ → News h₀ env.locals h₁ (news₁ ++ own) →
      wpAny (model prog w) A (assign target env v) (fun _ s₂ => wpAny (model prog w) A (execs body env)
        (fun f s₃ => match f with
          | .next | .cont => Stop (TEnd s s₃ h₀ env.locals own (fun a => a ∉ wr) (J (i + 1)))
          | .brk => Stop (R (.ok .next) s₃)
          | .ret v => Stop (R (.ok (.ret v)) s₃)) (fun _ _ => False) s₂) (fun _ _ => False) { s with heap := h₁, toks := tk₁ })
    (hR : ∀ h' tk m' news', Fr h₀ env.locals h' m' → News h₀ env.locals h' news' → (∀ p ∈ news', p.1 ∉ wr) → J n m' news' → R (.ok .next) { s with heap := h', toks := tk }) :
    codeAny (model prog w) A (.forLoop target (.ref I) body [] env) R s := by
  refine ktu_loop W hLf hwr hnw hst F N J h0 (fun i v m₁ news₁ h₁ tk₁ own a b c d e f g st F₁ N₁ => ?_) hR
  refine wpAny_mono (step i v m₁ news₁ h₁ tk₁ own a b c d e F₁ (news_swap N₁)) (fun _ s₂ q => wpAny_mono q (fun fl s₃ q => ?_) fun _ _ x => x.elim) fun _ _ x => x.elim
  cases fl with
  | next => obtain ⟨h', tk, m', news', rfl, F', N', hn, hJ⟩ := q; exact ⟨rfl, h', tk, m', news', rfl, F', news_swap N', hn, hJ⟩
  | cont => obtain ⟨h', tk, m', news', rfl, F', N', hn, hJ⟩ := q; exact ⟨rfl, h', tk, m', news', rfl, F', news_swap N', hn, hJ⟩
  | brk => exact q
  | ret v => exact q
theorem isList_keeps {h h' : Heap} {a : Addr} {items : Array Value} (x : h.IsList a items) (k : Keeps h h') : h'.IsList a items := let ⟨o, e, r⟩ := x; ⟨o, k _ _ e, r⟩
theorem new_none {h₀ : Heap} {L b : Addr} {h : Heap} {m : Str → Option Value} (F : Fr h₀ L h m) (hb : h.objs.size ≤ b) : h₀.get? b = none := ktu_new F hb
theorem forZip {prog : Program} {w : World} {A : Around} {s : Shared} {env : Env} {h₀ : Heap} {elts : List Expr} {k : Nat} {pos : Pos} {body : List Stmt} {R : Result → Shared → Prop} {E : Value → Shared → Prop} {m : Str → Option Value} {news : List (Addr × Obj)} {l1 l2 : Addr} {xs ys : Array Value}
    (hh : A.handled = none) (hl1 : s.heap.IsList l1 xs) (hl2 : s.heap.IsList l2 ys) (hL1 : env.locals ≠ l1) (hL2 : env.locals ≠ l2)
    (F : Fr h₀ env.locals s.heap m) (N : News h₀ env.locals s.heap news)
    (J : Nat → (Str → Option Value) → List (Addr × Obj) → Prop) (h0 : J 0 m news)
    (step : ∀ i x y T m₁ news₁ h₁ tk₁ own, xs[i]? = some x → ys[i]? = some y → h₁.IsTuple T #[x, y] → J i m₁ news₁ → (∀ p ∈ news₁, p.1 < s.heap.objs.size) → (∀ p ∈ own, p.1 = l1 ∨ p.1 = l2 ∨ s.heap.objs.size ≤ p.1) → Fr h₀ env.locals h₁ m₁ → News h₀ env.locals h₁ (news₁ ++ own) →
      wpAny (model prog w) A (assign (.Tuple elts k pos) env (.ref T)) (fun _ s₂ => wpAny (model prog w) A (execs body env)
        (fun f s₃ => match f with
          | .next | .cont => Stop (TEnd s s₃ h₀ env.locals own (fun a => a < s.heap.objs.size) (J (i + 1)))
          | .brk => Stop (R (.ok .next) s₃)
          | .ret v => Stop (R (.ok (.ret v)) s₃)) (fun _ _ => False) s₂) (fun _ _ => False) { s with heap := h₁, toks := tk₁ })
    (hR : ∀ h' tk m' news', Fr h₀ env.locals h' m' → News h₀ env.locals h' news' → J (min xs.size ys.size) m' news' → R (.ok .next) { s with heap := h', toks := tk }) :
    wpAny (model prog w) A (call (.type "zip") [.ref l1, .ref l2]) (fun xv s₁ => wpAny (model prog w) A (pyIter xv) (fun it s₂ => codeAny (model prog w) A (.forLoop (.Tuple elts k pos) it body [] env) R s₂) E s₁) E s := by
  have lt1 : l1 < s.heap.objs.size := by obtain ⟨_, e, _⟩ := hl1; exact Heap.lt_size e
  have lt2 : l2 < s.heap.objs.size := by obtain ⟨_, e, _⟩ := hl2; exact Heap.lt_size e
  have hLs : env.locals < s.heap.objs.size := F.ns.lt
  have D : ZipApart (s.heap.objs.size + 4) (s.heap.objs.size + 2) (s.heap.objs.size + 3) s.heap.objs.size (s.heap.objs.size + 1) l1 l2 := ktu_apart _ _ _ lt1 lt2
  refine call_zip_2 hl1 hl2 fun h' hz hTI hTO hi1 hi2 hsz hk => ?_
  refine wpAny_pyIter_zip hz ?_
  have inWr : ∀ b, b ∈ [s.heap.objs.size + 4, s.heap.objs.size + 3, s.heap.objs.size, s.heap.objs.size + 1] → s.heap.objs.size ≤ b := by
    intro b hb
    simp only [List.mem_cons, List.not_mem_nil, or_false] at hb
    rcases hb with rfl | rfl | rfl | rfl
    · exact Nat.le_add_right _ _
    · exact Nat.le_add_right _ _
    · exact Nat.le_refl _
    · exact Nat.le_add_right _ _
  refine forL (news := news) (KTurns.ofWalksU (WalksT.zip2 hh _ _ _ _ _ _ _ D xs ys).toU) ?_ ?_ ?_ ?_ (fr_keeps F hk) (news_keeps N hk) (fun i m n => J i m n ∧ ∀ p ∈ n, p.1 < s.heap.objs.size) ⟨h0, fun p hp => Heap.lt_size (N p hp).1⟩ ?_ ?_
  · intro hb
    simp only [List.mem_cons, List.not_mem_nil, or_false] at hb
    rcases hb with e | e | e | e | e | e | e
    · exact ktu_ne 4 hLs e
    · exact ktu_ne 2 hLs e
    · exact ktu_ne 3 hLs e
    · exact Nat.ne_of_lt hLs e
    · exact ktu_ne 1 hLs e
    · exact hL1 e
    · exact hL2 e
  · intro b hb; exact ktu_new F (inWr b hb)
  · intro p hp hb; exact absurd (Nat.lt_of_lt_of_le (Heap.lt_size (N p hp).1) (inWr _ hb)) (Nat.lt_irrefl _)
  · exact ⟨hz, hTI, ⟨_, _, hTO⟩, hi1, hi2, isList_keeps hl1 hk, isList_keeps hl2 hk⟩
  · rintro i v m₁ news₁ h₁ tk₁ own hi ⟨T, vals, rfl, ⟨x, y, hx, hy, rfl⟩, hT⟩ ⟨hJ, hlt⟩ hn hown F₁ N₁
    refine wpAny_mono (step i x y T m₁ news₁ h₁ tk₁ own hx hy hT hJ hlt (fun p hp => ?_) F₁ N₁) (fun _ s₂ q => wpAny_mono q (fun fl s₃ q => ?_) fun _ _ x => x) fun _ _ x => x
    · have := hown p hp
      simp only [List.mem_cons, List.not_mem_nil, or_false] at this
      rcases this with e | e | e | e | e | e | e
      · exact .inr (.inr (e ▸ Nat.le_add_right _ _))
      · exact .inr (.inr (e ▸ Nat.le_add_right _ _))
      · exact .inr (.inr (e ▸ Nat.le_add_right _ _))
      · exact .inr (.inr (e ▸ Nat.le_refl _))
      · exact .inr (.inr (e ▸ Nat.le_add_right _ _))
      · exact .inl e
      · exact .inr (.inl e)
    · cases fl with
      | next => obtain ⟨h', tk, m', news', rfl, F', N', hn, hJ⟩ := q; exact ⟨h', tk, m', news', rfl, F', N', fun p hp hb => absurd (Nat.lt_of_lt_of_le (hn p hp) (inWr _ hb)) (Nat.lt_irrefl _), hJ, hn⟩
      | cont => obtain ⟨h', tk, m', news', rfl, F', N', hn, hJ⟩ := q; exact ⟨h', tk, m', news', rfl, F', N', fun p hp hb => absurd (Nat.lt_of_lt_of_le (hn p hp) (inWr _ hb)) (Nat.lt_irrefl _), hJ, hn⟩
      | brk => exact q
      | ret v => exact q
  · intro h' tk m' news' F' N' _ hJ
    exact hR h' tk m' news' F' N' hJ.1
theorem intsAre_get {vs : List Value} {ns : List Int} (h : IntsAre vs ns) : ∀ {i : Nat} {x : Value}, vs[i]? = some x → ∃ n t, x = .int n t ∧ ns[i]? = some n := by
  induction h with
  | nil => intro i x e; simp at e
  | cons n t _ ih =>
    intro i x e
    cases i with
    | zero => simp at e; exact ⟨n, t, e.symm, rfl⟩
    | succ i => simp at e; simpa using ih e
abbrev NatsAre (vs : List Value) (xs : List Nat) : Prop := IntsAre vs (xs.map fun (n : Nat) => (n : Int))
theorem natsAre_get {vs : List Value} {ns : List Nat} (h : NatsAre vs ns) {i : Nat} {x : Value} (e : vs[i]? = some x) : ∃ (n : Nat) (t : Tok), x = .int (n : Int) t ∧ ns[i]? = some n := by
  obtain ⟨n, t, rfl, q⟩ := intsAre_get h e
  rw [List.getElem?_map, Option.map_eq_some_iff] at q
  obtain ⟨k, q1, rfl⟩ := q
  exact ⟨k, t, rfl, q1⟩
theorem natsAre_len {vs : List Value} {ns : List Nat} (h : NatsAre vs ns) : vs.length = ns.length := by
  have := IntsAre.length h
  simpa using this
theorem intsAre_snoc {vs : List Value} {ns : List Int} (h : IntsAre vs ns) (n : Int) (t : Tok) : IntsAre (vs ++ [.int n t]) (ns ++ [n]) := by
  induction h with
  | nil => exact .cons _ _ .nil
  | cons n t _ ih => exact .cons _ _ ih
theorem natsAre_snoc {vs : List Value} {ns : List Nat} (h : NatsAre vs ns) (n : Nat) (t : Tok) : NatsAre (vs ++ [.int (n : Int) t]) (ns ++ [n]) := by
  unfold NatsAre
  rw [List.map_append]
  exact intsAre_snoc h _ _
theorem news_pushed {h₀ h : Heap} {L D : Addr} {ws : List Value} {v : Value} {n : Nat} {rest : List (Addr × Obj)} (N : News h₀ L h ((D, W.listOf (ws.toArray.push v) n) :: rest)) :
    News h₀ L h ((D, { cls := .type "list", data := .seq (ws ++ [v]).toArray n }) :: rest) := by
  have e : (W.listOf (ws.toArray.push v) n) = { cls := .type "list", data := .seq (ws ++ [v]).toArray n } := by
    show ({ cls := .type "list", data := .seq (ws.toArray.push v) n } : Obj) = _
    rw [List.push_toArray]
  rw [e] at N
  exact N
end Mine
namespace Mine
open PySem PySem.W PySem.W.X PyProof.Rows PySem.Calls
set_option maxRecDepth 100000
set_option maxHeartbeats 8000000
local macro_rules | `(tactic| walk_at "mine enter") => `(tactic| (
  refine wpAny_call ?_
  k_dflt (refine' enterK ?k1 ?k2 ?k3 ?k4 ?k5 ?k6 ?k7 ?_ ?c2 ?c3 ?c4 ?c5; (case k1 => k_asm); (case k2 => exact TopRead.nolimit (by assumption)); (case k3 => k_is); (case k4 => k_is); (case k5 => (dsimp only [recursionLimit]; lia)); (case k6 => exact BindsTo.of_eq rfl); (case k7 => exact locs rfl); (case c2 => exact rfl); (case c3 => exact rfl); (case c4 => exact rfl); (case c5 => decide); k_whole)))
def dg (b : Nat) : Nat → Nat → List Nat
  | 0, _ => []
  | k + 1, n => n % b :: dg b k (n / b)
theorem dg_zero (b : Nat) : ∀ k, (dg b k 0).sum = 0
  | 0 => rfl
  | k + 1 => by simp [dg, dg_zero b k]
theorem fdivN (a b : Nat) : Int.fdiv (a : Int) (b : Int) = ((a / b : Nat) : Int) := by
  rw [Int.fdiv_eq_ediv_of_nonneg _ (by lia)]; lia
theorem fmodN (a b : Nat) : Int.fmod (a : Int) (b : Int) = ((a % b : Nat) : Int) := by
  rw [Int.fmod_eq_emod_of_nonneg _ (by lia)]; lia
inductive SumJ (s : Shared) (L : Addr) (b n k : Nat) (s' : Shared) : Prop
  | mk (a : Nat) (c : Nat) (h : Heap) (tk : Nat) (m : Str → Option Value) (tb : Tok) (ta : Tok) (tc : Tok) (e : s' = {s with heap := h, toks := tk}) (q : Fr s.heap L h m ∧ m (Str.ofString "base") = some (.int (b : Int) tb) ∧ m (Str.ofString "number") = some (.int (a : Int) ta) ∧
    m (Str.ofString "told") = some (.int (c : Int) tc) ∧ a < b ^ k ∧ c + (dg b k a).sum = (dg b 6 n).sum)
theorem lawsum (w : World) (mg mb : Str → Option Value) (s : Shared) (dp un : Nat) (fr : Option (List Env)) (gd : Option (List Code)) (hdp : dp < 500) (Q E : Value → Shared → Prop)
    (X0 : (hh.heap_1 w.params).In s.heap) (T0 : TopRead vw ls mg mb s.heap) (b n : Nat) (t1 t2 : Tok) (hb : 2 ≤ b) (hb2 : b ≤ 64) (h1 : n < b ^ 6)
    (hQ : ∀ h' tk t', Keeps s.heap h' → Q (.int ((dg b 6 n).sum : Nat) t') {s with heap := h', toks := tk}) :
    wpAny (model PySem.Challenge.rw_oh0008_01.row.prog w) { handled := none, depth := dp, frames := fr, guards := gd, units := un } (call (.ref 121) [.int (b : Int) t1, .int (n : Int) t2]) Q E s := by
  revert X0; k_fill; intro X0
  walk_at "mine enter"
  intro L h₁ hL F N
  dsimp only
  refine execs_split 1 ?_
  dsimp only [List.take, List.drop]
  k_fold
  k_steps
  unfold Stop
  refine wpAny_execs_cons ?_
  refine while_inv (SumJ s L b n) 6 ?_ ?_
  · exact ⟨n, 0, _, _, _, _, _, _, rfl, by assumption, rfl, rfl, rfl, h1, Nat.zero_add _⟩
  · rintro k s' ⟨a, c, h, tk, m, tb, ta, tc, rfl, F0, e1, e2, e3, ha, hw⟩
    have F := fr_puts [(_, _), (_, _), (_, _)] F0 (List.forall_mem_cons.2 ⟨e1, List.forall_mem_cons.2 ⟨e2, List.forall_mem_cons.2 ⟨e3, fun _ h => nomatch h⟩⟩⟩)
    dsimp only [putsM, List.foldr] at F
    have N : News s.heap L h [] := News.nil
    clear F0 e1 e2 e3
    (try k_unmd)
    dsimp only
    k_fold
    k_steps
    · dsimp only
      unfold Stop
      match k, ha, hw with
      | 0, ha, hw => exact absurd ha (by simp at *; lia)
      | k + 1, ha, hw =>
        rw [fdivN, fmodN] at *
        refine ⟨k, Nat.lt_succ_self k, a / b, c + a % b, _, _, _, _, _, _, rfl, by assumption, rfl, rfl, rfl, ?_, ?_⟩
        · rw [Nat.pow_succ] at ha; exact Nat.div_lt_of_lt_mul (by rw [Nat.mul_comm]; exact ha)
        · rw [← hw, dg, List.sum_cons]; lia
    · have ha0 : a = 0 := by simp at *; lia
      subst ha0
      rw [dg_zero, Nat.add_zero] at hw
      unfold Stop
      (try dsimp only)
      (try k_fold)
      k_steps
      (try unfold Stop)
      (try dsimp only)
      rw [hw]
      exact hQ _ _ _ (Fr.keep (by assumption))
end Mine
namespace Mine
open PySem PySem.W PySem.W.X PyProof.Rows PySem.Calls
set_option maxRecDepth 100000
set_option maxHeartbeats 400000
theorem noExc {α : Type} {M : Model} {A : Around} {t : Sem α} {Q : α → Shared → Prop} {E : Value → Shared → Prop} {s : Shared} (h : wpAny M A t Q (fun _ _ => False) s) : wpAny M A t Q E s := wpAny_mono h (fun _ _ q => q) fun _ _ q => q.elim
abbrev pr : Program := PySem.Challenge.rw_oh0008_01.row.prog
structure Okk (w : World) (mg mb : Str → Option Value) (h : Heap) : Prop where
  X : (hh.heap_1 w.params).In h
  T : TopRead vw ls mg mb h
theorem Okk.keeps {w : World} {mg mb : Str → Option Value} {h h' : Heap} (O : Okk w mg mb h) (k : Keeps h h') : Okk w mg mb h' := ⟨fun a o e => k _ _ (O.X a o e), O.T.keeps k⟩
theorem bb_len : bootBuiltins (Str.ofString "len") = some (.builtin "len") := by kernel_rfl
theorem nn_len (P : Params) : nsIn (hh.heap_1 P) mainGlobals (Str.ofString "len") = some none := by kernel_rfl
theorem bb_range : bootBuiltins (Str.ofString "range") = some (.type "range") := by kernel_rfl
theorem nn_range (P : Params) : nsIn (hh.heap_1 P) mainGlobals (Str.ofString "range") = some none := by kernel_rfl
theorem bb_sorted : bootBuiltins (Str.ofString "sorted") = some (.builtin "sorted") := by kernel_rfl
theorem nn_sorted (P : Params) : nsIn (hh.heap_1 P) mainGlobals (Str.ofString "sorted") = some none := by kernel_rfl
theorem bb_sum : bootBuiltins (Str.ofString "sum") = some (.builtin "sum") := by kernel_rfl
theorem nn_sum (P : Params) : nsIn (hh.heap_1 P) mainGlobals (Str.ofString "sum") = some none := by kernel_rfl
theorem bb_iter : bootBuiltins (Str.ofString "iter") = some (.builtin "iter") := by kernel_rfl
theorem nn_iter (P : Params) : nsIn (hh.heap_1 P) mainGlobals (Str.ofString "iter") = some none := by kernel_rfl
theorem bb_next : bootBuiltins (Str.ofString "next") = some (.builtin "next") := by kernel_rfl
theorem nn_next (P : Params) : nsIn (hh.heap_1 P) mainGlobals (Str.ofString "next") = some none := by kernel_rfl
theorem gg_laid (P : Params) : nsIn (hh.heap_1 P) mainGlobals (Str.ofString "_law_laid") = some (some (.ref 100)) := by kernel_rfl
theorem fn_laid (P : Params) : fnIn (hh.heap_1 P) 100 = true := by kernel_rfl
theorem gg_sum (P : Params) : nsIn (hh.heap_1 P) mainGlobals (Str.ofString "_law_sum") = some (some (.ref 121)) := by kernel_rfl
theorem fn_sum (P : Params) : fnIn (hh.heap_1 P) 121 = true := by kernel_rfl
theorem gg_reduce (P : Params) : nsIn (hh.heap_1 P) mainGlobals (Str.ofString "reduce") = some (some (.ref 81)) := by kernel_rfl
theorem fn_reduce (P : Params) : fnIn (hh.heap_1 P) 81 = true := by kernel_rfl
theorem gg_parted (P : Params) : nsIn (hh.heap_1 P) mainGlobals (Str.ofString "_law_parted") = some (some (.ref 107)) := by kernel_rfl
theorem fn_parted (P : Params) : fnIn (hh.heap_1 P) 107 = true := by kernel_rfl
theorem gg_miss (P : Params) : nsIn (hh.heap_1 P) mainGlobals (Str.ofString "_initial_missing") = some (some (.ref 73)) := by kernel_rfl
theorem gg_row (P : Params) : nsIn (hh.heap_1 P) mainGlobals (Str.ofString "_law_row") = some (some (.ref 93)) := by kernel_rfl
theorem fn_row (P : Params) : fnIn (hh.heap_1 P) 93 = true := by kernel_rfl
theorem gg_ap (P : Params) : nsIn (hh.heap_1 P) mainGlobals (Str.ofString "Int2AP") = some (some (.ref 28)) := by kernel_rfl
theorem fn_ap (P : Params) : fnIn (hh.heap_1 P) 28 = true := by kernel_rfl
theorem gg_safe (P : Params) : nsIn (hh.heap_1 P) mainGlobals (Str.ofString "urlsafe_b64encode") = some (some (.ref 65)) := by kernel_rfl
theorem fn_safe (P : Params) : fnIn (hh.heap_1 P) 65 = true := by kernel_rfl
theorem gg_oct (P : Params) : nsIn (hh.heap_1 P) mainGlobals (Str.ofString "_law_octets") = some (some (.ref 88)) := by kernel_rfl
theorem fn_oct (P : Params) : fnIn (hh.heap_1 P) 88 = true := by kernel_rfl
theorem gg_ctk (P : Params) : nsIn (hh.heap_1 P) mainGlobals (Str.ofString "cmp_to_key") = some (some (.ref 72)) := by kernel_rfl
theorem fn_ctk (P : Params) : fnIn (hh.heap_1 P) 72 = true := by kernel_rfl
theorem gg_gap (P : Params) : nsIn (hh.heap_1 P) mainGlobals (Str.ofString "_law_gap") = some (some (.ref 114)) := by kernel_rfl
theorem fn_gap (P : Params) : fnIn (hh.heap_1 P) 114 = true := by kernel_rfl
theorem gg_often (P : Params) : nsIn (hh.heap_1 P) mainGlobals (Str.ofString "_law_as_often") = some (some (.ref 126)) := by kernel_rfl
theorem fn_often (P : Params) : fnIn (hh.heap_1 P) 126 = true := by kernel_rfl
theorem bb_zip : bootBuiltins (Str.ofString "zip") = some (.type "zip") := by kernel_rfl
theorem nn_zip (P : Params) : nsIn (hh.heap_1 P) mainGlobals (Str.ofString "zip") = some none := by kernel_rfl
section
variable {w : World} {mg mb : Str → Option Value} {M : Model} {A : Around} {E : Value → Shared → Prop} {s : Shared} {env : Env} {x : Str} {pos : Pos} {Q : Value → Shared → Prop} {v : Value}
theorem nmB (O : Okk w mg mb s.heap) (hv : bootBuiltins x = some v) (hf : nsIn (hh.heap_1 w.params) mainGlobals x = some none) (hk : env.scope.kind = .function) (hx : env.kindOf x = some .globalImplicit) (hg : env.globals = mainGlobals) (hb : env.builtins = builtinsNs) (h : Q v s)
    (hd : (x == ("__debug__" : Str)) = false := by decide) (hn : x ≠ "__name__" := by decide) : wpAny M A (eval (.Name x pos) env) Q E s := by
  refine wpAny_Name (ks_loadName_global hk hx (loadGlobal_builtin (by rw [hg]; exact O.T.g) (mg_none_of O.X O.T.g hf) (by rw [hb]; exact O.T.b) ((O.T.builtins _ hn).trans hv) h)) hd
theorem nmG (O : Okk w mg mb s.heap) (hf : nsIn (hh.heap_1 w.params) mainGlobals x = some (some v)) (hk : env.scope.kind = .function) (hx : env.kindOf x = some .globalImplicit) (hg : env.globals = mainGlobals) (h : Q v s)
    (hd : (x == ("__debug__" : Str)) = false := by decide) : wpAny M A (eval (.Name x pos) env) Q E s := by
  refine wpAny_Name (ks_loadName_global hk hx (loadGlobal_global (by rw [hg]; exact O.T.g) (mg_of O.X O.T.g hf) h)) hd
theorem nmL {m : Str → Option Value} {h₀ : Heap} (F : Fr h₀ env.locals s.heap m) (hv : m x = some v) (h : Q v s) (hk : env.scope.kind = .function := by rfl) (hx : env.kindOf x = some .local := by rfl) (hd : (x == ("__debug__" : Str)) = false := by decide) :
    wpAny M A (eval (.Name x pos) env) Q E s := wpAny_Name (wpAny_loadName_local hk hx F.ns hv h) hd
theorem callG {f : Addr} {e : Expr} {rest : List Expr} (O : Okk w mg mb s.heap) (hf : fnIn (hh.heap_1 w.params) f = true)
    (h : wpAny M A (spliced (backTo pos (starEach (e :: rest) env))) (fun vs s₁ => Okk w mg mb s₁.heap ∧ wpAny M A (call (.ref f) vs) Q E s₁) E s)
    (he : starEach (e :: rest) env = (false, eval e env) :: starEach rest env := by rfl) : wpAny M A (callWith pos (.ref f) [] (backTo pos (starEach (e :: rest) env)) []) Q E s := by
  unfold fnIn at hf
  split at hf
  · rename_i e1
    exact callWith_def rfl (wpAny_mono h (fun vs s₁ h₁ => ⟨h₁.1.X _ _ e1, h₁.2⟩) fun _ _ x => x) he
  · cases hf
theorem callF {f : Addr} {fd : FuncData} {oc : Value} {e : Expr} {rest : List Expr} {od : Option Addr} {sl : Array (Option Value)}
    (h : wpAny M A (spliced (backTo pos (starEach (e :: rest) env))) (fun vs s₁ => s₁.heap.get? f = some ⟨oc, od, .func fd, sl⟩ ∧ wpAny M A (call (.ref f) vs) Q E s₁) E s)
    (he : starEach (e :: rest) env = (false, eval e env) :: starEach rest env := by rfl) : wpAny M A (callWith pos (.ref f) [] (backTo pos (starEach (e :: rest) env)) []) Q E s := callWith_def rfl h he
end
end Mine
namespace Mine
open PySem PySem.W PySem.W.X PyProof.Rows PySem.Calls
set_option maxRecDepth 100000
set_option maxHeartbeats 8000000
local macro_rules | `(tactic| walk_at "mine enter") => `(tactic| (
  refine wpAny_call ?_
  k_dflt (refine' enterK ?k1 ?k2 ?k3 ?k4 ?k5 ?k6 ?k7 ?_ ?c2 ?c3 ?c4 ?c5; (case k1 => k_asm); (case k2 => exact TopRead.nolimit (by assumption)); (case k3 => k_is); (case k4 => k_is); (case k5 => (dsimp only [recursionLimit]; lia)); (case k6 => exact BindsTo.of_eq rfl); (case k7 => exact locs rfl); (case c2 => exact rfl); (case c3 => exact rfl); (case c4 => exact rfl); (case c5 => decide); k_whole)))
local macro_rules | `(tactic| walk_at "call type:zip") => `(tactic| refine stop_out ?_)
local macro_rules | `(tactic| k_all) => `(tactic| assumption)
def gapL : List Nat → List Nat → Int
  | x :: xs, y :: ys => if x ≠ y then (x : Int) - (y : Int) else gapL xs ys
  | _, _ => 0
theorem gap (w : World) (mg mb : Str → Option Value) (s : Shared) (dp un : Nat) (fr : Option (List Env)) (gd : Option (List Code)) (hdp : dp < 500) (Q E : Value → Shared → Prop)
    (X0 : (hh.heap_1 w.params).In s.heap) (T0 : TopRead vw ls mg mb s.heap) (a1 a2 r1 r2 : Addr) (xs ys : List Nat) (vs us rest1 rest2 : List Value)
    (h1 : s.heap.IsList a1 (Value.ref r1 :: rest1).toArray) (h2 : s.heap.IsList a2 (Value.ref r2 :: rest2).toArray)
    (h3 : s.heap.IsList r1 vs.toArray) (h4 : NatsAre vs xs) (h5 : s.heap.IsList r2 us.toArray) (h6 : NatsAre us ys) (hxl : xs.length ≤ 6) (hyl : ys.length = xs.length)
    (hQ : ∀ h' tk t, Keeps s.heap h' → Q (.int (gapL xs.reverse ys.reverse) t) {s with heap := h', toks := tk}) :
    wpAny (model PySem.Challenge.rw_oh0008_01.row.prog w) { handled := none, depth := dp, frames := fr, guards := gd, units := un } (call (.ref 114) [.ref a1, .ref a2]) Q E s := by
  revert X0; k_fill; intro X0
  walk_at "mine enter"
  intro L h₁ hL F N
  dsimp only
  refine noExc ?_
  refine wpAny_execs_cons ?_
  refine wpAny_For ?_
  k_fold
  k_steps
  unfold Stop
  (with_reducible rename Fr _ _ _ _ => F'); (with_reducible rename News _ _ _ _ => N')
  (with_reducible rename IntsAre _ (List.reverse (List.map _ ys)) => hIy)
  (with_reducible rename IntsAre _ (List.reverse (List.map _ xs)) => hIx)
  rw [← List.map_reverse] at hIx hIy
  have g1 := N' _ (.tail _ (.head _))
  have g2 := N' _ (.head _)
  refine forZip rfl ⟨_, g1.1, rfl, _, rfl⟩ ⟨_, g2.1, rfl, _, rfl⟩ (Ne.symm g1.2.1) (Ne.symm g2.2.1) F' N'
    (fun i m news => gapL xs.reverse ys.reverse = gapL (xs.reverse.drop i) (ys.reverse.drop i)) rfl ?_ ?_
  · rintro i x y T m₁ news₁ h₁ tk₁ own hx hy hT hJ hlt hown F₁ N₁
    obtain ⟨xi, tx, rfl, hxi⟩ := natsAre_get hIx (by simpa using hx)
    obtain ⟨yi, ty, rfl, hyi⟩ := natsAre_get hIy (by simpa using hy)
    have hdx : xs.reverse.drop i = xi :: xs.reverse.drop (i + 1) := by rw [List.drop_eq_getElem_cons (List.getElem?_eq_some_iff.mp hxi).1]; congr 1; exact (List.getElem?_eq_some_iff.mp hxi).2
    have hdy : ys.reverse.drop i = yi :: ys.reverse.drop (i + 1) := by rw [List.drop_eq_getElem_cons (List.getElem?_eq_some_iff.mp hyi).1]; congr 1; exact (List.getElem?_eq_some_iff.mp hyi).2
    rw [hdx, hdy, gapL] at hJ
    (try k_unmd); (try dsimp only); k_fold
    k_steps
    · (try unfold Stop)
      (try dsimp only)
      (try unfold Stop)
      (try dsimp only)
      rw [if_pos (by simp at *; lia)] at hJ
      rw [← hJ]
      exact hQ _ _ _ (Fr.keep (by assumption))
    · (try dsimp only)
      unfold Stop
      rw [if_neg (by simp at *; lia)] at hJ
      exact ⟨_, _, _, _, rfl, by assumption, by assumption, hlt, hJ⟩
  · rintro h' tk m' news' F4 N4 hJ
    (try k_unmd)
    (try dsimp only)
    (try k_unmd)
    (try k_fold)
    k_steps
    have hz : gapL xs.reverse ys.reverse = 0 := by
      rw [hJ, List.size_toArray, List.size_toArray, natsAre_len hIx, natsAre_len hIy, List.length_reverse, List.length_reverse, hyl, Nat.min_self, List.drop_eq_nil_of_le (by simp)]
      cases List.drop xs.length ys.reverse <;> rfl
    exact hz ▸ hQ _ _ _ (Fr.keep (by assumption))
end Mine
namespace Mine
open PySem PySem.W PySem.W.X PyProof.Rows PySem.Calls
set_option maxRecDepth 100000
set_option maxHeartbeats 400000
theorem fn1 (cl : List (Str × Addr)) : ∃ a1 a2 p1 p2 p3 p4 p5 p6 p7 p8 p9 k mr, kFn 1 cl = (Str.ofString "__lt__", Str.ofString "cmp_to_key.<locals>.K" ++ Str.ofString "." ++ Str.ofString "__lt__", { posonlyargs := [], args := [{ arg := Str.ofString "self", annotation := none, pos := a1 }, { arg := Str.ofString "other", annotation := none, pos := a2 }], vararg := none, kwonlyargs := [], kw_defaults := [], kwarg := none, defaults := [] },
   [Stmt.Return (some (.Compare (.Call (.Name (Str.ofString "mycmp") p1) [.Attribute (.Name (Str.ofString "self") p2) (Str.ofString "obj") p3, .Attribute (.Name (Str.ofString "other") p4) (Str.ofString "obj") p5] [] p6) [.Lt] [.Constant (.int 0) k p7] p8)) p9],
   { kind := ScopeKind.function, names := [(Str.ofString "self", NameKind.local), (Str.ofString "other", NameKind.local), (Str.ofString "mycmp", NameKind.free)], isGenerator := false, isCoroutine := false, more := mr }, cl) := ⟨_, _, _, _, _, _, _, _, _, _, _, _, _, rfl⟩
theorem enterH {prog : Program} {w : World} {A : Around} {s : Shared} {R : Result → Shared → Prop} {name qual : Str} {params : Arguments} {body body' : List Stmt} {scope : Scope} {cl : List (Str × Addr)} {pm ct : Value} {f c : Addr} {args : Args} {binds : List (Str × Value)}
    (ho : s.heap.get? f = some { cls := .type "function", data := .func (fdK name qual params body scope cl pm (.ref c) ct) }) (hrec : s.heap.CodeRec (.ref c) qual) (hlim : s.heap.NoLimit) (hroom : A.depth < recursionLimit) (eB : body = body')
    (hbind : BindsTo s (fdK name qual params body scope cl pm (.ref c) ct) args binds) (hcell : ∀ x ∈ scope.names, x.2 ≠ .cell) (hloc : ∀ y ∈ binds, scope.names.lookup y.1 = some .local)
    (h : ∀ L h₁, L = s.heap.objs.size → Fr s.heap L h₁ (fun y => binds.reverse.lookup y) → News s.heap L h₁ [] →
      wpAny (model prog w) (A.deeper (envX qual scope L f (.ref c) cl)) (execs body' (envX qual scope L f (.ref c) cl))
        (fun fl s' => R (.ok (.ret (match fl with | .ret v => v | _ => .none))) s')
        (fun e s' => wpAny (model prog w) (A.deeper (envX qual scope L f (.ref c) cl)) (leaving (envX qual scope L f (.ref c) cl) e) (fun _ s'' => R (.error e) s'') (fun e' s'' => R (.error e') s'') s')
        { s with heap := h₁, toks := s.toks + binds.length })
    (hco : scope.isCoroutine = false) (hgen : scope.isGenerator = false) (hk : scope.kind = .function) : codeAny (model prog w) A (.call (.ref f) args) R s :=
  codeAny_call_def (fd := fdK name qual params body scope cl pm (.ref c) ct) (body := body') (binds := binds) hroom ho rfl hlim hrec (congrArg FuncBody.stmts eB) hbind hcell hloc
    (fun h₁ hns hk₁ => h _ h₁ rfl ⟨hns, hk₁, Nat.le_refl _⟩ News.nil) hco hgen hk
section
variable {K : Frag} {C X f0 f1 : Addr}
theorem KI.get (I : KI K C X f0 f1) : specialIn K (.ref X) (Str.ofString "__get__") = some (some (.builtin "member_descriptor.__get__")) := by
  unfold specialIn; rw [I.tyX]; kernel_rfl
theorem KI.takes (I : KI K C X f0 f1) : takesIn K (.ref X) = some true := by
  have e : specialIn K (.ref X) "__set__" = some (some (.builtin "member_descriptor.__set__")) := by unfold specialIn; rw [I.tyX]; kernel_rfl
  unfold takesIn; rw [e]
theorem KI.isCls (I : KI K C X f0 f1) : isClsIn K C = true := by
  obtain ⟨_, _, e, _⟩ := I.c; unfold isClsIn clsIn; rw [e]; rfl
theorem KI.pget (I : KI K C X f0 f1) (name : Str) : plainGet K C name = true := by
  have e1 : findIn K (.ref C) "__getattribute__" = _ := I.getattr
  have e2 : findIn K (.ref C) "__getattr__" = _ := I.getattr2
  unfold plainGet; rw [e1, e2]; rfl
end
theorem keep114 (P : Params) : keepIn (hh.heap_1 P) (.ref 114) = true := by kernel_rfl
local macro_rules | `(tactic| walk_at "getAttr ref") => `(tactic| refine stop_out ?_)
theorem ltK (w : World) (mg mb : Str → Option Value) (s : Shared) (dp un : Nat) (fr : Option (List Env)) (gd : Option (List Code)) (hdp : dp < 480) (Q E : Value → Shared → Prop)
    (X0 : (hh.heap_1 w.params).In s.heap) (T0 : TopRead vw ls mg mb s.heap) (K : Frag) (C X f0 f1 ce P N0 : Addr) (pm : Value) (I : KI K C X f0 f1) (XK : K.In s.heap) (F1 : FnA P N0 s.heap f1 (kFn 1 [(Str.ofString "mycmp", ce)]) pm)
    (hce : ∃ o, s.heap.get? ce = some o ∧ o.data = .cell (some (.ref 114))) (x y a b dx dy r1 r2 : Addr) (hx : s.heap.get? x = some ⟨.ref C, some dx, .plain, #[some (.ref a)]⟩) (hdx : s.heap.get? dx = some emptyDict) (hy : s.heap.get? y = some ⟨.ref C, some dy, .plain, #[some (.ref b)]⟩) (hdy : s.heap.get? dy = some emptyDict)
    (xs ys : List Nat) (vs us rest1 rest2 : List Value) (g1 : s.heap.IsList a (Value.ref r1 :: rest1).toArray) (g2 : s.heap.IsList b (Value.ref r2 :: rest2).toArray)
    (g3 : s.heap.IsList r1 vs.toArray) (g4 : NatsAre vs xs) (g5 : s.heap.IsList r2 us.toArray) (g6 : NatsAre us ys) (hxl : xs.length ≤ 6) (hyl : ys.length = xs.length)
    (hQ : ∀ h' tk, Keeps s.heap h' → Q (.bool (decide (gapL xs.reverse ys.reverse < 0))) {s with heap := h', toks := tk}) :
    wpAny (model PySem.Challenge.rw_oh0008_01.row.prog w) { handled := none, depth := dp, frames := fr, guards := gd, units := un } (call (.ref f1) [.ref x, .ref y]) Q E s := by
  have X1 := X0
  revert X0; k_fill; intro X0
  obtain ⟨a1, a2, q1, q2, q3, q4, q5, q6, q7, q8, q9, qk, mr, eF⟩ := fn1 [(Str.ofString "mycmp", ce)]
  rw [eF] at F1
  obtain ⟨c, ct, e1, rec1, _⟩ := F1
  dsimp only at e1 rec1
  clear eF
  refine wpAny_call ?_
  refine enterH (binds := [(Str.ofString "self", .ref x), (Str.ofString "other", .ref y)]) e1 rec1 T0.nolimit ?_ rfl (BindsTo.of_eq rfl) (by intro x hx; simp only [List.mem_cons, List.not_mem_nil, or_false] at hx; rcases hx with rfl | rfl | rfl <;> (intro h; cases h)) (locs rfl) ?_ rfl rfl rfl
  · (show dp < 1000); lia
  intro L h₁ hL F N
  have XK1 : K.In h₁ := fun a o l => F.keep _ _ (XK a o l)
  obtain ⟨oc, ec, dc⟩ := hce
  refine wpAny_execs_cons (wpAny_Return_some (wpAny_Compare1 (Call_ (wpAny_Name (wpAny_loadName_free rfl rfl rfl ⟨_, F.keep _ _ ec, dc⟩ ?_)))))
  refine callWith_K (K := hh.heap_1 w.params) X1 (keep114 _) ?_
  refine args_cons (Attribute_any_ (wpAny_Name (wpAny_loadName_local rfl rfl F.ns (v := .ref x) rfl ?_)))
  refine get_slot F XK (I := ⟨F.keep _ _ hx, rfl, rfl, F.keep _ _ hdx⟩) (I.pget _) I.isCls I.obj I.get I.takes I.slot rfl rfl ?_
  refine args_cons (Attribute_any_ (wpAny_Name (wpAny_loadName_local rfl rfl F.ns (v := .ref y) rfl ?_)))
  refine get_slot F XK (I := ⟨F.keep _ _ hy, rfl, rfl, F.keep _ _ hdy⟩) (I.pget _) I.isCls I.obj I.get I.takes I.slot rfl rfl ?_
  refine args_nil ⟨fun a o l => F.keep _ _ (X1 a o l), ?_⟩
  refine gap w mg mb _ (dp + 1) (un + 3) _ _ (by lia) _ _ (fun a o l => F.keep _ _ (X1 a o l)) (T0.keeps F.keep) a b r1 r2 xs ys vs us rest1 rest2 (isList_keeps g1 F.keep) (isList_keeps g2 F.keep) (isList_keeps g3 F.keep) g4 (isList_keeps g5 F.keep) g6 hxl hyl ?_
  intro h2 tk2 t2 k2
  replace F := fr_keeps F k2
  replace N := news_keeps N k2
  refine wpAny_mkInt ?_
  refine lt_int ?_
  exact hQ _ _ F.keep
end Mine
namespace Mine
open PySem PySem.W PySem.W.X PyProof.Rows PySem.Calls
set_option maxRecDepth 100000
set_option maxHeartbeats 4000000
theorem frag_in {h : Heap} : ∀ {K : Frag}, (∀ p ∈ K, h.get? p.1 = some p.2) → K.In h := by
  intro K
  induction K with
  | nil => intro _ a o e; cases e
  | cons p r ih =>
    intro H a o e
    obtain ⟨b, x⟩ := p
    simp only [List.lookup] at e
    split at e
    · rename_i q; cases e; rw [beq_iff_eq.mp q]; exact H _ (.head _)
    · exact ih (fun p hp => H p (.tail _ hp)) a o e
theorem look_some {K : Frag} {a : Addr} {o : Obj} (m : (a, o) ∈ K) : ∃ o', K.lookup a = some o' := by
  induction K with
  | nil => cases m
  | cons p r ih =>
    obtain ⟨b, x⟩ := p
    show ∃ o', List.lookup a ((b, x) :: r) = some o'
    by_cases q : (a == b) = true
    · exact ⟨x, by simp only [List.lookup, q]⟩
    · rcases List.mem_cons.mp m with e | m
      · have e1 : a = b := congrArg Prod.fst e
        rw [e1] at q; simp at q
      · obtain ⟨o', e⟩ := ih m
        refine ⟨o', ?_⟩
        have q' : (a == b) = false := by simpa using q
        simp only [List.lookup, q']
        exact e
theorem look_in {h : Heap} {K : Frag} (H : ∀ p ∈ K, h.get? p.1 = some p.2) {a : Addr} {o : Obj} (m : (a, o) ∈ K) : K.lookup a = some o := by
  obtain ⟨o', e⟩ := look_some m
  have e1 := frag_in H a o' e
  have e2 := H _ m
  rw [e1] at e2
  cases e2
  exact e
theorem frag5 {h : Heap} {a b c d e : Addr} {o1 o2 o3 o4 o5 : Obj} (g1 : h.get? a = some o1) (g2 : h.get? b = some o2) (g3 : h.get? c = some o3) (g4 : h.get? d = some o4) (g5 : h.get? e = some o5) :
    ∃ K : Frag, K.In h ∧ K.lookup a = some o1 ∧ K.lookup b = some o2 ∧ K.lookup c = some o3 ∧ K.lookup d = some o4 ∧ K.lookup e = some o5 := by
  have H : ∀ p ∈ ([(a, o1), (b, o2), (c, o3), (d, o4), (e, o5)] : Frag), h.get? p.1 = some p.2 := by
    intro p hp
    simp only [List.mem_cons, List.not_mem_nil, or_false] at hp
    rcases hp with rfl | rfl | rfl | rfl | rfl
    · exact g1
    · exact g2
    · exact g3
    · exact g4
    · exact g5
  exact ⟨_, frag_in H, look_in H (by simp), look_in H (by simp), look_in H (by simp), look_in H (by simp), look_in H (by simp)⟩
theorem fn_obj {P NS : Addr} {h : Heap} {f : Addr} {name qual : Str} {ps : Arguments} {B : List Stmt} {S : Scope} {cl : List (Str × Addr)} {pm : Value} (x : FnAt P NS h f name qual ps B S cl pm) : ∃ fo, h.get? f = some { cls := .type "function", data := .func fo } := by
  obtain ⟨c, ct, e, _⟩ := x.it
  exact ⟨_, e⟩
theorem frag_aux {h : Heap} {C ce NS X P N0 B f0 f1 f2 f3 f4 f5 S St : Addr} {t0 q2 tx : Tok} {h1 h3 h4 h5 h6 h7 h8 h9 h10 h11 h12 ho hd : Int} {t1 t3 t4 t5 t6 t7 t8 t9 t10 t11 t12 q1 q3 to td : Tok} {pm : Value} {x0 x1 : FnD}
    (g1 : h.get? C = some (kcls C NS false [Str.ofString "obj"] (ksl5 B t0 q2))) (g2 : h.get? NS = some (dobj (ents3 h1 h3 h4 h5 h6 h7 h8 h9 h10 h11 h12 ho hd t1 t3 t4 t5 t6 t7 t8 t9 t10 t11 t12 q1 q3 to td f0 f1 f2 f3 f4 f5 S St X) 3))
    (g3 : h.get? X = some (mdesc C tx)) (F0 : FnA P N0 h f0 x0 pm) (F1 : FnA P N0 h f1 x1 pm) : ∃ (K : Frag), K.In h ∧ KI K C X f0 f1 := by
  obtain ⟨fo0, e0⟩ := fn_obj F0
  obtain ⟨fo1, e1⟩ := fn_obj F1
  obtain ⟨K, kin, l1, l2, l3, l4, l5⟩ := frag5 g1 g2 g3 e0 e1
  exact ⟨K, kin, KIn.ki ⟨l1, l2, l3, l4, l5, rfl⟩⟩
theorem KCls.frag {h : Heap} {C ce : Addr} (k : KCls h C ce) : ∃ (K : Frag) (X f0 f1 P N0 : Addr) (pm : Value), K.In h ∧ KI K C X f0 f1 ∧ FnA P N0 h f0 (kFn 0 []) pm ∧ FnA P N0 h f1 (kFn 1 [(Str.ofString "mycmp", ce)]) pm := by
  obtain ⟨NS, X, P, N0, B, t0, q2, tx, h1, h3, h4, h5, h6, h7, h8, h9, h10, h11, h12, ho, hd, t1, t3, t4, t5, t6, t7, t8, t9, t10, t11, t12, q1, q3, to, td, f0, f1, f2, f3, f4, f5, S, St, pm, g1, g2, g3, F0, F1⟩ := k.it
  obtain ⟨K, kin, kI⟩ := frag_aux (ce := ce) (x0 := kFn 0 []) (x1 := kFn 1 [(Str.ofString "mycmp", ce)]) g1 g2 g3 F0 F1
  exact ⟨K, X, f0, f1, P, N0, pm, kin, kI, F0, F1⟩
end Mine
namespace Mine
open PySem PySem.W PyProof.Rows
set_option maxRecDepth 100000
def krun {α : Type} (f : Nat → Nat → Bool) : KasT α → α
  | .ret a => a
  | .ask i j k => krun f (k (f i j))
theorem krun_bind {α β : Type} (f : Nat → Nat → Bool) (g : α → KasT β) : ∀ t : KasT α, krun f (t.bind g) = krun f (g (krun f t))
  | .ret _ => rfl
  | .ask i j k => by
    show krun f ((k (f i j)).bind g) = krun f (g (krun f (k (f i j))))
    exact krun_bind f g (k (f i j))
def at0 (p : Array Nat) (i : Nat) : Nat := p.getD i 0
theorem at0_eq (p : Array Nat) (i : Nat) : at0 p i = (p[i]?).getD 0 := by
  unfold at0; rw [Array.getD_eq_getD_getElem?]
theorem rev_at {p : Array Nat} {i j k : Nat} (hj : j ≤ p.size) : at0 (kas_rev p i j) k = if i ≤ k ∧ k < j then at0 p (i + j - 1 - k) else at0 p k := by
  rw [at0_eq]
  unfold kas_rev
  rw [getElem?_mirror_all hj k]
  split <;> rw [at0_eq]
theorem bub_at {p : Array Nat} {k l m : Nat} (hk : k < p.size) (hl : l ≤ k) : at0 (bubble p k (k - l)) m = if m = l then at0 p k else if l < m ∧ m ≤ k then at0 p (m - 1) else at0 p m := by
  rw [at0_eq, getElem?_bubble hk (k - l) (by lia) m, show k - (k - l) = l by lia]
  split
  · rw [at0_eq]
  · split <;> rw [at0_eq]
section
variable (key : Nat → Int)
abbrev kf (a b : Nat) : Bool := decide (key a < key b)
def R (a b : Nat) : Prop := key a < key b ∨ (key a = key b ∧ a < b)
def Srt (n : Nat) (p : Array Nat) : Prop := ∀ i j, i < j → j < n → R key (at0 p i) (at0 p j)
def Frs (N n : Nat) (p : Array Nat) : Prop := (∀ i, n ≤ i → i < N → at0 p i = i) ∧ (∀ i, i < n → at0 p i < n)
variable {key}
theorem Srt.le {n : Nat} {p : Array Nat} (h : Srt key n p) {i j : Nat} (hij : i ≤ j) (hj : j < n) : key (at0 p i) ≤ key (at0 p j) := by
  rcases Nat.lt_or_eq_of_le hij with q | q
  · rcases h i j q hj with r | r <;> lia
  · rw [q]; exact Int.le_refl _
theorem asc_ok {N : Nat} {p : Array Nat} : ∀ (fu n : Nat), 1 ≤ n → n + fu = N → Srt key n p → Frs N n p →
    n ≤ krun (kf key) (kas_asc p fu n) ∧ krun (kf key) (kas_asc p fu n) ≤ N ∧ Srt key (krun (kf key) (kas_asc p fu n)) p ∧ Frs N (krun (kf key) (kas_asc p fu n)) p ∧
      (krun (kf key) (kas_asc p fu n) < N → key (at0 p (krun (kf key) (kas_asc p fu n))) < key (at0 p (krun (kf key) (kas_asc p fu n) - 1)))
  | 0, n, h1, e, hs, hf => by
    show n ≤ n ∧ n ≤ N ∧ Srt key n p ∧ Frs N n p ∧ (n < N → _)
    exact ⟨Nat.le_refl _, by lia, hs, hf, fun q => by lia⟩
  | fu + 1, n, h1, e, hs, hf => by
    have er : krun (kf key) (kas_asc p (fu + 1) n) = if kf key (at0 p n) (at0 p (n - 1)) = true then n else krun (kf key) (kas_asc p fu (n + 1)) := by
      show krun (kf key) (if kf key (at0 p n) (at0 p (n - 1)) = true then .ret n else kas_asc p fu (n + 1)) = _
      split <;> rfl
    rw [er]
    split
    · rename_i c
      exact ⟨Nat.le_refl _, by lia, hs, hf, fun _ => by simpa using c⟩
    · rename_i c
      have c' : key (at0 p (n - 1)) ≤ key (at0 p n) := by simpa using c
      have pn : at0 p n = n := hf.1 n (Nat.le_refl _) (by lia)
      have hs' : Srt key (n + 1) p := by
        intro i j hij hj
        by_cases q : j = n
        · subst q
          have l1 := hs.le (i := i) (j := j - 1) (by lia) (by lia)
          have l2 := hf.2 i (by lia)
          unfold R
          by_cases z : key (at0 p i) < key (at0 p j)
          · exact .inl z
          · exact .inr ⟨by lia, by lia⟩
        · exact hs i j hij (by lia)
      have hf' : Frs N (n + 1) p := ⟨fun i a b => hf.1 i (by lia) b, fun i a => by
        by_cases q : i = n
        · rw [q, pn]; lia
        · have := hf.2 i (by lia); lia⟩
      obtain ⟨a1, a2, a3, a4, a5⟩ := asc_ok fu (n + 1) (by lia) (by lia) hs' hf'
      exact ⟨by lia, a2, a3, a4, a5⟩
theorem place_ok {p : Array Nat} {k : Nat} (hs : Srt key k p) : ∀ (fu l r : Nat), r - l ≤ fu → l ≤ r → r ≤ k → (∀ i, i < l → key (at0 p i) ≤ key (at0 p k)) → (∀ i, r ≤ i → i < k → key (at0 p k) < key (at0 p i)) →
    krun (kf key) (kas_place p k fu l r) ≤ k ∧ (∀ i, i < krun (kf key) (kas_place p k fu l r) → key (at0 p i) ≤ key (at0 p k)) ∧ (∀ i, krun (kf key) (kas_place p k fu l r) ≤ i → i < k → key (at0 p k) < key (at0 p i))
  | 0, l, r, h1, h2, h3, hl, hr => by
    show l ≤ k ∧ (∀ i, i < l → _) ∧ (∀ i, l ≤ i → _)
    exact ⟨by lia, hl, fun i a b => hr i (by lia) b⟩
  | fu + 1, l, r, h1, h2, h3, hl, hr => by
    have er : krun (kf key) (kas_place p k (fu + 1) l r) = if l ≥ r then l else if kf key (at0 p k) (at0 p ((l + r) / 2)) = true then krun (kf key) (kas_place p k fu l ((l + r) / 2)) else krun (kf key) (kas_place p k fu ((l + r) / 2 + 1) r) := by
      show krun (kf key) (if l ≥ r then .ret l else .ask (at0 p k) (at0 p ((l + r) / 2)) fun c => if c = true then kas_place p k fu l ((l + r) / 2) else kas_place p k fu ((l + r) / 2 + 1) r) = _
      split
      · rfl
      · show krun (kf key) (if kf key (at0 p k) (at0 p ((l + r) / 2)) = true then kas_place p k fu l ((l + r) / 2) else kas_place p k fu ((l + r) / 2 + 1) r) = _
        split <;> rfl
    rw [er]
    split
    · exact ⟨by lia, hl, fun i a b => hr i (by lia) b⟩
    · split
      · rename_i c
        have c' : key (at0 p k) < key (at0 p ((l + r) / 2)) := by simpa using c
        exact place_ok hs fu l ((l + r) / 2) (by lia) (by lia) (by lia) hl fun i a b => by
          have := hs.le (i := (l + r) / 2) (j := i) a b; lia
      · rename_i c
        have c' : key (at0 p ((l + r) / 2)) ≤ key (at0 p k) := by simpa using c
        exact place_ok hs fu ((l + r) / 2 + 1) r (by lia) (by lia) h3 (fun i a => by
          have := hs.le (i := i) (j := (l + r) / 2) (by lia) (by lia); lia) hr
theorem bin_ok {N : Nat} : ∀ (fu : Nat) (p : Array Nat) (k : Nat), p.size = N → k + fu = N → Srt key k p → Frs N k p → (krun (kf key) (kas_bin fu p k)).size = N ∧ Srt key N (krun (kf key) (kas_bin fu p k)) ∧ (krun (kf key) (kas_bin fu p k)).Perm p
  | 0, p, k, hz, e, hs, hf => by
    show p.size = N ∧ Srt key N p ∧ p.Perm p
    have : k = N := by lia
    exact ⟨hz, this ▸ hs, Array.Perm.refl _⟩
  | fu + 1, p, k, hz, e, hs, hf => by
    have er : krun (kf key) (kas_bin (fu + 1) p k) = krun (kf key) (kas_bin fu (bubble p k (k - krun (kf key) (kas_place p k k 0 k))) (k + 1)) := krun_bind _ _ _
    obtain ⟨b1, b2, b3⟩ := place_ok hs k 0 k (by lia) (by lia) (Nat.le_refl _) (fun i a => absurd a (Nat.not_lt_zero _)) (fun i a b => absurd b (by lia))
    rw [er]
    generalize krun (kf key) (kas_place p k k 0 k) = l at *
    have hk : k < p.size := by lia
    have pk : at0 p k = k := hf.1 k (Nat.le_refl _) (by lia)
    have hs' : Srt key (k + 1) (bubble p k (k - l)) := by
      intro i j hij hj
      rw [bub_at hk b1, bub_at hk b1]
      unfold R
      by_cases q1 : i = l
      · rw [if_pos q1, if_neg (by lia), if_pos (by lia)]
        exact .inl (b3 (j - 1) (by lia) (by lia))
      · rw [if_neg q1]
        by_cases q2 : l < i
        · rw [if_pos (by lia), if_neg (by lia), if_pos (by lia)]
          exact hs (i - 1) (j - 1) (by lia) (by lia)
        · rw [if_neg (by lia)]
          by_cases q3 : j = l
          · rw [if_pos q3]
            have := b2 i (by lia)
            have := hf.2 i (by lia)
            by_cases z : key (at0 p i) < key (at0 p k)
            · exact .inl z
            · exact .inr ⟨by lia, by lia⟩
          · rw [if_neg q3]
            by_cases q4 : l < j
            · rw [if_pos (by lia)]
              by_cases q5 : i = j - 1
              · exact absurd q5 (by lia)
              · exact hs i (j - 1) (by lia) (by lia)
            · rw [if_neg (by lia)]
              exact hs i j hij (by lia)
    have hf' : Frs N (k + 1) (bubble p k (k - l)) := by
      refine ⟨fun i a b => ?_, fun i a => ?_⟩
      · rw [bub_at hk b1, if_neg (by lia), if_neg (by lia)]
        exact hf.1 i (by lia) b
      · rw [bub_at hk b1]
        split
        · lia
        · split
          · have := hf.2 (i - 1) (by lia); lia
          · have := hf.2 i (by lia); lia
    obtain ⟨c1, c2, c3⟩ := bin_ok fu (bubble p k (k - l)) (k + 1) (by rw [bubble_size]; exact hz) (by lia) hs' hf'
    exact ⟨c1, c2, c3.trans (bubble_perm _ _ _)⟩
end
end Mine
namespace Mine
open PySem PySem.W PyProof.Rows
set_option maxRecDepth 100000
section
variable {key : Nat → Int}
variable (key) in
def SD (n : Nat) (p : Array Nat) : Prop := ∀ i j, i < j → j < n → R key (at0 p j) (at0 p i)
variable (key) in
structure Dsc (n q : Nat) (p : Array Nat) : Prop where
  le : q + 1 ≤ n
  a : ∀ i j, i < j → j < n - (q + 1) → R key (at0 p j) (at0 p i)
  b : ∀ i j, i < n - (q + 1) → n - (q + 1) ≤ j → j < n → key (at0 p j) < key (at0 p i)
  c : ∀ i j, n - (q + 1) ≤ i → i < j → j < n → key (at0 p i) = key (at0 p j) ∧ at0 p i < at0 p j
theorem Dsc.fin {n q : Nat} {p : Array Nat} (D : Dsc key n q p) (hz : n ≤ p.size) : SD key n (kas_rev p (n - (q + 1)) n) := by
  intro i j hij hj
  have := D.le
  rw [rev_at hz, rev_at hz]
  by_cases h1 : n - (q + 1) ≤ i
  · rw [if_pos (by lia), if_pos (by lia)]
    have := D.c (n - (q + 1) + n - 1 - j) (n - (q + 1) + n - 1 - i) (by lia) (by lia) (by lia)
    exact .inr this
  · rw [if_neg (show ¬ (n - (q + 1) ≤ i ∧ i < n) by lia)]
    by_cases h2 : n - (q + 1) ≤ j
    · rw [if_pos (by lia)]
      exact .inl (D.b i (n - (q + 1) + n - 1 - j) (by lia) (by lia) (by lia))
    · rw [if_neg (by lia)]
      exact D.a i j hij (by lia)
theorem Dsc.fin0 {n : Nat} {p : Array Nat} (D : Dsc key n 0 p) : SD key n p := by
  intro i j hij hj
  have := D.le
  by_cases h2 : j = n - 1
  · exact .inl (D.b i j (by lia) (by lia) (by lia))
  · exact D.a i j hij (by lia)
theorem Frs.rev {N n b : Nat} {p : Array Nat} (h : Frs N n p) (hz : n ≤ p.size) : Frs N n (kas_rev p b n) := by
  refine ⟨fun i a c => ?_, fun i a => ?_⟩
  · rw [rev_at hz, if_neg (by lia)]; exact h.1 i a c
  · rw [rev_at hz]
    split
    · exact h.2 _ (by lia)
    · exact h.2 _ a
theorem SD.le {n : Nat} {p : Array Nat} (h : SD key n p) {i j : Nat} (hij : i ≤ j) (hj : j < n) : key (at0 p j) ≤ key (at0 p i) := by
  rcases Nat.lt_or_eq_of_le hij with q | q
  · rcases h i j q hj with r | r <;> lia
  · rw [q]; exact Int.le_refl _
theorem SD.next {N n : Nat} {p : Array Nat} (h : SD key n p) (h1 : 1 ≤ n) (c : key (at0 p n) < key (at0 p (n - 1))) : Dsc key (n + 1) 0 p := by
  refine ⟨by lia, fun i j a b => h i j a (by lia), fun i j a b d => ?_, fun i j a b d => by lia⟩
  have : j = n := by lia
  subst this
  have := h.le (i := i) (j := j - 1) (by lia) (by lia)
  lia
theorem desc_ok {N : Nat} : ∀ (fu : Nat) (p : Array Nat) (n q : Nat), p.size = N → n + fu = N → Dsc key n q p → Frs N n p →
    ∃ p' n' q', krun (kf key) (kas_desc fu p n q) = (p', n', q') ∧ p'.size = N ∧ n ≤ n' ∧ n' ≤ N ∧ Dsc key n' q' p' ∧ Frs N n' p' ∧ p'.Perm p
  | 0, p, n, q, hz, e, D, hf => ⟨p, n, q, rfl, hz, Nat.le_refl _, by lia, D, hf, Array.Perm.refl _⟩
  | fu + 1, p, n, q, hz, e, D, hf => by
    have hle := D.le
    have pn : at0 p n = n := hf.1 n (Nat.le_refl _) (by lia)
    have er : krun (kf key) (kas_desc (fu + 1) p n q) = if kf key (at0 p n) (at0 p (n - 1)) = true then (if q > 0 then krun (kf key) (kas_desc fu (kas_rev p (n - (q + 1)) n) (n + 1) 0) else krun (kf key) (kas_desc fu p (n + 1) 0))
        else if kf key (at0 p (n - 1)) (at0 p n) = true then (p, n, q) else krun (kf key) (kas_desc fu p (n + 1) (q + 1)) := by
      show krun (kf key) (if kf key (at0 p n) (at0 p (n - 1)) = true then (if q > 0 then kas_desc fu (kas_rev p (n - (q + 1)) n) (n + 1) 0 else kas_desc fu p (n + 1) 0)
        else .ask (at0 p (n - 1)) (at0 p n) fun d => if d = true then .ret (p, n, q) else kas_desc fu p (n + 1) (q + 1)) = _
      split
      · split <;> rfl
      · show krun (kf key) (if kf key (at0 p (n - 1)) (at0 p n) = true then .ret (p, n, q) else kas_desc fu p (n + 1) (q + 1)) = _
        split <;> rfl
    have grow : ∀ p' : Array Nat, Frs N n p' → Frs N (n + 1) p' := fun p' h => ⟨fun i a b => h.1 i (by lia) b, fun i a => by
      by_cases z : i = n
      · rw [z, h.1 n (Nat.le_refl _) (by lia)]; lia
      · have := h.2 i (by lia); lia⟩
    rw [er]
    split
    · rename_i c
      have c' : key (at0 p n) < key (at0 p (n - 1)) := by simpa using c
      split
      · rename_i hq
        have hzn : n ≤ p.size := by lia
        have S := D.fin hzn
        have c2 : key (at0 (kas_rev p (n - (q + 1)) n) n) < key (at0 (kas_rev p (n - (q + 1)) n) (n - 1)) := by
          rw [rev_at hzn, rev_at hzn, if_neg (by lia), if_pos (by lia)]
          have := D.c (n - (q + 1)) (n - 1) (Nat.le_refl _) (by lia) (by lia)
          rw [show n - (q + 1) + n - 1 - (n - 1) = n - (q + 1) by lia]
          lia
        obtain ⟨p', n', q', e', a1, a2, a3, a4, a5, a6⟩ := desc_ok fu (kas_rev p (n - (q + 1)) n) (n + 1) 0 (by rw [kas_rev_size]; exact hz) (by lia) (S.next (N := N) (by lia) c2) (grow _ (hf.rev hzn))
        exact ⟨p', n', q', e', a1, by lia, a3, a4, a5, a6.trans (mirror_perm _ _ _ _)⟩
      · rename_i hq
        have q0 : q = 0 := by lia
        subst q0
        obtain ⟨p', n', q', e', a1, a2, a3, a4, a5, a6⟩ := desc_ok fu p (n + 1) 0 hz (by lia) (D.fin0.next (N := N) (by lia) c') (grow _ hf)
        exact ⟨p', n', q', e', a1, by lia, a3, a4, a5, a6⟩
    · rename_i c
      have c' : key (at0 p (n - 1)) ≤ key (at0 p n) := by simpa using c
      split
      · exact ⟨p, n, q, rfl, hz, Nat.le_refl _, by lia, D, hf, Array.Perm.refl _⟩
      · rename_i c2
        have c2' : key (at0 p n) ≤ key (at0 p (n - 1)) := by simpa using c2
        have D' : Dsc key (n + 1) (q + 1) p := by
          refine ⟨by lia, fun i j a b => D.a i j a (by lia), fun i j a b d => ?_, fun i j a b d => ?_⟩
          · by_cases z : j = n
            · have := D.b i (n - 1) (by lia) (by lia) (by lia)
              rw [z]; lia
            · exact D.b i j (by lia) (by lia) (by lia)
          · by_cases z : j = n
            · subst z
              have l2 := hf.2 i (by lia)
              by_cases z2 : i = j - 1
              · subst z2; lia
              · have := D.c i (j - 1) (by lia) (by lia) (by lia)
                lia
            · exact D.c i j (by lia) b (by lia)
        obtain ⟨p', n', q', e', a1, a2, a3, a4, a5, a6⟩ := desc_ok fu p (n + 1) (q + 1) hz (by lia) D' (grow _ hf)
        exact ⟨p', n', q', e', a1, by lia, a3, a4, a5, a6⟩
abbrev Good (key : Nat → Int) (N : Nat) (p₀ : Array Nat) (r : Nat × Array Nat) : Prop := 1 ≤ r.1 ∧ r.1 ≤ N ∧ r.2.size = N ∧ Srt key r.1 r.2 ∧ Frs N r.1 r.2 ∧ r.2.Perm p₀
theorem SD.rev {n : Nat} {p : Array Nat} (h : SD key n p) (hz : n ≤ p.size) : Srt key n (kas_rev p 0 n) := by
  intro i j hij hj
  rw [rev_at hz, rev_at hz, if_pos (by lia), if_pos (by lia)]
  exact h _ _ (by lia) (by lia)
theorem Srt.rev {n : Nat} {p : Array Nat} (h : Srt key n p) (hz : n ≤ p.size) : SD key n (kas_rev p 0 n) := by
  intro i j hij hj
  rw [rev_at hz, rev_at hz, if_pos (by lia), if_pos (by lia)]
  exact h _ _ (by lia) (by lia)
theorem tail3_ok {N n : Nat} {p : Array Nat} (hz : p.size = N) (h1 : 1 ≤ n) (hn : n ≤ N) (S : SD key n p) (hf : Frs N n p) : Good key N p (krun (kf key) (kas_tail3 n N p)) := by
  have er : krun (kf key) (kas_tail3 n N p) = (krun (kf key) (kas_asc (kas_rev p 0 n) (N - n) n), kas_rev p 0 n) := krun_bind _ _ _
  obtain ⟨a1, a2, a3, a4, _⟩ := asc_ok (N - n) n h1 (by lia) (S.rev (by lia)) (hf.rev (b := 0) (by lia))
  rw [er]
  exact ⟨by show 1 ≤ _; lia, a2, by rw [kas_rev_size]; exact hz, a3, a4, mirror_perm _ _ _ _⟩
theorem descPart_ok {N n : Nat} {p : Array Nat} (hz : p.size = N) (h1 : 1 ≤ n) (hn : n + 1 ≤ N) (S : SD key n p) (hf : Frs N n p) (c : key (at0 p n) < key (at0 p (n - 1))) : Good key N p (krun (kf key) (kas_descPart n N p)) := by
  have hf' : Frs N (n + 1) p := ⟨fun i a b => hf.1 i (by lia) b, fun i a => by
    by_cases z : i = n
    · rw [z, hf.1 n (Nat.le_refl _) (by lia)]; lia
    · have := hf.2 i (by lia); lia⟩
  obtain ⟨p', n', q', e', a1, a2, a3, D, F, P⟩ := desc_ok (N - (n + 1)) p (n + 1) 0 hz (by lia) (S.next (N := N) h1 c) hf'
  have er : krun (kf key) (kas_descPart n N p) = krun (kf key) (if q' > 0 then kas_tail3 n' N (kas_rev p' (n' - (q' + 1)) n') else kas_tail3 n' N p') := by
    show krun (kf key) ((kas_desc (N - (n + 1)) p (n + 1) 0).bind _) = _
    rw [krun_bind, e']
  rw [er]
  split
  · obtain ⟨g1, g2, g3, g4, g5, g6⟩ := tail3_ok (p := kas_rev p' (n' - (q' + 1)) n') (by rw [kas_rev_size]; exact a1) (by lia) a3 (D.fin (by lia)) (F.rev (by lia))
    exact ⟨g1, g2, g3, g4, g5, g6.trans ((mirror_perm _ _ _ _).trans P)⟩
  · rename_i hq
    have q0 : q' = 0 := by lia
    subst q0
    obtain ⟨g1, g2, g3, g4, g5, g6⟩ := tail3_ok (p := p') a1 (by lia) a3 D.fin0 F
    exact ⟨g1, g2, g3, g4, g5, g6.trans P⟩
theorem count_ok {N : Nat} {p : Array Nat} (hz : p.size = N) (hN : 1 ≤ N) (hid : ∀ i, i < N → at0 p i = i) : Good key N p (krun (kf key) (kas_count N p)) := by
  have s1 : Srt key 1 p := fun i j a b => by lia
  have f1 : Frs N 1 p := ⟨fun i _ b => hid i b, fun i a => by rw [hid i (by lia)]; exact a⟩
  obtain ⟨a1, a2, a3, a4, a5⟩ := asc_ok (N - 1) 1 (Nat.le_refl _) (by lia) s1 f1
  have er : krun (kf key) (kas_count N p) = krun (kf key) (if (krun (kf key) (kas_asc p (N - 1) 1) == N) = true then .ret (krun (kf key) (kas_asc p (N - 1) 1), p) else if krun (kf key) (kas_asc p (N - 1) 1) > 1 then .ask (at0 p 0) (at0 p (krun (kf key) (kas_asc p (N - 1) 1) - 1)) fun c => if c = true then .ret (krun (kf key) (kas_asc p (N - 1) 1), p) else kas_descPart (krun (kf key) (kas_asc p (N - 1) 1)) N (kas_rev p 0 (krun (kf key) (kas_asc p (N - 1) 1)))
      else kas_descPart (krun (kf key) (kas_asc p (N - 1) 1)) N p) := krun_bind _ _ _
  rw [er]
  generalize krun (kf key) (kas_asc p (N - 1) 1) = n at *
  by_cases hn : n = N
  · rw [if_pos (by simp [hn])]
    exact ⟨a1, a2, hz, a3, a4, Array.Perm.refl _⟩
  · rw [if_neg (by simp [hn])]
    have lt : n < N := by lia
    have c := a5 lt
    by_cases h1 : n > 1
    · rw [if_pos h1]
      show Good key N p (krun (kf key) (if kf key (at0 p 0) (at0 p (n - 1)) = true then .ret (n, p) else kas_descPart n N (kas_rev p 0 n)))
      split
      · exact ⟨a1, a2, hz, a3, a4, Array.Perm.refl _⟩
      · rename_i d
        have d' : key (at0 p (n - 1)) ≤ key (at0 p 0) := by simpa using d
        obtain ⟨g1, g2, g3, g4, g5, g6⟩ := descPart_ok (p := kas_rev p 0 n) (n := n) (by rw [kas_rev_size]; exact hz) a1 (by lia) (a3.rev (by lia)) (a4.rev (by lia)) (by
          rw [rev_at (by lia), rev_at (by lia), if_neg (by lia), if_pos (by lia), show 0 + n - 1 - (n - 1) = 0 by lia]
          lia)
        exact ⟨g1, g2, g3, g4, g5, g6.trans (mirror_perm _ _ _ _)⟩
    · rw [if_neg h1]
      have n1 : n = 1 := by lia
      subst n1
      exact descPart_ok hz (Nat.le_refl _) (by lia) (fun i j a b => by lia) a4 c
theorem sort_ok {N : Nat} (hN : 1 ≤ N) : (krun (kf key) (kas_sort N)).size = N ∧ Srt key N (krun (kf key) (kas_sort N)) ∧ (krun (kf key) (kas_sort N)).Perm (List.range N).toArray := by
  have hz : (List.range N).toArray.size = N := by simp
  have hid : ∀ i, i < N → at0 (List.range N).toArray i = i := fun i h => by
    rw [at0_eq]; simp [h]
  obtain ⟨g1, g2, g3, g4, g5, g6⟩ := count_ok (key := key) hz hN hid
  have er : krun (kf key) (kas_sort N) = krun (kf key) (if (krun (kf key) (kas_count N (List.range N).toArray)).1 < N then kas_bin (N - max (krun (kf key) (kas_count N (List.range N).toArray)).1 1) (krun (kf key) (kas_count N (List.range N).toArray)).2 (max (krun (kf key) (kas_count N (List.range N).toArray)).1 1) else .ret (krun (kf key) (kas_count N (List.range N).toArray)).2) := krun_bind _ _ _
  rw [er]
  generalize krun (kf key) (kas_count N (List.range N).toArray) = r at *
  split
  · have e : max r.1 1 = r.1 := by lia
    rw [e]
    obtain ⟨c1, c2, c3⟩ := bin_ok (N - r.1) r.2 r.1 g3 (by lia) g4 g5
    exact ⟨c1, c2, c3.trans g6⟩
  · have : r.1 = N := by lia
    exact ⟨g3, this ▸ g4, g6⟩
end
end Mine
namespace Mine
open PySem PySem.W PyProof.Rows
set_option maxRecDepth 100000
def kok {α : Type} (f : Nat → Nat → Bool) (N : Nat) : KasT α → Prop
  | .ret _ => True
  | .ask i j k => i < N ∧ j < N ∧ kok f N (k (f i j))
theorem kok_bind {α β : Type} {f : Nat → Nat → Bool} {N : Nat} {g : α → KasT β} : ∀ {t : KasT α}, kok f N t → kok f N (g (krun f t)) → kok f N (t.bind g)
  | .ret _, _, h => h
  | .ask i j k, ⟨a, b, c⟩, h => ⟨a, b, kok_bind (t := k (f i j)) c h⟩
def Bnd (N : Nat) (p : Array Nat) : Prop := ∀ i, at0 p i < N
theorem bnd_iff {N : Nat} {p : Array Nat} (hN : 0 < N) : Bnd N p ↔ ∀ x ∈ p, x < N := by
  constructor
  · intro h x hx
    obtain ⟨i, hi, rfl⟩ := Array.mem_iff_getElem.mp hx
    have := h i
    rw [at0_eq] at this
    simpa [hi] using this
  · intro h i
    rw [at0_eq]
    by_cases hi : i < p.size
    · simp only [hi, Array.getElem?_eq_getElem, Option.getD_some]
      exact h _ (Array.getElem_mem hi)
    · rw [Array.getElem?_eq_none (by lia)]; exact hN
theorem Bnd.perm {N : Nat} {p q : Array Nat} (hN : 0 < N) (h : Bnd N p) (e : q.Perm p) : Bnd N q :=
  (bnd_iff hN).2 fun x hx => (bnd_iff hN).1 h x (e.mem_iff.mp hx)
section
variable {f : Nat → Nat → Bool} {N : Nat}
theorem asc_k {p : Array Nat} (h : Bnd N p) : ∀ fu n, kok f N (kas_asc p fu n)
  | 0, _ => trivial
  | fu + 1, n => ⟨h _, h _, by
    dsimp only
    split
    · trivial
    · exact asc_k h fu (n + 1)⟩
theorem place_k {p : Array Nat} {k : Nat} (h : Bnd N p) : ∀ fu l r, kok f N (kas_place p k fu l r)
  | 0, _, _ => trivial
  | fu + 1, l, r => by
    unfold kas_place
    split
    · trivial
    · refine ⟨h _, h _, ?_⟩
      dsimp only
      split
      · exact place_k h fu _ _
      · exact place_k h fu _ _
theorem bin_k (hN : 0 < N) : ∀ fu (p : Array Nat) k, Bnd N p → kok f N (kas_bin fu p k)
  | 0, _, _, _ => trivial
  | fu + 1, p, k, h => kok_bind (place_k h _ _ _) (bin_k hN fu _ _ (h.perm hN (bubble_perm _ _ _)))
theorem desc_k (hN : 0 < N) : ∀ fu (p : Array Nat) n q, Bnd N p → kok f N (kas_desc fu p n q)
  | 0, _, _, _, _ => trivial
  | fu + 1, p, n, q, h => ⟨h _, h _, by
    dsimp only
    split
    · split
      · exact desc_k hN fu _ _ _ (h.perm hN (mirror_perm _ _ _ _))
      · exact desc_k hN fu _ _ _ h
    · refine ⟨h _, h _, ?_⟩
      dsimp only
      split
      · trivial
      · exact desc_k hN fu _ _ _ h⟩
theorem desc_b (hN : 0 < N) : ∀ fu (p : Array Nat) n q, Bnd N p → Bnd N (krun f (kas_desc fu p n q)).1
  | 0, _, _, _, h => h
  | fu + 1, p, n, q, h => by
    show Bnd N (krun f (if f (at0 p n) (at0 p (n - 1)) = true then (if q > 0 then kas_desc fu (kas_rev p (n - (q + 1)) n) (n + 1) 0 else kas_desc fu p (n + 1) 0)
        else .ask (at0 p (n - 1)) (at0 p n) fun d => if d = true then .ret (p, n, q) else kas_desc fu p (n + 1) (q + 1))).1
    split
    · split
      · exact desc_b hN fu _ _ _ (h.perm hN (mirror_perm _ _ _ _))
      · exact desc_b hN fu _ _ _ h
    · show Bnd N (krun f (if f (at0 p (n - 1)) (at0 p n) = true then .ret (p, n, q) else kas_desc fu p (n + 1) (q + 1))).1
      split
      · exact h
      · exact desc_b hN fu _ _ _ h
theorem tail3_k {p : Array Nat} (hN : 0 < N) (h : Bnd N p) (n m : Nat) : kok f N (kas_tail3 n m p) := kok_bind (asc_k (h.perm hN (mirror_perm _ _ _ _)) _ _) trivial
theorem tail3_b {p : Array Nat} (hN : 0 < N) (h : Bnd N p) (n m : Nat) : Bnd N (krun f (kas_tail3 n m p)).2 := by
  have e : krun f (kas_tail3 n m p) = (_, kas_rev p 0 n) := krun_bind _ _ _
  rw [e]; exact h.perm hN (mirror_perm _ _ _ _)
theorem descPart_k {p : Array Nat} (hN : 0 < N) (h : Bnd N p) (n m : Nat) : kok f N (kas_descPart n m p) ∧ Bnd N (krun f (kas_descPart n m p)).2 := by
  have hb := desc_b (f := f) hN (m - (n + 1)) p (n + 1) 0 h
  have er : krun f (kas_descPart n m p) = krun f (if (krun f (kas_desc (m - (n + 1)) p (n + 1) 0)).2.2 > 0 then kas_tail3 (krun f (kas_desc (m - (n + 1)) p (n + 1) 0)).2.1 m (kas_rev (krun f (kas_desc (m - (n + 1)) p (n + 1) 0)).1 ((krun f (kas_desc (m - (n + 1)) p (n + 1) 0)).2.1 - ((krun f (kas_desc (m - (n + 1)) p (n + 1) 0)).2.2 + 1)) (krun f (kas_desc (m - (n + 1)) p (n + 1) 0)).2.1)
      else kas_tail3 (krun f (kas_desc (m - (n + 1)) p (n + 1) 0)).2.1 m (krun f (kas_desc (m - (n + 1)) p (n + 1) 0)).1) := krun_bind _ _ _
  refine ⟨kok_bind (desc_k hN _ _ _ _ h) ?_, ?_⟩
  · split
    · exact tail3_k hN (hb.perm hN (mirror_perm _ _ _ _)) _ _
    · exact tail3_k hN hb _ _
  · rw [er]
    split
    · exact tail3_b hN (hb.perm hN (mirror_perm _ _ _ _)) _ _
    · exact tail3_b hN hb _ _
theorem count_k {p : Array Nat} (hN : 0 < N) (h : Bnd N p) (m : Nat) : kok f N (kas_count m p) ∧ Bnd N (krun f (kas_count m p)).2 := by
  have er : krun f (kas_count m p) = krun f (if (krun f (kas_asc p (m - 1) 1) == m) = true then .ret (krun f (kas_asc p (m - 1) 1), p) else if krun f (kas_asc p (m - 1) 1) > 1 then .ask (at0 p 0) (at0 p (krun f (kas_asc p (m - 1) 1) - 1)) fun c => if c = true then .ret (krun f (kas_asc p (m - 1) 1), p) else kas_descPart (krun f (kas_asc p (m - 1) 1)) m (kas_rev p 0 (krun f (kas_asc p (m - 1) 1)))
      else kas_descPart (krun f (kas_asc p (m - 1) 1)) m p) := krun_bind _ _ _
  have hr := h.perm hN (mirror_perm p 0 (krun f (kas_asc p (m - 1) 1)) ((krun f (kas_asc p (m - 1) 1) - 0) / 2))
  refine ⟨kok_bind (asc_k h _ _) ?_, ?_⟩
  · split
    · trivial
    · split
      · refine ⟨h _, h _, ?_⟩
        dsimp only
        split
        · trivial
        · exact (descPart_k hN hr _ _).1
      · exact (descPart_k hN h _ _).1
  · rw [er]
    split
    · exact h
    · split
      · show Bnd N (krun f (if f (at0 p 0) (at0 p (krun f (kas_asc p (m - 1) 1) - 1)) = true then .ret (krun f (kas_asc p (m - 1) 1), p) else kas_descPart (krun f (kas_asc p (m - 1) 1)) m (kas_rev p 0 (krun f (kas_asc p (m - 1) 1))))).2
        split
        · exact h
        · exact (descPart_k hN hr _ _).2
      · exact (descPart_k hN h _ _).2
theorem sort_k (hN : 0 < N) : kok f N (kas_sort N) := by
  have hb : Bnd N (List.range N).toArray := (bnd_iff hN).2 fun x hx => by simpa using hx
  obtain ⟨a, b⟩ := count_k (f := f) hN hb N
  refine kok_bind a ?_
  split
  · exact bin_k hN _ _ _ b
  · trivial
end
theorem wp_run {α : Type} {f : Nat → Nat → Bool} {N : Nat} {cmp : Nat → Nat → (Bool → Shared → Prop) → Shared → Prop} {J : Shared → Prop} {Q : α → Shared → Prop}
    (hc : ∀ i j s (C : Bool → Shared → Prop), i < N → j < N → J s → (∀ s', J s' → C (f i j) s') → cmp i j C s) : ∀ (t : KasT α) (s : Shared), kok f N t → J s → (∀ s', J s' → Q (krun f t) s') → t.kasWp cmp Q s
  | .ret a, s, _, hJ, hQ => hQ s hJ
  | .ask i j k, s, ⟨a, b, c⟩, hJ, hQ => hc i j s _ a b hJ fun s' hJ' => wp_run hc (k (f i j)) s' c hJ' hQ
end Mine
namespace Mine
open PySem PySem.W PyProof.Rows PySem.Calls
set_option maxRecDepth 100000
set_option maxHeartbeats 2000000
def KeyAt (h : Heap) (C : Addr) (v k : Value) : Prop := ∃ x dx, k = .ref x ∧ h.get? x = some ⟨.ref C, some dx, .plain, #[some v]⟩ ∧ h.get? dx = some emptyDict
theorem KeyAt.keeps {h h' : Heap} {C : Addr} {v k : Value} (x : KeyAt h C v k) (q : Keeps h h') : KeyAt h' C v k := let ⟨a, d, e, g, r⟩ := x; ⟨a, d, e, q _ _ g, q _ _ r⟩
theorem KeyAt.same {h h' : Heap} {C a : Addr} {v k : Value} {its : Array Value} {n : Nat} (x : KeyAt h C v k) (ha : h.get? a = some (seqObj "list" its n)) (q : Heap.SameBut a h h') : KeyAt h' C v k := by
  obtain ⟨x, d, e, g, r⟩ := x
  refine ⟨x, d, e, (q.2 x ?_).trans g, (q.2 d ?_).trans r⟩
  · rintro rfl; rw [ha] at g; cases g
  · rintro rfl; rw [ha] at r; exact nomatch (congrArg Obj.data (Option.some.inj r) : Data.seq its n = _)
theorem KeyAt.type {M : Model} {h : Heap} {C : Addr} {v k : Value} (x : KeyAt h C v k) : Looks M h (typeOf k) (.ref C) := by
  obtain ⟨x, d, rfl, g, r⟩ := x
  exact (Looks.ld g).andThen .now
section
variable {prog : Program} {w : World} {A : Around} {E : Value → Shared → Prop} {s : Shared} {C : Addr} {vs : List Value} {f : Nat → Nat → Bool}
theorem keeps_same {h₀ h h' : Heap} {a : Addr} (k : Keeps h₀ h) (ha : h₀.get? a = none) (q : Heap.SameBut a h h') : Keeps h₀ h' := fun b o e => (q.2 b (fun z => by rw [z, ha] at e; cases e)).trans (k b o e)
theorem tail_by {a kS : Addr} {keys : Array Value} {e e1 : Nat} {st : SortSt} {h₀ : Heap} {out : Array Value} {P : PySem.Fin → Shared → Prop} (K0 : Keeps h₀ s.heap) (ha0 : h₀.get? a = none) (hk0 : h₀.get? kS = none) (hka : kS ≠ a)
    (gk : s.heap.get? kS = some (seqObj "list" keys e)) (ga : s.heap.get? a = some (seqObj "list" #[] e1)) (hz : keys.size < 64) (hfl : failedOf st = none) (ho : (arrOf st).map (·.2) = out) (hoz : out.size < 64)
    (h : ∀ h' c, Keeps h₀ h' → h'.get? a = some (seqObj "list" out c) → P (.done (.ret .none)) { s with heap := h' }) :
    wpAny (model prog w) A (ksk_tail a false e1 (.ref kS) st) P E s := by
  have s1 := Heap.SameBut.update s.heap kS (Obj.mapSeq fun _ => (#[] : Array Value))
  have na1 : (s.heap.update kS (Obj.mapSeq fun _ => (#[] : Array Value))).get? a = some (seqObj "list" #[] e1) := (s1.2 a hka.symm).trans ga
  have s2 := Heap.SameBut.update (s.heap.update kS (Obj.mapSeq fun _ => (#[] : Array Value))) a (Obj.mapSeq fun _ => out)
  have hc2 := get?_update_seq na1 fun _ => out
  unfold ksk_tail
  simp only [ho]
  refine wpAny_bind (listUpdate_at gk rfl ?_ (by rw [sizeLine_eq]; lia) (Nat.zero_le _))
  refine wpAny_bind (wpAny_letGo ?_)
  refine wpAny_bind (seqEpoch_at na1 rfl ?_)
  refine wpAny_bind (listUpdate_at na1 rfl ?_ (Nat.zero_le _) ?_)
  · rw [hfl]
    simp only [bne_self_eq_false, Bool.false_eq_true, if_false]
    exact wpAny_pure (h _ _ (keeps_same (keeps_same K0 hk0 s1) ha0 s2) hc2)
  · simp only [Bool.false_eq_true, if_false]; rw [sizeLine_eq]; lia
theorem end_by {a kS : Addr} {keys : Array Value} {e e1 : Nat} {h₀ : Heap} {P : PySem.Fin → Shared → Prop} (K0 : Keeps h₀ s.heap) (ha0 : h₀.get? a = none) (hk0 : h₀.get? kS = none) (hka : kS ≠ a)
    (gk : s.heap.get? kS = some (seqObj "list" keys e)) (ga : s.heap.get? a = some (seqObj "list" #[] e1)) (h2 : 2 ≤ vs.length) (h64 : vs.length < 64) (hz : keys.size = vs.length) (hK : ∀ (i : Nat) (k v : Value), keys[i]? = some k → vs[i]? = some v → KeyAt s.heap C v k)
    (cmp : ∀ (s' : Shared) (i j : Nat) (v u k l : Value) (Q' : Bool → Shared → Prop), vs[i]? = some v → vs[j]? = some u → Keeps h₀ s'.heap → KeyAt s'.heap C v k → KeyAt s'.heap C u l → (∀ h' tk, Keeps s'.heap h' → Q' (f i j) { s' with heap := h', toks := tk }) → wpAny (model prog w) A (keyLt' oneType' k l) Q' (fun _ _ => False) s')
    (h : ∀ h' tk c, Keeps h₀ h' → h'.get? a = some (seqObj "list" ((krun f (kas_sort vs.length)).toList.map fun i => vs.getD i .none).toArray c) → P (.done (.ret .none)) { s with heap := h', toks := tk }) :
    wpAny (model prog w) A (ksk_end a false vs.toArray e1 (.ref kS) keys) P E s := by
  have hzs : (keys.zip vs.toArray).size = vs.length := by rw [Array.size_zip, hz, List.size_toArray, Nat.min_self]
  have item : ∀ i, i < vs.length → ∃ k v, keys[i]? = some k ∧ vs[i]? = some v ∧ kas_item (keys.zip vs.toArray) i = (k, v) := by
    intro i hi
    have h1 : i < keys.size := by lia
    have h3 : i < (keys.zip vs.toArray).size := by lia
    refine ⟨keys[i], vs[i], by simp [h1], by simp [hi], ?_⟩
    unfold kas_item
    rw [Array.getD_eq_getD_getElem?, Array.getElem?_eq_getElem h3]
    simp
  have hn2 : ¬ vs.toArray.size < 2 := by rw [List.size_toArray]; lia
  unfold ksk_end
  simp only [Bool.false_eq_true, if_false]
  rw [if_neg hn2, if_neg hn2]
  have ek : keys = keys.toList.toArray := by simp
  have kind : ∀ (Q : SortKind → Shared → Prop), Q oneType' s → wpAny (model prog w) A (keyKind' keys) Q E s := by
    intro Q hq
    rw [ek]
    refine kas_kind (T := .ref C) (by rw [Array.length_toList]; lia) (fun k hk => ?_) rfl (by simp) hq
    obtain ⟨i, hi, rfl⟩ := List.mem_iff_getElem.mp hk
    rw [Array.length_toList] at hi
    have hi2 : i < vs.length := by lia
    exact (hK i _ _ (by simp [hi]) (List.getElem?_eq_getElem hi2)).type
  refine wpAny_bind (kind _ ?_)
  have est : SortSt.mk' oneType' (keys.zip vs.toArray) #[] 7 none = kas_st oneType' (keys.zip vs.toArray) (List.toArray (List.range vs.length)) := by
    have e := kas_range (keys.zip vs.toArray)
    rw [hzs] at e
    show _ = SortSt.mk' oneType' ((List.toArray (List.range vs.length)).map (kas_item (keys.zip vs.toArray))) #[] 7 none
    rw [e]
  let J : Shared → Prop := fun s' => ∃ h' tk, s' = { s with heap := h', toks := tk } ∧ Keeps h₀ h' ∧ Keeps s.heap h'
  have asks := wp_run (α := Array Nat) (f := f) (N := vs.length) (cmp := kas_cmp prog w A oneType' (keys.zip vs.toArray)) (J := J) (Q := fun p s' => p = krun f (kas_sort vs.length) ∧ J s') (by
    rintro i j s' Cc hi hj ⟨h', tk, rfl, k1, k2⟩ hc
    obtain ⟨k, v, e1', e2', e3'⟩ := item i hi
    obtain ⟨l, u, d1, d2, d3⟩ := item j hj
    unfold kas_cmp
    rw [e3', d3]
    refine cmp _ i j v u k l _ e2' d2 k1 ((hK i k v e1' e2').keeps k2) ((hK j l u d1 d2).keeps k2) fun h3 tk3 k3 => hc _ ⟨h3, tk3, rfl, fun b o e => k3 _ _ (k1 b o e), fun b o e => k3 _ _ (k2 b o e)⟩) (kas_sort vs.length) s (sort_k (by lia)) ⟨s.heap, s.toks, rfl, K0, fun _ _ e => e⟩ fun s' j => ⟨rfl, j⟩
  have run := kas_runs (E := E) (Q := fun _ st' s' => ∃ p : Array Nat, p.size = vs.length ∧ arrOf st' = p.map (kas_item (keys.zip vs.toArray)) ∧ failedOf st' = none ∧ p = krun f (kas_sort vs.length) ∧ J s') h2 h64 (fun p' st' s' a1 a2 a3 a4 => ⟨p', a1, a2, a3, a4⟩) asks
  rw [← est] at run
  refine wpAny_bind (wpAny_mono run ?_ fun _ _ e => e)
  rintro ⟨⟨⟩, st'⟩ s' ⟨p, hp, har, hf, hpe, h', tk, rfl, k1, k2⟩
  dsimp only
  have ho : (arrOf st').map (·.2) = (p.toList.map fun i => vs.getD i .none).toArray := by
    apply Array.toList_inj.mp
    rw [har, Array.map_map, Array.toList_map]
    refine List.map_congr_left fun i hi => ?_
    show (kas_item (keys.zip vs.toArray) i).2 = _
    by_cases q : i < vs.length
    · obtain ⟨k, v, e1', e2', e3'⟩ := item i q
      rw [e3', List.getD_eq_getElem?_getD, e2']; rfl
    · unfold kas_item
      rw [Array.getD_eq_getD_getElem?, Array.getElem?_eq_none (by lia), List.getD_eq_getElem?_getD, List.getElem?_eq_none (by lia)]; rfl
  rw [hpe] at ho
  refine tail_by (e := e) (e1 := e1) (s := { s with heap := h', toks := tk }) k1 ha0 hk0 hka (k2 _ _ gk) (k2 _ _ ga) (by lia) hf ho ?_ fun h3 c k3 g3 => h h3 tk c k3 g3
  rw [← hpe, List.size_toArray, List.length_map, Array.length_toList]; lia
theorem rest_by {a kS : Addr} {e1 : Nat} {h₀ : Heap} {P : PySem.Fin → Shared → Prop} (K0 : Keeps h₀ s.heap) (ha0 : h₀.get? a = none) (hk0 : h₀.get? kS = none) (hka : kS ≠ a)
    (gk : s.heap.get? kS = some (seqObj "list" #[] 0)) (ga : s.heap.get? a = some (seqObj "list" #[] e1)) (h2 : 2 ≤ vs.length) (h64 : vs.length < 64)
    (mk : ∀ (s' : Shared) (v : Value) (Q' : Value → Shared → Prop), v ∈ vs → Keeps h₀ s'.heap → (∀ h' tk k, Keeps s'.heap h' → KeyAt h' C v k → Q' k { s' with heap := h', toks := tk }) → wpAny (model prog w) A (call (.ref C) [v]) Q' (fun _ _ => False) s')
    (cmp : ∀ (s' : Shared) (i j : Nat) (v u k l : Value) (Q' : Bool → Shared → Prop), vs[i]? = some v → vs[j]? = some u → Keeps h₀ s'.heap → KeyAt s'.heap C v k → KeyAt s'.heap C u l → (∀ h' tk, Keeps s'.heap h' → Q' (f i j) { s' with heap := h', toks := tk }) → wpAny (model prog w) A (keyLt' oneType' k l) Q' (fun _ _ => False) s')
    (h : ∀ h' tk c, Keeps h₀ h' → h'.get? a = some (seqObj "list" ((krun f (kas_sort vs.length)).toList.map fun i => vs.getD i .none).toArray c) → P (.done (.ret .none)) { s with heap := h', toks := tk }) :
    wpAny (model prog w) A (ksk_rest a (.ref C) false vs.toArray e1 (.ref kS)) P E s := by
  unfold ksk_rest
  refine wpAny_bind (wpAny_rule ?_)
  rw [List.forIn_toArray]
  refine wpAny_bind (ksk_fold (fun i s' => ∃ h' tk kA e, s' = { s with heap := h', toks := tk } ∧ Keeps h₀ h' ∧ h'.get? kS = some (seqObj "list" kA e) ∧ h'.get? a = some (seqObj "list" #[] e1) ∧ kA.size = i ∧ ∀ (j : Nat) (k v : Value), kA[j]? = some k → vs[j]? = some v → KeyAt h' C v k) vs 0 s
    ⟨s.heap, s.toks, #[], 0, rfl, K0, gk, ga, rfl, fun j k v q => by simp at q⟩ ?step ?done)
  case step =>
    rintro j x s' hx ⟨h', tk, kA, e, rfl, k1, g1, g2, hz, hK⟩
    simp only [Nat.zero_add] at hz ⊢
    have hj : j < vs.length := (List.getElem?_eq_some_iff.mp hx).1
    refine wpAny_bind (wpAny_attempt (wpAny_mono (mk _ x (fun k s'' => ∃ h3 tk3, s'' = { s with heap := h3, toks := tk3 } ∧ Keeps h' h3 ∧ KeyAt h3 C x k) (List.mem_of_getElem? hx) k1 fun h3 tk3 k k3 ky => ⟨h3, tk3, rfl, k3, ky⟩) (fun v s'' he => ?_) fun _ _ hF => hF.elim))
    obtain ⟨h3, tk3, rfl, k3, ky⟩ := he
    dsimp only
    have gk3 := k3 _ _ g1
    have ga3 := k3 _ _ g2
    have s1 := Heap.SameBut.update h3 kS (Obj.mapSeq (·.push v))
    have hc2 := get?_update_seq gk3 (·.push v)
    refine wpAny_bind (listUpdate_at gk3 rfl ?_ (by rw [sizeLine_eq]; lia) (Nat.le_trans (Nat.le_of_eq (Array.size_push ..)) (by rw [sizeLine_eq]; lia)))
    refine wpAny_pure ⟨rfl, _, _, kA.push v, _, rfl, keeps_same (fun b o e => k3 _ _ (k1 b o e)) hk0 s1, hc2, (s1.2 a hka.symm).trans ga3, by rw [Array.size_push, hz], ?_⟩
    intro i k u q1 q2
    by_cases hi : i = j
    · subst hi
      rw [hx] at q2; cases q2
      have : k = v := by rw [← hz] at q1; simpa using q1.symm
      rw [this]; exact ky.same gk3 s1
    · have hi2 : i < kA.size := by
        have := (Array.getElem?_eq_some_iff.mp q1).1
        rw [Array.size_push] at this; lia
      rw [Array.getElem?_push, if_neg (by lia)] at q1
      exact ((hK i k u q1 q2).keeps k3).same gk3 s1
  case done =>
    rintro s' ⟨h', tk, kA, e, rfl, k1, g1, g2, hz, hK⟩
    refine wpAny_bind (listItems_at g1 rfl ?_)
    exact end_by (s := { s with heap := h', toks := tk }) k1 ha0 hk0 hka g1 g2 h2 h64 (by lia) hK cmp fun h3 tk3 c k3 g3 => h h3 tk3 c k3 g3
theorem sortedBy {l : Addr} {Q : Value → Shared → Prop} (hl : s.heap.IsList l vs.toArray) (h2 : 2 ≤ vs.length) (h64 : vs.length < 64)
    (mk : ∀ (s' : Shared) (v : Value) (Q' : Value → Shared → Prop), v ∈ vs → Keeps s.heap s'.heap → (∀ h' tk k, Keeps s'.heap h' → KeyAt h' C v k → Q' k { s' with heap := h', toks := tk }) → wpAny (model prog w) A.in1.in1 (call (.ref C) [v]) Q' (fun _ _ => False) s')
    (cmp : ∀ (s' : Shared) (i j : Nat) (v u k l : Value) (Q' : Bool → Shared → Prop), vs[i]? = some v → vs[j]? = some u → Keeps s.heap s'.heap → KeyAt s'.heap C v k → KeyAt s'.heap C u l → (∀ h' tk, Keeps s'.heap h' → Q' (f i j) { s' with heap := h', toks := tk }) → wpAny (model prog w) A.in1.in1 (keyLt' oneType' k l) Q' (fun _ _ => False) s')
    (hQ : ∀ D h' tk c, Keeps s.heap h' → s.heap.get? D = none → h'.get? D = some (seqObj "list" ((krun f (kas_sort vs.length)).toList.map fun i => vs.getD i .none).toArray c) → Q (.ref D) { s with heap := h', toks := tk }) :
    wpAny (model prog w) A (call (.builtin "sorted") [.ref l] [(Str.ofString "key", .ref C)]) Q E s := by
  refine call_function_entry_kw kind_sorted plain_sorted entry_sorted (ksk_s1 _ _) ?_
  unfold Builtin.«sorted»
  refine wpAny_bind (m := checkCount "sorted" 1 1 _) (wpAny_pure ?_)
  refine wpAny_bind (collect_list hl ?_ (by rw [sizeLine_eq]; lia))
  refine wpAny_bind (wpAny_newList ?_ (by rw [sizeLine_eq]; lia))
  have hsz : ((s.heap.push (seqObj "list" #[] 0)).update s.heap.objs.size (Obj.mapSeq (· ++ vs.toArray))).objs.size = s.heap.objs.size + 1 := by
    rw [Heap.size_update, size_push']
  have hoL : (((s.heap.push (seqObj "list" #[] 0)).update s.heap.objs.size (Obj.mapSeq (· ++ vs.toArray))).push (seqObj "list" vs.toArray 0)).get? (s.heap.objs.size + 1) = some (seqObj "list" vs.toArray 0) := by
    rw [← hsz]; exact Heap.get?_push_size _ rfl
  have keep : Keeps s.heap (((s.heap.push (seqObj "list" #[] 0)).update s.heap.objs.size (Obj.mapSeq (· ++ vs.toArray))).push (seqObj "list" vs.toArray 0)) := fun b o q => by
    have hlt : b < s.heap.objs.size := Heap.lt_size q
    rw [Heap.get?_push_ne _ _ _ (by rw [hsz]; exact Nat.ne_of_lt (Nat.lt_succ_of_lt hlt)), Heap.get?_update_ne _ _ _ _ (Nat.ne_of_lt hlt), Heap.get?_push_ne _ _ _ (Nat.ne_of_lt hlt)]
    exact q
  have noneD : s.heap.get? (s.heap.objs.size + 1) = none := Heap.get?_none_of_le (Nat.le_succ _)
  show wpAny _ _ _ _ _ { s with heap := ((s.heap.push (seqObj "list" #[] 0)).update s.heap.objs.size (Obj.mapSeq (· ++ vs.toArray))).push (seqObj "list" vs.toArray 0) }
  have hz2 : (((s.heap.push (seqObj "list" #[] 0)).update s.heap.objs.size (Obj.mapSeq (· ++ vs.toArray))).push (seqObj "list" vs.toArray 0)).objs.size = s.heap.objs.size + 2 := by rw [size_push', hsz]
  rw [hsz]
  generalize ((s.heap.push (seqObj "list" #[] 0)).update s.heap.objs.size (Obj.mapSeq (· ++ vs.toArray))).push (seqObj "list" vs.toArray 0) = m1 at *
  refine wpAny_bind (wpAny_holding (wpAny_call_entry_kw slot_list_sort ⟨_, hoL, rfl⟩ entry_list_sort ?body (ksk_l1 _ _)))
  case body =>
    show wpAny (model prog w) A.in1.in1 (Builtin.«list.sort» ⟨[.ref (s.heap.objs.size + 1)], [(Str.ofString "key", .ref C)]⟩) _ _ _
    rw [ksk_t1]
    have s1 := Heap.SameBut.update m1 (s.heap.objs.size + 1) (Obj.mapSeq fun _ => (#[] : Array Value))
    have ho1 := get?_update_seq hoL fun _ => (#[] : Array Value)
    have k1 := keeps_same keep noneD s1
    have z1 : (m1.update (s.heap.objs.size + 1) (Obj.mapSeq fun _ => (#[] : Array Value))).objs.size = s.heap.objs.size + 2 := by rw [Heap.size_update, hz2]
    unfold ksk_tree
    refine wpAny_bind (listItems_at hoL rfl ?_)
    refine wpAny_bind (listUpdate_at hoL rfl ?_ (by rw [List.size_toArray, sizeLine_eq]; lia) (Nat.zero_le _))
    refine wpAny_bind (seqEpoch_at ho1 rfl ?_)
    refine wpAny_bind (wpAny_newTuple ?_ (by show vs.length ≤ _; rw [sizeLine_eq]; lia))
    refine wpAny_bind (wpAny_newList ?_ (Nat.zero_le _))
    refine wpAny_holding ?_
    generalize m1.update (s.heap.objs.size + 1) (Obj.mapSeq fun _ => (#[] : Array Value)) = m2 at *
    have z3 : (m2.push (seqObj "tuple" vs.toArray 0)).objs.size = s.heap.objs.size + 3 := by rw [size_push', z1]
    refine rest_by (s := { s with heap := (m2.push (seqObj "tuple" vs.toArray 0)).push (seqObj "list" #[] 0) }) (kS := (m2.push (seqObj "tuple" vs.toArray 0)).objs.size) (h₀ := s.heap) (fun b o e => Heap.get?_push_of_some _ (Heap.get?_push_of_some _ (k1 b o e))) noneD (Heap.get?_none_of_le (by rw [z3]; exact Nat.le_add_right _ _)) ?_
      (Heap.get?_push_size _ rfl) (Heap.get?_push_of_some _ (Heap.get?_push_of_some _ ho1)) h2 h64 mk cmp fun h' tk c k' g' => ⟨_, rfl, wpAny_pure ⟨_, rfl, hQ _ h' tk c k' noneD g'⟩⟩
    rw [z3]; exact Nat.ne_of_gt (Nat.lt_succ_of_lt (Nat.lt_succ_self _))
end
end Mine
namespace Mine
open PySem PySem.W PySem.W.X PyProof.Rows PySem.Calls
set_option maxRecDepth 100000
set_option maxHeartbeats 8000000
def upd (m : Str → Option Value) (x : Str) (v : Value) : Str → Option Value := fun y => if y = x then some v else m y
structure At (h₀ : Heap) (L : Addr) (s₀ : Shared) (m : Str → Option Value) (news : List (Addr × Obj)) (s : Shared) : Prop where
  F : Fr h₀ L s.heap m
  N : News h₀ L s.heap news
  e : s = { s₀ with heap := s.heap, toks := s.toks }
theorem upd_ne {m : Str → Option Value} {x y : Str} {u : Value} {v : Option Value} (h : m y = v) (n : y ≠ x := by decide) : upd m x u y = v := (if_neg n).trans h
theorem upd_at {m : Str → Option Value} {x : Str} {u : Value} : upd m x u x = some u := if_pos rfl
theorem dropAt {α : Type} {l : List α} {i : Nat} {x : α} (h : l[i]? = some x) : l.drop i = x :: l.drop (i + 1) := by
  obtain ⟨hi, e⟩ := List.getElem?_eq_some_iff.mp h
  rw [List.drop_eq_getElem_cons hi, e]
theorem scopeOf {name : Str} {scope : Scope} {L a : Addr} {cd : Value} {env : Env} (h : envOf name scope L a cd = env) : env.scope = scope := h ▸ rfl
theorem localsOf {name : Str} {scope : Scope} {L a : Addr} {cd : Value} {env : Env} (h : envOf name scope L a cd = env) : env.locals = L := h ▸ rfl
theorem globalsOf {name : Str} {scope : Scope} {L a : Addr} {cd : Value} {env : Env} (h : envOf name scope L a cd = env) : env.globals = mainGlobals := h ▸ rfl
theorem builtinsOf {name : Str} {scope : Scope} {L a : Addr} {cd : Value} {env : Env} (h : envOf name scope L a cd = env) : env.builtins = builtinsNs := h ▸ rfl
theorem interOf {name : Str} {scope : Scope} {L a : Addr} {cd : Value} {env : Env} (h : envOf name scope L a cd = env) (q : interactive (envOf name scope L a cd) = false) : interactive env = false := h ▸ q
theorem deeperOf {A B : Around} {env : Env} (h : Around.deeper A env = B) (hh : A.handled = none) : B.handled = none := by rw [← h]; exact hh
section
variable {prog : Program} {w : World} {A : Around} {E : Value → Shared → Prop} {s s₀ : Shared} {env : Env} {h₀ : Heap} {L : Addr} {m : Str → Option Value} {news : List (Addr × Obj)} {sc : Scope}
theorem At.heap {h' : Heap} {tk : Nat} (H : At h₀ L s₀ m news s) {m' : Str → Option Value} {news' : List (Addr × Obj)} (F : Fr h₀ L h' m') (N : News h₀ L h' news') : At h₀ L s₀ m' news' { s with heap := h', toks := tk } := ⟨F, N, by rw [H.e]⟩
theorem At.of {h' : Heap} {tk : Nat} {m' : Str → Option Value} {news' : List (Addr × Obj)} (F : Fr h₀ L h' m') (N : News h₀ L h' news') : At h₀ L s₀ m' news' { s₀ with heap := h', toks := tk } := ⟨F, N, rfl⟩
theorem start {α : Type} {M : Model} {t : Sem α} {Q : α → Shared → Prop} {h' : Heap} {tk : Nat} (F : Fr h₀ L h' m) (N : News h₀ L h' news) (h : ∀ s', At h₀ L s₀ m news s' → wpAny M A t Q E s') : wpAny M A t Q E { s₀ with heap := h', toks := tk } := h _ ⟨F, N, rfl⟩
theorem start' {α : Type} {M : Model} {t : Sem α} {Q : α → Shared → Prop} {h' : Heap} {tk : Nat} (F : Fr h₀ L h' m) (N : News h₀ L h' news) (h : ∀ s', At h₀ L s₀ m news s' → s'.heap = h' → wpAny M A t Q E s') : wpAny M A t Q E { s₀ with heap := h', toks := tk } := h _ ⟨F, N, rfl⟩ rfl
theorem At.sub {s' : Shared} {m' : Str → Option Value} {news' : List (Addr × Obj)} (H : At h₀ L s₀ m news s) (K : At h₀ L s m' news' s') : At h₀ L s₀ m' news' s' := ⟨K.F, K.N, by rw [K.e, H.e]⟩
theorem at_nmB {mg mb : Str → Option Value} {M : Model} {x : Str} {pos : Pos} {v : Value} {Q : Value → Shared → Prop} (hs : env.scope = sc) (hg : env.globals = mainGlobals) (hb : env.builtins = builtinsNs) (O : Okk w mg mb h₀) (H : At h₀ L s₀ m news s) (hv : bootBuiltins x = some v) (hf : nsIn (hh.heap_1 w.params) mainGlobals x = some none) (h : Q v s)
    (hk : sc.kind = .function := by rfl) (hx : sc.names.lookup x = some .globalImplicit := by rfl) (hd : (x == ("__debug__" : Str)) = false := by decide) (hn : x ≠ "__name__" := by decide) : wpAny M A (eval (.Name x pos) env) Q E s :=
  nmB (O.keeps H.F.keep) hv hf (by rw [hs]; exact hk) (by show env.scope.names.lookup x = _; rw [hs]; exact hx) hg hb h hd hn
theorem at_nm {M : Model} {x : Str} {pos : Pos} {v : Value} {Q : Value → Shared → Prop} (hs : env.scope = sc) (H : At h₀ env.locals s₀ m news s) (hv : m x = some v) (h : Q v s) (hk : sc.kind = .function := by rfl) (hx : sc.names.lookup x = some .local := by rfl) (hd : (x == ("__debug__" : Str)) = false := by decide) :
    wpAny M A (eval (.Name x pos) env) Q E s := wpAny_Name (wpAny_loadName_local (by rw [hs]; exact hk) (by show env.scope.names.lookup x = _; rw [hs]; exact hx) H.F.ns hv h) hd
theorem at_put {M : Model} {x : Str} {v : Value} {Q : Unit → Shared → Prop} (hs : env.scope = sc) (H : At h₀ env.locals s₀ m news s) (h : ∀ s', At h₀ env.locals s₀ (upd m x v) news s' → Q () s')
    (hk : sc.kind = .function := by rfl) (hl : sc.names.lookup x = some .local := by rfl) : wpAny M A (storeName env x v) Q E s :=
  wpAny_storeName_local (by show env.scope.names.lookup x = _; rw [hs]; exact hl) H.F.ns (fun _ hn hs' => h _ (H.heap (H.F.set hn hs') (H.N.set hs'))) (by rw [hs, hk]; rfl)
theorem at_asg {x : Str} {p q : Pos} {value : Expr} {rest : List Stmt} {Q : Flow → Shared → Prop} (hs : env.scope = sc)
    (h : wpAny (model prog w) A (eval value env) (fun v s₁ => ∃ m news, At h₀ env.locals s₀ m news s₁ ∧ ∀ s', At h₀ env.locals s₀ (upd m x v) news s' → wpAny (model prog w) A (execs rest env) Q E s') E s)
    (hk : sc.kind = .function := by rfl) (hl : sc.names.lookup x = some .local := by rfl) (hw : swapsWith value (some (.Name x p)) q.line env = pure false := by rfl) : wpAny (model prog w) A (execs (.Assign [.Name x p] value q :: rest) env) Q E s :=
  wpAny_execs_cons (wpAny_Assign_Name (wpAny_mono h (fun _ _ ⟨_, _, H, h⟩ => at_put hs H h hk hl) fun _ _ x => x) hw)
theorem at_int {i : Int} {k : Nat} {pos : Pos} {Q : Value → Shared → Prop} (H : At h₀ L s₀ m news s) (h : ∀ tk s', At h₀ L s₀ m news s' → Q (.int i tk) s') : wpAny (model prog w) A (eval (.Constant (.int i) k pos) env) Q E s :=
  wpAny_Constant_int (h _ _ (H.heap H.F H.N))
theorem at_add {a b : Nat} {t u : Tok} {Q : Value → Shared → Prop} (H : At h₀ L s₀ m news s) (h : ∀ tk s', At h₀ L s₀ m news s' → Q (.int ((a + b : Nat) : Int) tk) s') : wpAny (model prog w) A (binaryOp .Add (.int (a : Int) t) (.int (b : Int) u)) Q E s := add_int (h _ _ (H.heap H.F H.N))
theorem at_div {a b : Nat} {t u : Tok} {Q : Value → Shared → Prop} (H : At h₀ L s₀ m news s) (hb : 2 ≤ b) (hb2 : b ≤ 65536) (h : ∀ tk s', At h₀ L s₀ m news s' → Q (.int ((a / b : Nat) : Int) tk) s') : wpAny (model prog w) A (binaryOp .FloorDiv (.int (a : Int) t) (.int (b : Int) u)) Q E s :=
  floordiv_int (by lia) (fdivN a b ▸ h _ _ (H.heap H.F H.N)) (.inl (PyProof.noPylong_small (by lia)))
theorem at_mod {a b : Nat} {t u : Tok} {Q : Value → Shared → Prop} (H : At h₀ L s₀ m news s) (hb : 2 ≤ b) (h : ∀ tk s', At h₀ L s₀ m news s' → Q (.int ((a % b : Nat) : Int) tk) s') : wpAny (model prog w) A (binaryOp .Mod (.int (a : Int) t) (.int (b : Int) u)) Q E s :=
  mod_int' (by lia) (fmodN a b ▸ h _ _ (H.heap H.F H.N))
theorem at_list {M : Model} {vs : List Value} {Q : Value → Shared → Prop} (H : At h₀ L s₀ m news s) (h : ∀ D s', At h₀ L s₀ m ((D, { cls := .type "list", data := .seq vs.toArray }) :: news) s' → Q (.ref D) s') (hz : vs.length ≤ 64 := by exact Nat.le_of_ble_eq_true rfl) : wpAny M A (newList vs) Q E s :=
  newList_N H.F H.N (fun _ F N => h _ _ (H.heap F N)) (by rw [sizeLine_eq]; exact Nat.le_trans hz (by decide))
theorem at_append {D : Addr} {ws : List Value} {n : Nat} {own : List (Addr × Obj)} {x : Str} {px : Pos} {e : Expr} {pl : Sem Bool} {ap p : Pos} {Q : Value → Shared → Prop}
    (hs : env.scope = sc) (H : At h₀ env.locals s₀ m ((D, { cls := .type "list", data := .seq ws.toArray n }) :: own) s) (hv : m x = some (.ref D)) (h : wpAny (model prog w) A (eval e env) (fun v s₂ =>
      At h₀ env.locals s₀ m ((D, { cls := .type "list", data := .seq ws.toArray n }) :: own) s₂ ∧ ∀ s₃ n', At h₀ env.locals s₀ m ((D, { cls := .type "list", data := .seq (ws ++ [v]).toArray n' }) :: own) s₃ → Q .none s₃) E s) (ne : ∀ p ∈ own, p.1 ≠ D) (hz : ws.length < 64)
    (hc : eval (.Call (.Attribute (.Name x px) (Str.ofString "append") ap) [e] [] p) env = (do
      let ov ← eval (.Name x px) env
      standAt ap.atName
      let (f, first) ← holding [ov] (getMethod ov (Str.ofString "append") pl)
      callWith p f first (backTo p (starEach [e] env)) []) := by rfl)
    (he : starEach [e] env = [(false, eval e env)] := by rfl) (hk : sc.kind = .function := by rfl) (hl : sc.names.lookup x = some .local := by rfl) (hd : (x == ("__debug__" : Str)) = false := by decide) :
    wpAny (model prog w) A (eval (.Call (.Attribute (.Name x px) (Str.ofString "append") ap) [e] [] p) env) Q E s := by
  refine MethodCall_ (at_nm hs H hv ?_ hk hl hd) hc
  have g := (H.N _ (.head _)).1
  refine getMethod_list_of PySem.F.slot_list_append PySem.F.type_list_append ⟨_, g, rfl, _, rfl⟩ ⟨_, g, rfl⟩ ?_
  refine Calls.callWith_builtin (by rw [he]; rfl) ?_
  rw [he]
  refine Calls.evalArgs_plain (Calls.spliced_cons (wpAny_mono h (fun v s₂ ⟨H, k⟩ => Calls.spliced_nil ?_) fun _ _ x => x))
  exact append_K H.F H.N (Upd.head ne) (fun h' F' N' => k _ _ (H.heap (tk := s₂.toks) F' (news_pushed N'))) (by rw [List.size_toArray, sizeLine_eq]; lia)
theorem at_unpack2 {T : Addr} {x y : Value} {a b : Str} {p1 p2 : Pos} {k : Nat} {pos : Pos} {Q : Unit → Shared → Prop} (hh : A.handled = none) (hs : env.scope = sc) (hT : s.heap.IsTuple T #[x, y]) (H : At h₀ env.locals s₀ m news s)
    (h : ∀ s', At h₀ env.locals s₀ (upd (upd m a x) b y) news s' → Q () s')
    (hk : sc.kind = .function := by rfl) (hl : sc.names.lookup a = some .local := by rfl) (hl2 : sc.names.lookup b = some .local := by rfl) :
    wpAny (model prog w) A (assign (.Tuple [.Name a p1, .Name b p2] k pos) env (.ref T)) Q E s := by
  refine wpAny_assign_Tuple hh hT rfl rfl fun h' eb => ?_
  have hn : h'.Ns env.locals m ∧ Fr h₀ env.locals h' m ∧ News h₀ env.locals h' news := by
    have lt : ∀ {b o}, s.heap.get? b = some o → b ≠ s.heap.objs.size := fun e => Nat.ne_of_lt (Heap.lt_size e)
    obtain ⟨oL, es, ep, eL, r⟩ := H.F.ns
    exact ⟨⟨oL, es, ep, eb _ _ (lt eL) eL, r⟩, ⟨⟨oL, es, ep, eb _ _ (lt eL) eL, r⟩, fun b o e => eb b o (lt (H.F.keep b o e)) (H.F.keep b o e), H.F.above⟩, fun p hp => ⟨eb _ _ (lt (H.N p hp).1) (H.N p hp).1, (H.N p hp).2⟩⟩
  have H1 : At h₀ env.locals s₀ m news { s with heap := h' } := ⟨hn.2.1, hn.2.2, by rw [H.e]⟩
  refine assignInOrder_cons (wpAny_assign_Name ?_)
  refine at_put hs H1 (fun s' H' => assignInOrder_cons (wpAny_assign_Name ?_)) hk hl
  exact at_put hs H' (fun s' H' => assignInOrder_nil (h s' H')) hk hl2
end
end Mine
namespace Mine
open PySem PySem.W PySem.W.X PyProof.Rows PySem.Calls
set_option maxRecDepth 100000
set_option maxHeartbeats 8000000
local macro_rules | `(tactic| walk_at "mine enter") => `(tactic| (
  refine wpAny_call ?_
  k_dflt (refine' enterK ?k1 ?k2 ?k3 ?k4 ?k5 ?k6 ?k7 ?_ ?c2 ?c3 ?c4 ?c5; (case k1 => k_asm); (case k2 => exact TopRead.nolimit (by assumption)); (case k3 => k_is); (case k4 => k_is); (case k5 => (dsimp only [recursionLimit]; lia)); (case k6 => exact BindsTo.of_eq rfl); (case k7 => exact locs rfl); (case c2 => exact rfl); (case c3 => exact rfl); (case c4 => exact rfl); (case c5 => decide); k_whole)))
def layR (b : Nat) : Nat → List Nat → List Nat → List Nat
  | o, x :: xs, y :: ys => (x + y + o) % b :: layR b ((x + y + o) / b) xs ys
  | _, _, _ => []
def layC (b : Nat) : Nat → List Nat → List Nat → Nat
  | o, x :: xs, y :: ys => (x + y + o) / b + layC b ((x + y + o) / b) xs ys
  | _, _, _ => 0
inductive LaidJ (b : Nat) (xs ys : List Nat) (c1 c2 : Nat) (i : Nat) (m : Str → Option Value) (news : List (Addr × Obj)) : Prop
  | mk (D : Addr) (o : Nat) (c : Nat) (n : Nat) (ws : List Value) (dn : List Nat) (tb : Tok) (to : Tok) (tc : Tok) (e : news = [(D, { cls := .type "list", data := .seq ws.toArray n })]) (q : NatsAre ws dn ∧ dn.length = i ∧
      m (Str.ofString "base") = some (.int (b : Int) tb) ∧ m (Str.ofString "over") = some (.int (o : Int) to) ∧ m (Str.ofString "carried") = some (.int (c : Int) tc) ∧ m (Str.ofString "row") = some (.ref D) ∧
      dn ++ layR b o (xs.drop i) (ys.drop i) = layR b 0 xs ys ∧ c + layC b o (xs.drop i) (ys.drop i) = c1 + c2 + layC b 0 xs ys)
theorem laid (w : World) (mg mb : Str → Option Value) (s : Shared) (dp un : Nat) (fr : Option (List Env)) (gd : Option (List Code)) (hdp : dp < 500) (Q E : Value → Shared → Prop)
    (X0 : (hh.heap_1 w.params).In s.heap) (T0 : TopRead vw ls mg mb s.heap) (b : Nat) (hb : 2 ≤ b) (hb2 : b ≤ 64) (t2 : Tok) (a1 a2 r1 r2 : Addr) (xs ys : List Nat) (vs us rest1 rest2 : List Value) (c1 c2 : Nat) (tc1 tc2 : Tok)
    (h1 : s.heap.IsList a1 (Value.ref r1 :: Value.int (c1 : Int) tc1 :: rest1).toArray) (h2 : s.heap.IsList a2 (Value.ref r2 :: Value.int (c2 : Int) tc2 :: rest2).toArray)
    (h3 : s.heap.IsList r1 vs.toArray) (h4 : NatsAre vs xs) (h5 : s.heap.IsList r2 us.toArray) (h6 : NatsAre us ys) (hxl : xs.length ≤ 6) (hyl : ys.length = xs.length)
    (hQ : ∀ h' tk a r n1 n2 ws t, Keeps s.heap h' → s.heap.get? a = none → s.heap.get? r = none → h'.get? a = some { cls := .type "list", data := .seq #[Value.ref r, .int ((c1 + c2 + layC b 0 xs ys : Nat) : Int) t] n1 } →
      h'.get? r = some { cls := .type "list", data := .seq ws.toArray n2 } → NatsAre ws (layR b 0 xs ys) → Q (.ref a) {s with heap := h', toks := tk}) :
    wpAny (model PySem.Challenge.rw_oh0008_01.row.prog w) { handled := none, depth := dp, frames := fr, guards := gd, units := un } (call (.ref 100) [.int (b : Int) t2, .ref a1, .ref a2]) Q E s := by
  have O : Okk w mg mb s.heap := ⟨X0, T0⟩
  revert X0; k_fill; intro X0
  walk_at "mine enter"
  intro L h₁ hL F N
  dsimp only
  refine noExc ?_
  generalize hE : envOf _ _ _ _ _ = env
  generalize hA : Around.deeper _ _ = A
  replace hA := deeperOf hA rfl
  have hs := scopeOf hE
  have hg := globalsOf hE
  have hbn := builtinsOf hE
  have hin := interOf hE rfl
  obtain rfl := localsOf hE
  clear hE
  obtain ⟨m, e1, e2, e3, F⟩ : ∃ m, m (Str.ofString "base") = some (.int (b : Int) t2) ∧ m (Str.ofString "one") = some (.ref a1) ∧ m (Str.ofString "other") = some (.ref a2) ∧ Fr s.heap env.locals h₁ m := ⟨_, rfl, rfl, rfl, F⟩
  refine start F N fun s₁ H => ?_
  clear X0 T0
  refine at_asg hs (List_ (args_nil (at_list H fun D s₂ H => ⟨_, _, H, fun s₃ H => ?_⟩)))
  refine at_asg hs (at_int H fun t0 s₄ H => ⟨_, _, H, fun s₅ H => ?_⟩)
  refine at_asg hs (wpAny_BinOp (Subscript_ (at_nm hs H (v := .ref a1) (upd_ne (upd_ne e2)) (at_int H fun _ s₆ H => item_listL (isList_keeps h1 H.F.keep) (by decide) (by decide) rfl (Subscript_ (at_nm hs H (v := .ref a2) (upd_ne (upd_ne e3)) (at_int H fun _ s₇ H => item_listL (isList_keeps h2 H.F.keep) (by decide) (by decide) rfl (at_add H fun tk s₈ H => ⟨_, _, H, fun s₉ H => ?_⟩))))))))
  have ne1 : env.locals ≠ r1 := fun e => by obtain ⟨_, q, _⟩ := h3; rw [← e, hL] at q; exact absurd (Heap.lt_size q) (Nat.lt_irrefl _)
  have ne2 : env.locals ≠ r2 := fun e => by obtain ⟨_, q, _⟩ := h5; rw [← e, hL] at q; exact absurd (Heap.lt_size q) (Nat.lt_irrefl _)
  refine wpAny_execs_cons (wpAny_For (Call_ (at_nmB hs hg hbn O H bb_zip (nn_zip _) (PyProof.Rows.callWith_type1 ?_))))
  refine args_cons (Subscript_ (at_nm hs H (v := .ref a1) (upd_ne (upd_ne (upd_ne e2))) (at_int H fun _ s₁₀ H => item_listL (isList_keeps h1 H.F.keep) (by decide) (by decide) rfl ?_)))
  refine args_cons (Subscript_ (at_nm hs H (v := .ref a2) (upd_ne (upd_ne (upd_ne e3))) (at_int H fun _ s₁₁ H => item_listL (isList_keeps h2 H.F.keep) (by decide) (by decide) rfl (args_nil ?_))))
  refine forZip hA (isList_keeps h3 H.F.keep) (isList_keeps h5 H.F.keep) ne1 ne2 H.F H.N (LaidJ b xs ys c1 c2) ⟨_, 0, c1 + c2, 0, [], [], _, _, _, rfl, .nil, rfl, upd_ne (upd_ne (upd_ne e1)), upd_ne upd_at, upd_at, upd_ne (upd_ne upd_at), rfl, rfl⟩ ?_ ?_
  · clear e1 e2 e3 ne1 ne2 hQ
    rintro i x y T m news h' tk' own hx hy hT ⟨D, o, c, n, ws, dn, tb, to, tc, rfl, hws, hdl, e1, e2, e3, e4, hR, hC⟩ hlt hown F₁ N₁
    obtain ⟨xi, tx, rfl, hxi⟩ := natsAre_get h4 (by simpa using hx)
    obtain ⟨yi, ty, rfl, hyi⟩ := natsAre_get h6 (by simpa using hy)
    have hDlt : D < _ := hlt (D, _) (.head _)
    have hne : ∀ p ∈ own, p.1 ≠ D := fun p hp e => by
      have hD := (N₁ (D, _) (.head _)).2.2
      rcases hown p hp with q | q | q
      · obtain ⟨_, z, _⟩ := h3; rw [← q, e, hD] at z; cases z
      · obtain ⟨_, z, _⟩ := h5; rw [← q, e, hD] at z; cases z
      · rw [e] at q; exact absurd (Nat.lt_of_lt_of_le hDlt q) (Nat.lt_irrefl _)
    have hi : i < xs.length := (List.getElem?_eq_some_iff.mp hxi).1
    have hdx := dropAt hxi
    have hdy := dropAt hyi
    rw [hdx, hdy] at hR hC
    clear hx hy hxi hyi h1 h2 h3 h4 h5 h6 hown hdx hdy H
    refine start' F₁ N₁ fun s₁₂ H he => at_unpack2 hA hs (he.symm ▸ hT) H fun s₁₃ H => ?_
    refine at_asg hs (wpAny_BinOp (wpAny_BinOp (at_nm hs H (upd_ne upd_at) (at_nm hs H upd_at (at_add H fun _ s₁₄ H => at_nm hs H (upd_ne (upd_ne e2)) (at_add H fun _ s₁₅ H => ⟨_, _, H, fun s₁₆ H => ?_⟩))))))
    refine at_asg hs (wpAny_BinOp (at_nm hs H upd_at (at_nm hs H (upd_ne (upd_ne (upd_ne e1))) (at_div H hb (by lia) fun _ s₁₇ H => ⟨_, _, H, fun s₁₈ H => ?_⟩))))
    refine at_asg hs (wpAny_BinOp (at_nm hs H (upd_ne (upd_ne (upd_ne (upd_ne e3)))) (at_nm hs H upd_at (at_add H fun _ s₁₉ H => ⟨_, _, H, fun s₂₀ H => ?_⟩))))
    refine wpAny_execs_cons (wpAny_Expr (at_append hs H (upd_ne (upd_ne (upd_ne (upd_ne (upd_ne e4))))) (wpAny_BinOp (at_nm hs H (upd_ne (upd_ne upd_at)) (at_nm hs H (upd_ne (upd_ne (upd_ne (upd_ne (upd_ne e1))))) (at_mod H hb fun _ s₂₁ H => ⟨H, fun s₂₂ n' H => wpAny_execs_nil ?_⟩)))) hne (by rw [natsAre_len hws, hdl]; lia)) hin)
    refine ⟨_, _, _, [_], H.e, H.F, H.N, ?_, D, (xi + yi + o) / b, c + (xi + yi + o) / b, _, ws ++ [_], dn ++ [(xi + yi + o) % b], _, _, _, rfl, natsAre_snoc hws _ _, ?_, upd_ne (upd_ne (upd_ne (upd_ne (upd_ne e1)))), upd_ne upd_at, upd_at, upd_ne (upd_ne (upd_ne (upd_ne (upd_ne e4)))), ?_, ?_⟩
    · intro p hp; rw [List.mem_singleton.mp hp]; exact hDlt
    · rw [List.length_append, hdl]; rfl
    · rw [← hR, layR, List.append_assoc]; rfl
    · rw [← hC, layC, Nat.add_assoc]
  · clear e1 e2 e3 ne1 ne2
    rintro h' tk m news' F4 N4 ⟨D, o, c, n, ws, dn, tb, to, tc, rfl, hws, hdl, e1, e2, e3, e4, hR, hC⟩
    have hn : min vs.toArray.size us.toArray.size = xs.length := by
      rw [List.size_toArray, List.size_toArray, natsAre_len h4, natsAre_len h6, hyl, Nat.min_self]
    rw [hn, List.drop_length] at hR hC
    have el : layR b o [] (ys.drop xs.length) = [] := by cases ys.drop xs.length <;> rfl
    have ec : layC b o [] (ys.drop xs.length) = 0 := by cases ys.drop xs.length <;> rfl
    rw [el, List.append_nil] at hR
    rw [ec, Nat.add_zero] at hC
    subst hR hC
    refine start F4 N4 fun s₁₂ H' => ?_
    replace H := H.sub H'
    refine wpAny_execs_cons (wpAny_Return_some (List_ (args_cons (at_nm hs H e4 (args_cons (at_nm hs H e3 (args_nil (at_list H fun a s₁₃ H => ?_))))))))
    have q1 := H.N _ (.head _)
    have q2 := H.N _ (.tail _ (.head _))
    rw [H.e]
    exact hQ _ _ _ _ _ _ _ _ H.F.keep q1.2.2 q2.2.2 q1.1 q2.1 hws
end Mine
namespace Mine

theorem dg_len (b : Nat) : ∀ k n, (dg b k n).length = k
  | 0, _ => rfl
  | k + 1, n => by simp [dg, dg_len b k]
theorem div3 (b x y o : Nat) (hb : 0 < b) : (x + y + o) / b = x / b + y / b + (x % b + y % b + o) / b := by
  have hx := Nat.div_add_mod x b
  have hy := Nat.div_add_mod y b
  have e : x + y + o = (x % b + y % b + o) + b * (x / b + y / b) := by rw [Nat.mul_add]; lia
  rw [e, Nat.add_mul_div_left _ _ hb]; lia
theorem mod3 (b x y o : Nat) : (x + y + o) % b = (x % b + y % b + o) % b := by
  have hx := Nat.div_add_mod x b
  have hy := Nat.div_add_mod y b
  have e : x + y + o = (x % b + y % b + o) + b * (x / b + y / b) := by rw [Nat.mul_add]; lia
  rw [e, Nat.add_mul_mod_self_left]
theorem lay_dg (b : Nat) (hb : 0 < b) : ∀ k x y o, layR b o (dg b k x) (dg b k y) = dg b k (x + y + o)
  | 0, _, _, _ => rfl
  | k + 1, x, y, o => by
    show (x % b + y % b + o) % b :: layR b ((x % b + y % b + o) / b) (dg b k (x / b)) (dg b k (y / b)) = (x + y + o) % b :: dg b k ((x + y + o) / b)
    rw [lay_dg b hb k, mod3 b x y o, div3 b x y o hb]
theorem layC_dg (b : Nat) (hb : 0 < b) : ∀ k x y o, x + y + o < b ^ k → (dg b k x).sum + (dg b k y).sum + o = (dg b k (x + y + o)).sum + layC b o (dg b k x) (dg b k y) * (b - 1)
  | 0, x, y, o, h => by simp at h; simp [dg, layC]; lia
  | k + 1, x, y, o, h => by
    show (x % b + (dg b k (x / b)).sum) + (y % b + (dg b k (y / b)).sum) + o = ((x + y + o) % b + (dg b k ((x + y + o) / b)).sum) + ((x % b + y % b + o) / b + layC b ((x % b + y % b + o) / b) (dg b k (x / b)) (dg b k (y / b))) * (b - 1)
    have hlt : x / b + y / b + (x % b + y % b + o) / b < b ^ k := by
      rw [← div3 b x y o hb]
      exact Nat.div_lt_of_lt_mul (by rw [Nat.pow_succ, Nat.mul_comm] at h; exact h)
    have ih := layC_dg b hb k (x / b) (y / b) ((x % b + y % b + o) / b) hlt
    rw [← div3 b x y o hb] at ih
    have hd := Nat.div_add_mod (x % b + y % b + o) b
    rw [← mod3] at hd
    rw [Nat.add_mul]
    have e : b * ((x % b + y % b + o) / b) = (x % b + y % b + o) / b * (b - 1) + (x % b + y % b + o) / b := by
      obtain ⟨c, rfl⟩ : ∃ c, b = c + 1 := ⟨b - 1, by lia⟩
      rw [Nat.add_sub_cancel, Nat.add_mul, Nat.one_mul, Nat.mul_comm]
    lia
theorem gapL_append : ∀ (xs ys us vs : List Nat), xs.length = ys.length → gapL (xs ++ us) (ys ++ vs) = if xs = ys then gapL us vs else gapL xs ys
  | [], [], _, _, _ => by simp
  | x :: xs, y :: ys, us, vs, h => by
    simp only [List.cons_append, gapL]
    by_cases e : x = y
    · subst e
      simp only [ne_eq, not_true, if_false, List.cons.injEq, true_and]
      exact gapL_append xs ys us vs (by simpa using h)
    · rw [if_pos e, if_pos e, if_neg (by simp [e])]
  | [], _ :: _, _, _, h => by simp at h
  | _ :: _, [], _, _, h => by simp at h
theorem dg_inj (b : Nat) (hb : 0 < b) : ∀ k x y, x < b ^ k → y < b ^ k → dg b k x = dg b k y → x = y
  | 0, x, y, hx, hy, _ => by simp at hx hy; lia
  | k + 1, x, y, hx, hy, h => by
    have h1 : x % b = y % b := (List.cons.inj h).1
    have h2 : dg b k (x / b) = dg b k (y / b) := (List.cons.inj h).2
    have lt : ∀ z, z < b ^ (k + 1) → z / b < b ^ k := fun z hz => Nat.div_lt_of_lt_mul (by rw [Nat.pow_succ, Nat.mul_comm] at hz; exact hz)
    have h3 := dg_inj b hb k _ _ (lt x hx) (lt y hy) h2
    have a1 := Nat.div_add_mod x b
    have a2 := Nat.div_add_mod y b
    rw [h1, h3] at a1
    lia
theorem gap_dg (b : Nat) (hb : 0 < b) : ∀ k x y, x < b ^ k → y < b ^ k → (gapL (dg b k x).reverse (dg b k y).reverse < 0 ↔ x < y)
  | 0, x, y, hx, hy => by simp at hx hy; subst hx hy; simp [dg, gapL]
  | k + 1, x, y, hx, hy => by
    have lt : ∀ z, z < b ^ (k + 1) → z / b < b ^ k := fun z hz => Nat.div_lt_of_lt_mul (by rw [Nat.pow_succ, Nat.mul_comm] at hz; exact hz)
    have ih := gap_dg b hb k (x / b) (y / b) (lt x hx) (lt y hy)
    show gapL (x % b :: dg b k (x / b)).reverse (y % b :: dg b k (y / b)).reverse < 0 ↔ _
    rw [List.reverse_cons, List.reverse_cons, gapL_append _ _ _ _ (by simp [dg_len])]
    have a1 := Nat.div_add_mod x b
    have a2 := Nat.div_add_mod y b
    have m1 := Nat.mod_lt x hb
    have m2 := Nat.mod_lt y hb
    split
    · rename_i e
      have e2 : x / b = y / b := dg_inj b hb k _ _ (lt x hx) (lt y hy) (List.reverse_inj.mp e)
      rw [e2] at a1
      show (if x % b ≠ y % b then ((x % b : Nat) : Int) - ((y % b : Nat) : Int) else gapL [] []) < 0 ↔ _
      split
      · lia
      · have e0 : gapL [] [] = 0 := rfl
        rw [e0]; lia
    · rename_i e
      rw [ih]
      have ne : x / b ≠ y / b := fun q => e (by rw [q])
      constructor
      · intro h
        have : b * (x / b + 1) ≤ b * (y / b) := Nat.mul_le_mul_left b h
        rw [Nat.mul_add] at this; lia
      · intro h
        rcases Nat.lt_or_ge (x / b) (y / b) with q | q
        · exact q
        · have : b * (y / b + 1) ≤ b * (x / b) := Nat.mul_le_mul_left b (by lia)
          rw [Nat.mul_add] at this; lia
end Mine
namespace Mine
open PySem PySem.W PySem.W.X PyProof.Rows PySem.Calls
set_option maxRecDepth 100000
set_option maxHeartbeats 400000
theorem KI.isFn1 {K : Frag} {C X f0 f1 : Addr} (I : KI K C X f0 f1) : isFn K (.ref f1) = true := by
  unfold isFn; rw [I.ty1]; rfl
theorem lt_inst {prog : Program} {w : World} {A : Around} {E : Value → Shared → Prop} {s : Shared} {K : Frag} {C X f0 f1 x dx : Addr} {b u : Value} {Q : Bool → Shared → Prop} (hu : A.units < cLine) (XK : K.In s.heap) (I : KI K C X f0 f1)
    (hx : s.heap.get? x = some ⟨.ref C, some dx, .plain, #[some u]⟩) (hdx : s.heap.get? dx = some emptyDict)
    (h : wpAny (model prog w) A (call (.ref f1) [.ref x, b]) (fun v s' => ∃ c, v = .bool c ∧ Q c s') E s) : wpAny (model prog w) A (keyLt' oneType' (.ref x) b) Q E s := by
  rw [keyLt'_oneType, oneLt'_eq]
  simp only [if_true]
  refine wpAny_bind (wpAny_cRoomFor hu ?_)
  refine wpAny_bind (ifBound_K XK (⟨hx, rfl, rfl, hdx⟩ : InstAt s.heap x ⟨.ref C, some dx, .plain, #[some u]⟩ C (some emptyDict)) I.lt I.isFn1 (wpAny_mono h (fun v s' hv => ?_) fun _ _ e => e))
  obtain ⟨c, rfl, hv⟩ := hv
  exact wpAny_truthy_bool hv
def RowAt (h : Heap) (v : Value) (xs : List Nat) : Prop := ∃ a r rest us, v = .ref a ∧ h.IsList a (Value.ref r :: rest).toArray ∧ h.IsList r (List.toArray us) ∧ NatsAre us xs
theorem sortedK (w : World) (mg mb : Str → Option Value) (s : Shared) (dp un : Nat) (fr : Option (List Env)) (gd : Option (List Code)) (hdp : dp < 470) (hun : un < 9000) (Q E : Value → Shared → Prop)
    (X0 : (hh.heap_1 w.params).In s.heap) (T0 : TopRead vw ls mg mb s.heap) (C ce : Addr) (KC : KCls s.heap C ce) (l : Addr) (vs : List Value) (rows : List (List Nat)) (hl : s.heap.IsList l vs.toArray) (h2 : 2 ≤ vs.length) (h64 : vs.length < 64)
    (hT : ∀ (i : Nat) (v : Value), vs[i]? = some v → RowAt s.heap v (rows.getD i []) ∧ (rows.getD i []).length = 6)
    (hQ : ∀ D h' tk c, Keeps s.heap h' → s.heap.get? D = none → h'.get? D = some (seqObj "list" ((krun (fun i j => decide (gapL (rows.getD i []).reverse (rows.getD j []).reverse < 0)) (kas_sort vs.length)).toList.map fun i => vs.getD i .none).toArray c) → Q (.ref D) { s with heap := h', toks := tk }) :
    wpAny (model PySem.Challenge.rw_oh0008_01.row.prog w) { handled := none, depth := dp, frames := fr, guards := gd, units := un } (call (.builtin "sorted") [.ref l] [(Str.ofString "key", .ref C)]) Q E s := by
  obtain ⟨K, X, f0, f1, P, N0, pm, kin, I, F0, F1⟩ := KC.frag
  obtain ⟨oc, gc, dc⟩ := KC.cell
  refine sortedBy (C := C) (f := fun i j => decide (gapL (rows.getD i []).reverse (rows.getD j []).reverse < 0)) hl h2 h64 (fun s' v Q' hv k hq => ?_) (fun s' i j v u k l' Q' hv hu kk hk hl' hq => ?_) hQ
  · refine mkK I (fun a o e => k _ _ (kin a o e)) (FnAt.but F0 fun y o _ _ e => k y o e) (T0.nolimit.keeps k) ?_ fun h' tk x dx k2 n1 g1 g2 n2 => hq h' tk (.ref x) k2 ⟨x, dx, rfl, g1, g2⟩
    (show dp < 980); lia
  · obtain ⟨x, dx, rfl, g1, g2⟩ := hk
    obtain ⟨y, dy, rfl, e1, e2⟩ := hl'
    obtain ⟨⟨a, r, rest, us, rfl, i1, i2, i3⟩, l1⟩ := hT i v hv
    obtain ⟨⟨a', r', rest', us', rfl, j1, j2, j3⟩, l2⟩ := hT j u hu
    refine lt_inst (K := K) (show un + 1 + 1 < cLine by unfold cLine; lia) (fun a o e => kk _ _ (kin a o e)) I g1 g2 ?_
    exact ltK w mg mb s' dp (un + 1 + 1) fr gd (by lia) _ _ (fun a o e => kk _ _ (X0 a o e)) (T0.keeps kk) K C X f0 f1 ce P N0 pm I (fun a o e => kk _ _ (kin a o e)) (FnAt.but F1 fun y o _ _ e => kk y o e) ⟨oc, kk _ _ gc, dc⟩ x y a a' dx dy r r' g1 g2 e1 e2
      (rows.getD i []) (rows.getD j []) us us' rest rest' (isList_keeps i1 kk) (isList_keeps j1 kk) (isList_keeps i2 kk) i3 (isList_keeps j2 kk) j3 (by lia) (by lia) fun h' tk k3 => ⟨_, rfl, hq h' tk k3⟩
end Mine
namespace Mine
open PySem PySem.W PySem.W.X PyProof.Rows PySem.Calls
set_option maxRecDepth 100000
set_option maxHeartbeats 400000
section
variable {prog : Program} {w : World} {A : Around} {E : Value → Shared → Prop} {s : Shared} {Q : Value → Shared → Prop} {a b c : Int} {t u : Tok}
theorem addE (e : a + b = c) (h : Q (.int c s.toks) { s with toks := s.toks + 1 }) : wpAny (model prog w) A (binaryOp .Add (.int a t) (.int b u)) Q E s := add_int (e ▸ h)
theorem subE (e : a - b = c) (h : Q (.int c s.toks) { s with toks := s.toks + 1 }) : wpAny (model prog w) A (binaryOp .Sub (.int a t) (.int b u)) Q E s := sub_int (e ▸ h)
theorem modE (hb : b ≠ 0) (e : a.fmod b = c) (h : Q (.int c s.toks) { s with toks := s.toks + 1 }) : wpAny (model prog w) A (binaryOp .Mod (.int a t) (.int b u)) Q E s := mod_int' hb (e ▸ h)
theorem divE (hb : b ≠ 0) (hs : b.natAbs < 1073741824) (e : a.fdiv b = c) (h : Q (.int c s.toks) { s with toks := s.toks + 1 }) : wpAny (model prog w) A (binaryOp .FloorDiv (.int a t) (.int b u)) Q E s := floordiv_int hb (e ▸ h) (.inl (PyProof.noPylong_small hs))
theorem eqE {r : Bool} (e : (a == b) = r) (h : Q (.bool r) s) : wpAny (model prog w) A (compareOp .Eq (.int a t) (.int b u)) Q E s := eq_int (e ▸ h)
theorem lenE {l : Addr} {vs : List Value} {n : Nat} (hl : s.heap.IsList l vs.toArray) (e : vs.length = n) (hn : n < 9000000000000000000) (h : Q (.int (n : Int) (s.toks + 1)) { s with toks := s.toks + 1 + 1 }) : wpAny (model prog w) A (call (.builtin "len") [.ref l]) Q E s := by
  subst e
  exact len_list hl (by rw [List.size_toArray]; lia) (by rw [List.size_toArray]; exact h)
theorem push2 {h : Heap} (o1 o2 : Obj) : Keeps h ((h.push o1).push o2) := fun b o e => Heap.get?_push_of_some _ (Heap.get?_push_of_some _ e)
theorem push2_at {h : Heap} (o1 o2 : Obj) (hf : o2.isFreed = false) : ((h.push o1).push o2).get? (h.objs.size + 1) = some o2 := Heap.get?_push_at (by rw [Heap.size_push]) hf
theorem sliceUp {env : Env} {value up : Expr} {p pos : Pos} {vs : List Value}
    (h : wpAny (model prog w) A (eval value env) (fun o s₁ => wpAny (model prog w) A (eval up env) (fun vu s₃ =>
      ∃ l k t, o = .ref l ∧ s₃.heap.IsList l vs.toArray ∧ vs.length ≤ sizeLine ∧ vu = .int ((k : Nat) : Int) t ∧ k ≤ vs.length ∧
        ∀ D h', Keeps s₃.heap h' → s₃.heap.get? D = none → h'.get? D = some { cls := .type "list", data := .seq (vs.take k).toArray } → Q (.ref D) { s₃ with heap := h' }) E s₁) E s)
    (ht : ∀ o r, letTemporaryGo value o r = pure () := by intro _ _; rfl) :
    wpAny (model prog w) A (eval (.Subscript value (.Slice none (some up) none p) pos) env) Q E s := by
  refine wpAny_Subscript_list_slice (wpAny_mono h (fun o s₁ h₁ => evalPart_none_step (evalPart_some_step (wpAny_mono h₁ (fun vu s₃ h₃ => ?_) fun _ _ e => e))) fun _ _ e => e) ht
  obtain ⟨l, k, t, rfl, hl, hz, rfl, hk, hq⟩ := h₃
  refine ⟨l, vs.toArray, none, some (k : Int), rfl, hl, by rw [List.size_toArray]; exact hz, .none, .int _ _, ?_⟩
  rw [slicePick_upto _ k (by rw [List.size_toArray]; exact hk)]
  exact hq _ _ (push2 _ _) (Heap.get?_none_of_le (Nat.le_succ _)) (push2_at _ _ rfl)
theorem sliceFrom {env : Env} {value lo : Expr} {p pos : Pos} {vs : List Value}
    (h : wpAny (model prog w) A (eval value env) (fun o s₁ => wpAny (model prog w) A (eval lo env) (fun vu s₃ =>
      ∃ l k t, o = .ref l ∧ s₃.heap.IsList l vs.toArray ∧ vs.length ≤ sizeLine ∧ vu = .int ((k : Nat) : Int) t ∧ k ≤ vs.length ∧
        ∀ D h', Keeps s₃.heap h' → s₃.heap.get? D = none → h'.get? D = some { cls := .type "list", data := .seq (vs.drop k).toArray } → Q (.ref D) { s₃ with heap := h' }) E s₁) E s)
    (ht : ∀ o r, letTemporaryGo value o r = pure () := by intro _ _; rfl) :
    wpAny (model prog w) A (eval (.Subscript value (.Slice (some lo) none none p) pos) env) Q E s := by
  refine wpAny_Subscript_list_slice (wpAny_mono h (fun o s₁ h₁ => evalPart_some_step (wpAny_mono h₁ (fun vu s₃ h₃ => evalPart_none_step ?_) fun _ _ e => e)) fun _ _ e => e) ht
  obtain ⟨l, k, t, rfl, hl, hz, rfl, hk, hq⟩ := h₃
  refine ⟨l, vs.toArray, some (k : Int), none, rfl, hl, by rw [List.size_toArray]; exact hz, .int _ _, .none, ?_⟩
  rw [slicePick_from _ k (by rw [List.size_toArray]; exact hk)]
  exact hq _ _ (push2 _ _) (Heap.get?_none_of_le (Nat.le_succ _)) (push2_at _ _ rfl)
end
theorem isList_same {h h' : Heap} {a b : Addr} {its : Array Value} {m : Str → Option Value} (x : h.IsList a its) (n : h.Ns b m) (q : Heap.SameBut b h h') : h'.IsList a its := by
  obtain ⟨o, e, hc, k, hd⟩ := x
  refine ⟨o, (q.2 a ?_).trans e, hc, k, hd⟩
  rintro rfl
  obtain ⟨o', _, _, e', hd', _⟩ := n
  rw [e] at e'; cases e'; rw [hd] at hd'; cases hd'
theorem isList_iter {h h' : Heap} {a b l : Addr} {i : Nat} {its : Array Value} (x : h.IsList a its) (n : h.IsListIter b l i) (q : Heap.SameBut b h h') : h'.IsList a its := by
  obtain ⟨o, e, hc, k, hd⟩ := x
  refine ⟨o, (q.2 a ?_).trans e, hc, k, hd⟩
  rintro rfl
  obtain ⟨o', e', _, hd'⟩ := n
  rw [e] at e'; cases e'; rw [hd] at hd'; cases hd'
theorem fr_store {h₀ h h' : Heap} {L : Addr} {m m' : Str → Option Value} (F : Fr h₀ L h m) (n : h'.Ns L m') (q : Heap.SameBut L h h') : Fr h₀ L h' m' :=
  ⟨n, fun b o e => (q.2 b (fun z => by rw [z, Heap.get?_none_of_le F.above] at e; cases e)).trans (F.keep b o e), F.above⟩
inductive Th (h : Heap) (b N S : Nat) (rest : List Value) (v : Value) : Prop
  | mk (a r : Addr) (us : List Value) (c : Nat) (t : Tok) (e : v = .ref a) (i1 : h.IsList a (Value.ref r :: Value.int ((c : Nat) : Int) t :: rest).toArray) (i2 : h.IsList r (List.toArray us)) (q : NatsAre us (dg b 6 N) ∧ c * (b - 1) + (dg b 6 N).sum = S)
section
variable {h h' : Heap} {b N S : Nat} {rest : List Value} {v : Value}
theorem Th.keeps (x : Th h b N S rest v) (k : Keeps h h') : Th h' b N S rest v := let ⟨a, r, us, c, t, e, i1, i2, q⟩ := x; ⟨a, r, us, c, t, e, isList_keeps i1 k, isList_keeps i2 k, q⟩
theorem Th.same {L : Addr} {m : Str → Option Value} (x : Th h b N S rest v) (n : h.Ns L m) (k : Heap.SameBut L h h') : Th h' b N S rest v := let ⟨a, r, us, c, t, e, i1, i2, q⟩ := x; ⟨a, r, us, c, t, e, isList_same i1 n k, isList_same i2 n k, q⟩
theorem Th.iter {L l : Addr} {i : Nat} (x : Th h b N S rest v) (n : h.IsListIter L l i) (k : Heap.SameBut L h h') : Th h' b N S rest v := let ⟨a, r, us, c, t, e, i1, i2, q⟩ := x; ⟨a, r, us, c, t, e, isList_iter i1 n k, isList_iter i2 n k, q⟩
end
theorem laidT (w : World) (mg mb : Str → Option Value) (s : Shared) (dp un : Nat) (fr : Option (List Env)) (gd : Option (List Code)) (hdp : dp < 500) (Q E : Value → Shared → Prop) (O : Okk w mg mb s.heap) (b : Nat) (hb : 2 ≤ b) (hb2 : b ≤ 64) (t2 : Tok)
    {v1 v2 : Value} {N1 S1 N2 S2 : Nat} {r1 r2 : List Value} (x1 : Th s.heap b N1 S1 r1 v1) (x2 : Th s.heap b N2 S2 r2 v2) (hlt : N1 + N2 < b ^ 6)
    (hQ : ∀ h' tk v, Keeps s.heap h' → Th h' b (N1 + N2) (S1 + S2) [] v → Q v { s with heap := h', toks := tk }) :
    wpAny (model pr w) { handled := none, depth := dp, frames := fr, guards := gd, units := un } (call (.ref 100) [.int (b : Int) t2, v1, v2]) Q E s := by
  obtain ⟨a1, q1, us1, c1, t1, rfl, i1, j1, n1, s1⟩ := x1
  obtain ⟨a2, q2, us2, c2, u2, rfl, i2, j2, n2, s2⟩ := x2
  refine laid w mg mb s dp un fr gd hdp Q E O.X O.T b hb hb2 t2 a1 a2 q1 q2 _ _ us1 us2 r1 r2 c1 c2 t1 u2 i1 i2 j1 n1 j2 n2 (by rw [dg_len]; exact Nat.le_refl _) (by rw [dg_len, dg_len]) ?_
  intro h' tk a r e1 e2 ws t k na nr ga gr hw
  refine hQ h' tk _ k ⟨a, r, ws, _, t, rfl, ⟨_, ga, rfl, _, rfl⟩, ⟨_, gr, rfl, _, rfl⟩, ?_, ?_⟩
  · rw [lay_dg b (by lia)] at hw; exact hw
  · have z := layC_dg b (by lia) 6 N1 N2 0 (by lia)
    rw [Nat.add_zero] at z
    rw [Nat.add_mul, Nat.add_mul]
    simp only [Nat.add_zero] at z
    lia
end Mine
namespace Mine
open PySem PySem.W PySem.W.X PyProof.Rows PySem.Calls
set_option maxRecDepth 100000
set_option maxHeartbeats 400000
def Ths (h : Heap) (b : Nat) (vs : List Value) (ns : List (Nat × Nat)) : Prop := vs.length = ns.length ∧ ∀ (i : Nat) v p, vs[i]? = some v → ns[i]? = some p → ∃ rest, Th h b p.1 p.2 rest v
theorem Ths.keeps {h h' : Heap} {b : Nat} {vs : List Value} {ns : List (Nat × Nat)} (x : Ths h b vs ns) (k : Keeps h h') : Ths h' b vs ns := ⟨x.1, fun i v p a c => let ⟨r, q⟩ := x.2 i v p a c; ⟨r, q.keeps k⟩⟩
def sN (ns : List (Nat × Nat)) : Nat := (ns.map (·.1)).sum
def sS (ns : List (Nat × Nat)) : Nat := (ns.map (·.2)).sum
theorem drop_at {α : Type} {l : List α} {i : Nat} {x : α} (h : l[i]? = some x) : l.drop i = x :: l.drop (i + 1) := by
  obtain ⟨hi, e⟩ := List.getElem?_eq_some_iff.mp h
  rw [List.drop_eq_getElem_cons hi, e]
abbrev FSpec (w : World) (h₀ : Heap) (A : Around) (b : Nat) (g : Addr) : Prop := ∀ (s' : Shared) (v1 v2 : Value) (N1 S1 N2 S2 : Nat) (r1 r2 : List Value) (Q' E' : Value → Shared → Prop), Keeps h₀ s'.heap → Th s'.heap b N1 S1 r1 v1 → Th s'.heap b N2 S2 r2 v2 → N1 + N2 < b ^ 6 →
  (∀ h' tk v, Keeps s'.heap h' → Th h' b (N1 + N2) (S1 + S2) [] v → Q' v { s' with heap := h', toks := tk }) → wpAny (model pr w) A (call (.ref g) [v1, v2]) Q' E' s'
theorem iter_keeps {h h' : Heap} {a l : Addr} {i : Nat} (x : h.IsListIter a l i) (k : Keeps h h') : h'.IsListIter a l i := let ⟨o, e, r⟩ := x; ⟨o, k _ _ e, r⟩
theorem iter_same {h h' : Heap} {a l b : Addr} {i : Nat} {m : Str → Option Value} (x : h.IsListIter a l i) (n : h.Ns b m) (q : Heap.SameBut b h h') : h'.IsListIter a l i := by
  obtain ⟨o, e, hc, hd⟩ := x
  refine ⟨o, (q.2 a ?_).trans e, hc, hd⟩
  rintro rfl
  obtain ⟨o', _, _, e', hd', _⟩ := n
  rw [e] at e'; cases e'; rw [hd] at hd'; cases hd'
inductive RedJ (s : Shared) (h₀ : Heap) (L : Addr) (b : Nat) (g l I : Addr) (n : Nat) (ns : List (Nat × Nat)) (N S : Nat) (k : Nat) (s' : Shared) : Prop
  | mk (h : Heap) (tk : Nat) (m' : Str → Option Value) (j N' S' : Nat) (rest' : List Value) (v' : Value) (e : s' = { s with heap := h, toks := tk }) (q : Fr h₀ L h m' ∧ m' (Str.ofString "value") = some v' ∧ m' (Str.ofString "function") = some (.ref g) ∧ h.IsListIter I l j ∧ Th h b N' S' rest' v' ∧ j ≤ n ∧
      N' + sN (ns.drop j) = N ∧ S' + sS (ns.drop j) = S ∧ (rest' = [] ∨ j < n) ∧ k + j = n)
theorem red_tail {w : World} {A : Around} {E : Value → Shared → Prop} {s : Shared} {env : Env} {h₀ : Heap} {b : Nat} {g l I : Addr} {vs : List Value} {ns : List (Nat × Nat)} {i N S : Nat} {rest : List Value} {v : Value} {m : Str → Option Value} {p1 p2 p3 p4 p5 p6 p7 p8 p9 p10 p11 : Pos} {Q : Flow → Shared → Prop} {og : Obj} {fd : FuncData}
    (hh : A.handled = none) (hk : env.scope.kind = .function) (k1 : env.kindOf (Str.ofString "element") = some .local) (k2 : env.kindOf (Str.ofString "it") = some .local) (k3 : env.kindOf (Str.ofString "value") = some .local) (k4 : env.kindOf (Str.ofString "function") = some .local)
    (F : Fr h₀ env.locals s.heap m) (m1 : m (Str.ofString "it") = some (.ref I)) (m2 : m (Str.ofString "value") = some v) (m3 : m (Str.ofString "function") = some (.ref g)) (hI : s.heap.IsListIter I l i) (hI0 : h₀.get? I = none) (hl : h₀.IsList l vs.toArray)
    (hg : h₀.get? g = some og) (hgd : og.data = .func fd) (x : Th s.heap b N S rest v) (xs : Ths h₀ b vs ns) (hi : i ≤ vs.length) (hlt : N + sN (ns.drop i) < b ^ 6) (hr : rest = [] ∨ i < vs.length) (hf : FSpec w h₀ A b g)
    (hQ : ∀ h' tk v', Keeps h₀ h' → Th h' b (N + sN (ns.drop i)) (S + sS (ns.drop i)) [] v' → Q (.ret v') { s with heap := h', toks := tk }) :
    wpAny (model pr w) A (execs [.For (.Name (Str.ofString "element") p1) (.Name (Str.ofString "it") p2) [.Assign [.Name (Str.ofString "value") p3] (.Call (.Name (Str.ofString "function") p4) [.Name (Str.ofString "value") p5, .Name (Str.ofString "element") p6] [] p7) p8] [] p9, .Return (some (.Name (Str.ofString "value") p10)) p11] env) Q E s := by
  have hp : (env.scope.kind == .class || (env.scope.kind == .module && env.locals != env.globals)) = false := by rw [hk]; rfl
  refine wpAny_execs_cons (wpAny_For (wpAny_Name (wpAny_loadName_local hk k2 F.ns m1 ?_)))
  refine wpAny_pyIter_listiter hI ?_
  refine codeAny_forLoop (RedJ s h₀ env.locals b g l I vs.length ns (N + sN (ns.drop i)) (S + sS (ns.drop i))) ?_ (vs.length - i) ⟨s.heap, s.toks, m, i, N, S, rest, v, rfl, F, m2, m3, hI, x, hi, rfl, rfl, hr, by lia⟩
  rintro k s' ⟨h, tk, m', j, N', S', rest', v', rfl, F', e2, e3, hI', x', hj, eN, eS, hr', hkj⟩
  have hl' := isList_keeps hl F'.keep
  by_cases hlt2 : j < vs.length
  · obtain ⟨u, hu⟩ : ∃ u, vs[j]? = some u := ⟨_, List.getElem?_eq_getElem hlt2⟩
    obtain ⟨p, hpn⟩ : ∃ p, ns[j]? = some p := ⟨_, List.getElem?_eq_getElem (by rw [← xs.1]; exact hlt2)⟩
    refine wpAny_pyNext_list_item hI' hl' (by simpa using hu) fun h1 hI1 sb1 => ?_
    have F1 : Fr h₀ env.locals h1 m' := F'.change sb1 (fun e => by
      obtain ⟨o, q, _, hd⟩ := hI'; obtain ⟨o', _, _, q', hd', _⟩ := F'.ns; rw [e] at q; rw [q] at q'; cases q'; rw [hd] at hd'; cases hd') hI0
    have x1 := x'.iter hI' sb1
    refine wpAny_assign_Name (wpAny_storeName_local k1 F1.ns (fun h2 n2 sb2 => ?_) hp)
    have F2 := fr_store F1 n2 sb2
    have x2 := x1.same F1.ns sb2
    have hI2 := iter_same hI1 F1.ns sb2
    obtain ⟨ru, xu⟩ := xs.2 j u p hu hpn
    have xu2 := xu.keeps F2.keep
    refine wpAny_execs_cons (wpAny_Assign_Name (Call_ (wpAny_Name (wpAny_loadName_local hk k4 F2.ns (v := .ref g) (by rw [if_neg (by decide)]; exact e3) ?_))))
    refine callWith_def hgd (args_cons (wpAny_Name (wpAny_loadName_local hk k3 F2.ns (v := v') (by rw [if_neg (by decide)]; exact e2) ?_)))
    refine args_cons (wpAny_Name (wpAny_loadName_local hk k1 F2.ns (v := u) (if_pos rfl) (args_nil ⟨F2.keep _ _ hg, ?_⟩)))
    rw [drop_at hpn] at eN eS
    simp only [sN, sS, List.map_cons, List.sum_cons] at eN eS hlt
    refine hf _ v' u N' S' p.1 p.2 rest' ru _ _ F2.keep x2 xu2 (by lia) fun h3 tk3 v3 k3' x3 => ?_
    have F3 := fr_keeps F2 k3'
    refine wpAny_storeName_local k3 F3.ns (fun h4 n4 sb4 => ?_) hp
    refine wpAny_execs_nil ⟨k - 1, by lia, h4, _, _, j + 1, N' + p.1, S' + p.2, [], v3, rfl, fr_store F3 n4 sb4, if_pos rfl, ?_, iter_same (iter_keeps hI2 k3') F3.ns sb4, x3.same F3.ns sb4, hlt2, ?_, ?_, .inl rfl, by lia⟩
    · rw [if_neg (by decide), if_neg (by decide)]; exact e3
    · simp only [sN]; lia
    · simp only [sS]; lia
  · have hje : j = vs.length := by lia
    subst hje
    refine wpAny_pyNext_list_end hh hI' hl' (by simp) fun h1 eb => ?_
    refine wpAny_execs_nil ?_
    have nL : I ≠ env.locals := fun e => by
      obtain ⟨o, q, _, hd⟩ := hI'; obtain ⟨o', _, _, q', hd', _⟩ := F'.ns; rw [e] at q; rw [q] at q'; cases q'; rw [hd] at hd'; cases hd'
    have n1 := F'.ns.extBut eb (Ne.symm nL)
    have hr2 : rest' = [] := by rcases hr' with q | q
                                · exact q
                                · exact absurd q (by lia)
    subst hr2
    have x1 : Th h1 b N' S' [] v' := by
      obtain ⟨a, r, us, c, t, e, i1, i2, q⟩ := x'
      have off : ∀ {a : Addr} {its : Array Value}, h.IsList a its → a ≠ I := fun {a its} z e => by
        obtain ⟨o, q, _, hd⟩ := hI'; obtain ⟨o', q', _, n, hd'⟩ := z; rw [e] at q'; rw [q] at q'; cases q'; rw [hd] at hd'; cases hd'
      exact ⟨a, r, us, c, t, e, i1.extBut eb (off i1), i2.extBut eb (off i2), q⟩
    have kk : Keeps h₀ h1 := fun y o e => eb y o (fun z => by rw [z, hI0] at e; cases e) (F'.keep y o e)
    refine wpAny_execs_cons (wpAny_Return_some (wpAny_Name (wpAny_loadName_local hk k3 n1 (v := v') e2 ?_)))
    have d0 : ns.drop vs.length = [] := List.drop_eq_nil_of_le (by rw [xs.1]; exact Nat.le_refl _)
    rw [d0] at eN eS
    have z1 : sN [] = 0 := rfl
    have z2 : sS [] = 0 := rfl
    rw [z1, Nat.add_zero] at eN
    rw [z2, Nat.add_zero] at eS
    rw [eN, eS] at x1
    exact hQ h1 _ v' kk x1
end Mine
namespace Mine
open PySem PySem.W PySem.W.X PyProof.Rows PySem.Calls
set_option maxRecDepth 100000
set_option maxHeartbeats 400000
local macro_rules | `(tactic| walk_at "mine enter") => `(tactic| (
  refine wpAny_call ?_
  k_dflt (refine' enterK ?k1 ?k2 ?k3 ?k4 ?k5 ?k6 ?k7 ?_ ?c2 ?c3 ?c4 ?c5; (case k1 => k_asm); (case k2 => exact TopRead.nolimit (by assumption)); (case k3 => k_is); (case k4 => k_is); (case k5 => (dsimp only [recursionLimit]; lia)); (case k6 => first | exact BindsTo.of_eq rfl | exact binds_K (by k_in) rfl (by k_is) rfl rfl rfl); (case k7 => exact locs rfl); (case c2 => exact rfl); (case c3 => exact rfl); (case c4 => exact rfl); (case c5 => decide); k_whole)))
section
variable {prog : Program} {w : World} {A : Around} {E : Value → Shared → Prop} {s : Shared} {Q : Value → Shared → Prop}
theorem call_iter {l : Addr} {its : Array Value} (hl : s.heap.IsList l its)
    (hQ : Q (.ref s.heap.objs.size) { s with heap := s.heap.push { cls := .type "list_iterator", data := .fields #[.ref l, .int 0 0] } }) :
    wpAny (model prog w) A (call (.builtin "iter") [.ref l]) Q E s := by
  refine call_function_entry (by decide +kernel) (by decide +kernel) kdk_entry_iter (kdk_args_iter _) ?_
  unfold Builtin.«iter»
  refine wpAny_bind (m := someArgs "iter" 1 2 _) (wpAny_of_eq (a := [Value.ref l]) (by first | rfl | kernel_rfl!) ?_)
  show wpAny _ _ (pyIter (.ref l) >>= _) _ _ _
  exact wpAny_bind (wpAny_pyIter_list hl (wpAny_pure ⟨_, rfl, hQ⟩))
theorem special_listiter {it l : Addr} {i : Nat} {items : Array Value} {x : Value} {Q : Option Value → Shared → Prop} (hit : s.heap.IsListIter it l i)
    (hl : s.heap.IsList l items) (hx : items[i]? = some x)
    (hQ : ∀ h', h'.IsListIter it l (i + 1) → Heap.SameBut it s.heap h' → Q (some x) { s with heap := h' }) :
    wpAny (model prog w) A (callSpecial? (.ref it) (Str.ofString "__next__")) Q E s := by
  obtain ⟨o, ho, hc, hd⟩ := id hit
  obtain ⟨ol, hol, _, nl, hdl⟩ := hl
  refine wpAny_callSpecial?_slot (name := Str.ofString "__next__") hit.typeIs slot_listiter_next
    (wpAny_call_entry slot_listiter_next hit.typeIs entry_listiter_next ?_ (args_listiter_next _))
  show wpAny _ _ (field (.ref it) 0 >>= _) _ _ s
  refine wpAny_bind (wpAny_field ho hd (x := .ref l) rfl ?_)
  show wpAny _ _ (if (Value.ref l == Value.none) = true then _ else _) _ _ s
  rw [if_neg (show ¬ ((Value.ref l == Value.none) = true) from Bool.false_ne_true)]
  show wpAny _ _ (field (.ref it) 1 >>= _) _ _ s
  refine wpAny_bind (wpAny_field ho hd (x := .int i 0) rfl ?_)
  show wpAny _ _ (seqItems? (.ref l) >>= _) _ _ s
  refine wpAny_bind (wpAny_seqItems hol hdl ?_)
  simp only [Int.toNat_natCast, hx]
  refine wpAny_bind (wpAny_setField ho hd (by simp) (wpAny_pure ⟨x, rfl, hQ _ ?_ (Heap.SameBut.update ..)⟩))
  exact ⟨_, Heap.get?_update_self _ ho (Obj.isFreed_of_fields (Obj.data_mapFields hd _)), (Obj.cls_mapFields ..).trans hc, by
    rw [Obj.data_mapFields hd]; simp [rawInt]⟩
theorem call_next {it l : Addr} {i : Nat} {items : Array Value} {x : Value} (hit : s.heap.IsListIter it l i) (hl : s.heap.IsList l items) (hx : items[i]? = some x)
    (hQ : ∀ h', h'.IsListIter it l (i + 1) → Heap.SameBut it s.heap h' → Q x { s with heap := h' }) :
    wpAny (model prog w) A (call (.builtin "next") [.ref it]) Q E s := by
  refine call_function_entry (by decide +kernel) (by decide +kernel) kdk_entry_next (kdk_args_next _) ?_
  unfold Builtin.«next»
  refine wpAny_bind (m := someArgs "next" 1 2 _) (wpAny_of_eq (a := [Value.ref it]) (by first | rfl | kernel_rfl!) ?_)
  dsimp only
  refine wpAny_bind (wpAny_specialOf (name := Str.ofString "__next__") hit.typeIs slot_listiter_next.lookup ?_)
  refine wpAny_ite_split (fun hab => absurd hab (by decide)) (fun _ => ?_)
  exact wpAny_bind (special_listiter hit hl hx fun h' a b => wpAny_pure ⟨_, rfl, hQ h' a b⟩)
end
theorem reduce2 (w : World) (mg mb : Str → Option Value) (s : Shared) (dp un : Nat) (fr : Option (List Env)) (gd : Option (List Code)) (hdp : dp < 490) (Q E : Value → Shared → Prop) (O : Okk w mg mb s.heap) (b : Nat) (g l : Addr) (vs : List Value) (ns : List (Nat × Nat)) (og : Obj) (fd : FuncData)
    (hl : s.heap.IsList l vs.toArray) (hg : s.heap.get? g = some og) (hgd : og.data = .func fd) (xs : Ths s.heap b vs ns) (h2 : 2 ≤ vs.length) (hlt : sN ns < b ^ 6) (hf : ∀ fr', FSpec w s.heap { handled := none, depth := dp + 1, frames := fr', guards := gd, units := un + 3 } b g)
    (hQ : ∀ h' tk v', Keeps s.heap h' → Th h' b (sN ns) (sS ns) [] v' → Q v' { s with heap := h', toks := tk }) :
    wpAny (model PySem.Challenge.rw_oh0008_01.row.prog w) { handled := none, depth := dp, frames := fr, guards := gd, units := un } (call (.ref 81) [.ref g, .ref l]) Q E s := by
  have X0 := O.X
  have T0 := O.T
  revert X0; k_fill; intro X0
  walk_at "mine enter"
  intro L h₁ hL F N
  dsimp only
  refine noExc ?_
  have O1 : Okk w mg mb h₁ := O.keeps F.keep
  have hl1 := isList_keeps hl F.keep
  refine wpAny_execs_cons (wpAny_Assign_Name (Call_ (nmB O1 bb_iter (nn_iter _) rfl rfl rfl rfl ?_)))
  refine callWith_builtin1 (args_cons (wpAny_Name (wpAny_loadName_local rfl rfl F.ns (v := .ref l) rfl (args_nil ?_))))
  refine call_iter hl1 ?_
  have gI : (h₁.push { cls := .type "list_iterator", data := .fields #[.ref l, .int 0 0] }).IsListIter h₁.objs.size l 0 := ⟨_, Heap.get?_push_size _ rfl, rfl, rfl⟩
  have hI0 : s.heap.get? h₁.objs.size = none := new_none F (Nat.le_refl _)
  have F1 := F.push { cls := .type "list_iterator", data := .fields #[.ref l, .int 0 0] }
  generalize h₁.push { cls := .type "list_iterator", data := .fields #[.ref l, .int 0 0] } = m1 at *
  generalize h₁.objs.size = I at *
  refine wpAny_storeName_local rfl F1.ns (fun h2 n2 sb2 => ?_) rfl
  have F2 := fr_store F1 n2 sb2
  have gI2 := iter_same gI F1.ns sb2
  have O2 : Okk w mg mb h2 := O.keeps F2.keep
  refine wpAny_execs_cons (wpAny_If (wpAny_isTrue_Compare1 (wpAny_Name (wpAny_loadName_local rfl rfl F2.ns (v := .ref 73) rfl ?_))))
  refine nmG O2 (gg_miss _) rfl rfl rfl (wpAny_is_ref_self (wpAny_truthy_bool ?_))
  rw [if_pos rfl]
  refine wpAny_execs_cons (wpAny_Try_except ?_)
  refine wpAny_execs_cons (wpAny_Assign_Name (Call_ (nmB O2 bb_next (nn_next _) rfl rfl rfl rfl ?_)))
  refine callWith_builtin1 (args_cons (wpAny_Name (wpAny_loadName_local rfl rfl F2.ns (v := .ref I) rfl (args_nil ?_))))
  obtain ⟨v0, hv0⟩ : ∃ u, vs[0]? = some u := ⟨_, List.getElem?_eq_getElem (by lia)⟩
  obtain ⟨p0, hp0⟩ : ∃ p, ns[0]? = some p := ⟨_, List.getElem?_eq_getElem (by rw [← xs.1]; lia)⟩
  obtain ⟨r0, x0⟩ := xs.2 0 v0 p0 hv0 hp0
  refine call_next gI2 (isList_keeps hl F2.keep) (x := v0) (by simpa using hv0) fun h3 gI3 sb3 => ?_
  have F3 : Fr s.heap L h3 _ := F2.change sb3 (fun e => by
      obtain ⟨o, q, _, hd⟩ := gI2; obtain ⟨o', _, _, q', hd', _⟩ := F2.ns; rw [e] at q; rw [q] at q'; cases q'; rw [hd] at hd'; cases hd') hI0
  refine wpAny_storeName_local rfl F3.ns (fun h4 n4 sb4 => ?_) rfl
  have F4 := fr_store F3 n4 sb4
  have gI4 := iter_same gI3 F3.ns sb4
  refine wpAny_execs_nil (wpAny_execs_nil (wpAny_execs_nil ?_))
  have e0 : p0.1 + sN (ns.drop 1) = sN ns ∧ p0.2 + sS (ns.drop 1) = sS ns := by
    have z := drop_at hp0
    rw [List.drop_zero] at z
    rw [z]; exact ⟨rfl, rfl⟩
  refine red_tail (h₀ := s.heap) (I := I) (g := g) (l := l) (i := 1) (v := v0) (N := p0.1) (S := p0.2) (rest := r0) rfl rfl rfl rfl rfl rfl F4 rfl rfl rfl gI4 hI0 hl hg hgd (x0.keeps F4.keep) xs (by lia) (by rw [e0.1]; exact hlt) (.inr (by lia)) (hf _) ?_
  intro h' tk v' k' x'
  rw [e0.1, e0.2] at x'
  exact hQ h' tk v' k' x'
end Mine
namespace Mine
open PySem PySem.W PySem.W.X PyProof.Rows PySem.Calls
set_option maxRecDepth 100000
set_option maxHeartbeats 400000
local macro_rules | `(tactic| walk_at "mine enter") => `(tactic| (
  refine wpAny_call ?_
  k_dflt (refine' enterK ?k1 ?k2 ?k3 ?k4 ?k5 ?k6 ?k7 ?_ ?c2 ?c3 ?c4 ?c5; (case k1 => k_asm); (case k2 => exact TopRead.nolimit (by assumption)); (case k3 => k_is); (case k4 => k_is); (case k5 => (dsimp only [recursionLimit]; lia)); (case k6 => first | exact BindsTo.of_eq rfl | exact binds_K (by k_in) rfl (by k_is) rfl rfl rfl); (case k7 => exact locs rfl); (case c2 => exact rfl); (case c3 => exact rfl); (case c4 => exact rfl); (case c5 => decide); k_whole)))
theorem reduce3 (w : World) (mg mb : Str → Option Value) (s : Shared) (dp un : Nat) (fr : Option (List Env)) (gd : Option (List Code)) (hdp : dp < 490) (Q E : Value → Shared → Prop) (O : Okk w mg mb s.heap) (b : Nat) (g l : Addr) (vs : List Value) (ns : List (Nat × Nat)) (og : Obj) (fd : FuncData)
    (hl : s.heap.IsList l vs.toArray) (hg : s.heap.get? g = some og) (hgd : og.data = .func fd) (xs : Ths s.heap b vs ns) (v0 : Value) (N0 S0 : Nat) (r0 : List Value) (x0 : Th s.heap b N0 S0 r0 v0) (h2 : 1 ≤ vs.length) (hlt : N0 + sN ns < b ^ 6) (hf : ∀ fr', FSpec w s.heap { handled := none, depth := dp + 1, frames := fr', guards := gd, units := un + 3 } b g)
    (hQ : ∀ h' tk v', Keeps s.heap h' → Th h' b (N0 + sN ns) (S0 + sS ns) [] v' → Q v' { s with heap := h', toks := tk }) :
    wpAny (model PySem.Challenge.rw_oh0008_01.row.prog w) { handled := none, depth := dp, frames := fr, guards := gd, units := un } (call (.ref 81) [.ref g, .ref l, v0]) Q E s := by
  have X0 := O.X
  have T0 := O.T
  revert X0; k_fill; intro X0
  walk_at "mine enter"
  intro L h₁ hL F N
  dsimp only
  refine noExc ?_
  have O1 : Okk w mg mb h₁ := O.keeps F.keep
  have hl1 := isList_keeps hl F.keep
  refine wpAny_execs_cons (wpAny_Assign_Name (Call_ (nmB O1 bb_iter (nn_iter _) rfl rfl rfl rfl ?_)))
  refine callWith_builtin1 (args_cons (wpAny_Name (wpAny_loadName_local rfl rfl F.ns (v := .ref l) rfl (args_nil ?_))))
  refine call_iter hl1 ?_
  have gI : (h₁.push { cls := .type "list_iterator", data := .fields #[.ref l, .int 0 0] }).IsListIter h₁.objs.size l 0 := ⟨_, Heap.get?_push_size _ rfl, rfl, rfl⟩
  have hI0 : s.heap.get? h₁.objs.size = none := new_none F (Nat.le_refl _)
  have F1 := F.push { cls := .type "list_iterator", data := .fields #[.ref l, .int 0 0] }
  generalize h₁.push { cls := .type "list_iterator", data := .fields #[.ref l, .int 0 0] } = m1 at *
  generalize h₁.objs.size = I at *
  refine wpAny_storeName_local rfl F1.ns (fun h2 n2 sb2 => ?_) rfl
  have F2 := fr_store F1 n2 sb2
  have gI2 := iter_same gI F1.ns sb2
  have O2 : Okk w mg mb h2 := O.keeps F2.keep
  obtain ⟨a0, r1, us0, c0, t0, rfl, i0, j0, q0⟩ := id x0
  obtain ⟨o73, g73, c73⟩ : ∃ o, s.heap.get? 73 = some o ∧ o.cls = .type "object" := ⟨_, O.X 73 _ rfl, rfl⟩
  have ne : a0 ≠ 73 := by
    rintro rfl
    obtain ⟨o, e, hc, _⟩ := i0
    rw [g73] at e; cases e; rw [c73] at hc; exact absurd (Value.type.inj hc) (by decide)
  obtain ⟨oa, ga, ca, _⟩ := id i0
  refine wpAny_execs_cons (wpAny_If (wpAny_isTrue_Compare1 (wpAny_Name (wpAny_loadName_local rfl rfl F2.ns (v := .ref a0) rfl ?_))))
  refine nmG O2 (gg_miss _) rfl rfl rfl (wpAny_is_ref_other ne (F2.keep _ _ ga) (F2.keep _ _ g73) (by rw [ca]; intro h; exact absurd (Value.type.inj h) (by decide)) (wpAny_truthy_bool ?_))
  rw [if_neg Bool.false_ne_true]
  refine wpAny_execs_cons (wpAny_Assign_Name (wpAny_Name (wpAny_loadName_local rfl rfl F2.ns (v := .ref a0) rfl ?_)))
  refine wpAny_storeName_local rfl F2.ns (fun h4 n4 sb4 => ?_) rfl
  have F4 := fr_store F2 n4 sb4
  have gI4 := iter_same gI2 F2.ns sb4
  refine wpAny_execs_nil ?_
  refine red_tail (h₀ := s.heap) (I := I) (g := g) (l := l) (i := 0) (v := .ref a0) (N := N0) (S := S0) (rest := r0) rfl rfl rfl rfl rfl rfl F4 rfl rfl rfl gI4 hI0 hl hg hgd (x0.keeps F4.keep) xs (by lia) (by rw [List.drop_zero]; exact hlt) (.inr (by lia)) (hf _) ?_
  intro h' tk v' k' x'
  rw [List.drop_zero] at x'
  exact hQ h' tk v' k' x'
end Mine
namespace Mine
open PySem PySem.W PySem.W.X PyProof.Rows PySem.Calls
set_option maxRecDepth 100000
set_option maxHeartbeats 400000
local macro_rules | `(tactic| walk_at "mine enter") => `(tactic| (
  refine wpAny_call ?_
  k_dflt (refine' enterK ?k1 ?k2 ?k3 ?k4 ?k5 ?k6 ?k7 ?_ ?c2 ?c3 ?c4 ?c5; (case k1 => k_asm); (case k2 => exact TopRead.nolimit (by assumption)); (case k3 => k_is); (case k4 => k_is); (case k5 => (dsimp only [recursionLimit]; lia)); (case k6 => exact BindsTo.of_eq rfl); (case k7 => exact locs rfl); (case c2 => exact rfl); (case c3 => exact rfl); (case c4 => exact rfl); (case c5 => decide); k_whole)))
theorem Ths.take {h : Heap} {b : Nat} {vs : List Value} {ns : List (Nat × Nat)} (x : Ths h b vs ns) (k : Nat) : Ths h b (vs.take k) (ns.take k) :=
  ⟨by rw [List.length_take, List.length_take, x.1], fun i v p a c => x.2 i v p (by rw [List.getElem?_take] at a; split at a <;> first | exact a | cases a) (by rw [List.getElem?_take] at c; split at c <;> first | exact c | cases c)⟩
theorem Ths.drop {h : Heap} {b : Nat} {vs : List Value} {ns : List (Nat × Nat)} (x : Ths h b vs ns) (k : Nat) : Ths h b (vs.drop k) (ns.drop k) :=
  ⟨by rw [List.length_drop, List.length_drop, x.1], fun i v p a c => x.2 (k + i) v p (by rw [List.getElem?_drop] at a; exact a) (by rw [List.getElem?_drop] at c; exact c)⟩
theorem sN_split (ns : List (Nat × Nat)) (k : Nat) : sN (ns.take k) + sN (ns.drop k) = sN ns ∧ sS (ns.take k) + sS (ns.drop k) = sS ns := by
  unfold sN sS
  constructor
  · rw [← List.sum_append, ← List.map_append, List.take_append_drop]
  · rw [← List.sum_append, ← List.map_append, List.take_append_drop]
theorem parted (w : World) (mg mb : Str → Option Value) (b : Nat) (hb : 2 ≤ b) (hb2 : b ≤ 64) : ∀ (n : Nat) (s : Shared) (dp un : Nat) (fr : Option (List Env)) (gd : Option (List Code)) (Q E : Value → Shared → Prop) (t1 t2 : Tok) (l : Addr) (vs : List Value) (ns : List (Nat × Nat)) (d : Nat),
    Okk w mg mb s.heap → vs.length ≤ n → n ≤ 60 → dp + n < 480 → 1 ≤ vs.length → s.heap.IsList l vs.toArray → Ths s.heap b vs ns → sN ns < b ^ 6 → d < 16777216 →
    (∀ h' tk v rest, Keeps s.heap h' → Th h' b (sN ns) (sS ns) rest v → (2 ≤ vs.length → rest = []) → Q v { s with heap := h', toks := tk }) →
    wpAny (model PySem.Challenge.rw_oh0008_01.row.prog w) { handled := none, depth := dp, frames := fr, guards := gd, units := un } (call (.ref 107) [.int (b : Int) t1, .ref l, .int (d : Int) t2]) Q E s := by
  intro n
  induction n with
  | zero => intro s dp un fr gd Q E t1 t2 l vs ns d O h1 _ _ h2; lia
  | succ n ih =>
  intro s dp un fr gd Q E t1 t2 l vs ns d O hn h60 hdp h1 hl xs hlt hd hQ
  have X0 := O.X
  have T0 := O.T
  revert X0; k_fill; intro X0
  walk_at "mine enter"
  intro L h₁ hL F N
  dsimp only
  refine noExc ?_
  have O1 : Okk w mg mb h₁ := O.keeps F.keep
  have hl1 := isList_keeps hl F.keep
  have hsz : vs.toArray.size = vs.length := List.size_toArray ..
  refine wpAny_execs_cons (wpAny_If (wpAny_isTrue_Compare1 (Call_ (nmB O1 bb_len (nn_len _) rfl rfl rfl rfl ?_))))
  refine callWith_builtin1 (args_cons (wpAny_Name (wpAny_loadName_local rfl rfl F.ns (v := .ref l) rfl (args_nil ?_))))
  by_cases c1 : vs.length = 1
  · refine lenE hl1 c1 (by decide) (wpAny_Constant_int (eqE (r := true) rfl (wpAny_truthy_bool ?_)))
    refine wpAny_execs_cons (wpAny_Return_some (Subscript_ (wpAny_Name (wpAny_loadName_local rfl rfl F.ns (v := .ref l) rfl ?_))))
    obtain ⟨v0, hv0⟩ : ∃ u, vs[0]? = some u := ⟨_, List.getElem?_eq_getElem (by lia)⟩
    obtain ⟨p0, hp0⟩ : ∃ p, ns[0]? = some p := ⟨_, List.getElem?_eq_getElem (by rw [← xs.1]; lia)⟩
    obtain ⟨r0, x0⟩ := xs.2 0 v0 p0 hv0 hp0
    refine wpAny_Constant_int (item_list hl1 (by decide) (by decide) (x := v0) (by simpa using hv0) ?_)
    have z := drop_at hp0
    rw [List.drop_zero] at z
    have z2 : ns.drop 1 = [] := List.drop_eq_nil_of_le (by rw [← xs.1]; lia)
    rw [z2] at z
    have e1 : sN ns = p0.1 := by rw [z]; simp [sN]
    have e2 : sS ns = p0.2 := by rw [z]; simp [sS]
    refine hQ _ _ v0 r0 F.keep (by rw [e1, e2]; exact x0.keeps F.keep) fun q => by lia
  · refine lenE hl1 rfl (by lia) (wpAny_Constant_int (eqE (r := false) (by rw [beq_eq_false_iff_ne]; lia) (wpAny_truthy_bool ?_)))
    refine wpAny_execs_nil ?_
    refine wpAny_execs_cons (wpAny_Assign_Name (wpAny_BinOp (wpAny_Constant_int (wpAny_BinOp (wpAny_Name (wpAny_loadName_local rfl rfl F.ns (v := .int (d : Int) t2) rfl ?_))))))
    refine wpAny_BinOp (Call_ (nmB O1 bb_len (nn_len _) rfl rfl rfl rfl ?_))
    refine callWith_builtin1 (args_cons (wpAny_Name (wpAny_loadName_local rfl rfl F.ns (v := .ref l) rfl (args_nil ?_))))
    have hm := Nat.mod_lt d (show 0 < vs.length - 1 by lia)
    obtain ⟨k, hk⟩ : ∃ k, k = 1 + d % (vs.length - 1) := ⟨_, rfl⟩
    refine lenE hl1 rfl (by lia) (wpAny_Constant_int (subE (c := ((vs.length - 1 : Nat) : Int)) (by lia) ?_))
    refine modE (by lia) (fmodN d (vs.length - 1)) (addE (c := (k : Int)) (by lia) ?_)
    have hk1 : 1 ≤ k := by lia
    have hk2 : k + 1 ≤ vs.length := by lia
    clear hk hm
    have hsz2 : vs.length ≤ sizeLine := by rw [sizeLine_eq]; lia
    have hsp := sN_split ns k
    refine wpAny_storeName_local rfl F.ns (fun h2 n2 sb2 => ?_) rfl
    have F2 := fr_store F n2 sb2
    have O2 : Okk w mg mb h2 := O.keeps F2.keep
    refine wpAny_execs_cons (wpAny_Assign_Name (Call_ (nmG O2 (gg_parted _) rfl rfl rfl ?_)))
    refine callG O2 (fn_parted _) (args_cons (wpAny_Name (wpAny_loadName_local rfl rfl F2.ns (v := .int (b : Int) t1) rfl ?_)))
    refine args_cons (sliceUp (vs := vs) (wpAny_Name (wpAny_loadName_local rfl rfl F2.ns (v := .ref l) rfl ?_)))
    refine wpAny_Name (wpAny_loadName_local rfl rfl F2.ns (v := .int (k : Int) _) rfl ?_)
    refine ⟨l, k, _, rfl, isList_keeps hl F2.keep, hsz2, rfl, by lia, fun D h3 k3 nD gD => ?_⟩
    have F3 := fr_keeps F2 k3
    refine args_cons (wpAny_BinOp (wpAny_Name (wpAny_loadName_local rfl rfl F3.ns (v := .int (d : Int) t2) rfl (wpAny_Constant_int ?_))))
    refine divE (by decide) (by decide) (fdivN d 3) (args_nil ⟨O2.keeps k3, ?_⟩)
    refine ih _ (dp + 1) (un + 3) _ _ _ _ _ _ D (vs.take k) (ns.take k) (d / 3) (O2.keeps k3) (by rw [List.length_take]; lia) (by lia) (by lia) (by rw [List.length_take]; lia) ⟨_, gD, rfl, _, rfl⟩ ((xs.take k).keeps F3.keep) (by lia) (by lia) ?_
    intro h4 tk4 v4 r4 k4 x4 _
    have F4 := fr_keeps F3 k4
    refine wpAny_storeName_local rfl F4.ns (fun h5 n5 sb5 => ?_) rfl
    have F5 := fr_store F4 n5 sb5
    have x5 := x4.same F4.ns sb5
    have O5 : Okk w mg mb h5 := O.keeps F5.keep
    refine wpAny_execs_cons (wpAny_Return_some (Call_ (nmG O5 (gg_laid _) rfl rfl rfl ?_)))
    refine callG O5 (fn_laid _) (args_cons (wpAny_Name (wpAny_loadName_local rfl rfl F5.ns (v := .int (b : Int) t1) rfl ?_)))
    refine args_cons (wpAny_Name (wpAny_loadName_local rfl rfl F5.ns (v := v4) rfl ?_))
    refine args_cons (Call_ (nmG O5 (gg_parted _) rfl rfl rfl ?_))
    refine callG O5 (fn_parted _) (args_cons (wpAny_Name (wpAny_loadName_local rfl rfl F5.ns (v := .int (b : Int) t1) rfl ?_)))
    refine args_cons (sliceFrom (vs := vs) (wpAny_Name (wpAny_loadName_local rfl rfl F5.ns (v := .ref l) rfl ?_)))
    refine wpAny_Name (wpAny_loadName_local rfl rfl F5.ns (v := .int (k : Int) _) rfl ?_)
    refine ⟨l, k, _, rfl, isList_keeps hl F5.keep, hsz2, rfl, by lia, fun D' h6 k6 nD' gD' => ?_⟩
    have F6 := fr_keeps F5 k6
    refine args_cons (wpAny_BinOp (wpAny_Name (wpAny_loadName_local rfl rfl F6.ns (v := .int (d : Int) t2) rfl (wpAny_Constant_int ?_))))
    refine divE (by decide) (by decide) (fdivN d 2) (args_nil ⟨O5.keeps k6, ?_⟩)
    refine ih _ (dp + 1) (un + 3) _ _ _ _ _ _ D' (vs.drop k) (ns.drop k) (d / 2) (O5.keeps k6) (by rw [List.length_drop]; lia) (by lia) (by lia) (by rw [List.length_drop]; lia) ⟨_, gD', rfl, _, rfl⟩ ((xs.drop k).keeps F6.keep) (by lia) (by lia) ?_
    intro h7 tk7 v7 r7 k7 x7 _
    have F7 := fr_keeps F6 k7
    have O7 : Okk w mg mb h7 := O.keeps F7.keep
    refine args_nil ⟨O7, ?_⟩
    refine laidT w mg mb _ (dp + 1) (un + 3) _ _ (by lia) _ _ O7 b hb hb2 _ ((x5.keeps k6).keeps k7) x7 (by lia) ?_
    intro h8 tk8 v8 k8 x8
    rw [hsp.1, hsp.2] at x8
    exact hQ h8 tk8 v8 [] (fr_keeps F7 k8).keep x8 fun _ => rfl
end Mine
namespace Mine
open PySem PySem.W PySem.W.X PyProof.Rows PySem.Calls
set_option maxRecDepth 100000
set_option maxHeartbeats 400000
theorem tri_snoc {a b : Int} {c : Value} : ∀ (l : List Value), TriplesOk l → TriplesOk (l ++ [rawInt a, rawInt b, c]) := by
  intro l h
  fun_induction TriplesOk l with
  | case1 => trivial
  | case2 _ _ _ _ _ _ ih => exact ih h
  | case3 => exact h.elim
theorem among_snoc {a b : Int} {c cv : Value} {pos : Pos} : ∀ (l : List Value), TriplesOk l → codeAmong pos (l ++ [rawInt a, rawInt b, c]) = some cv → codeAmong pos l = some cv ∨ cv = c := by
  intro l h
  fun_induction TriplesOk l with
  | case1 =>
    intro e
    simp only [List.nil_append, codeAmong, rawInt] at e
    split at e
    · cases e; exact .inr rfl
    · cases e
  | case2 x t y u z rest ih =>
    intro e
    simp only [List.cons_append, codeAmong] at e ⊢
    split at e
    · rename_i q; rw [if_pos q]; exact .inl e
    · rename_i q; rw [if_neg q]; exact ih h e
  | case3 => exact h.elim
structure Tab (h : Heap) (q : Str) : Prop where
  it : ∃ ps, h.get? 123 = some (tabObj ps) ∧ TriplesOk ps.toList ∧ ∀ pos cv, codeAmong pos ps.toList = some cv → ∃ c, cv = .ref c ∧ c ≠ 123 ∧ h.CodeRec (.ref c) q
theorem codeRec_x {h h' : Heap} {a c : Addr} {q : Str} (x : h.CodeRec (.ref c) q) (k : Heap.ExtBut a h h') (hn : c ≠ a) : h'.CodeRec (.ref c) q := by
  obtain ⟨c₂, o, vs, t, e, g, r⟩ := x
  cases e
  exact ⟨_, o, vs, t, rfl, k _ _ hn g, r⟩
theorem Tab.keeps {h h' : Heap} {q : Str} (x : Tab h q) (k : Keeps h h') : Tab h' q := by
  obtain ⟨ps, g, t, f⟩ := x.it
  exact ⟨ps, k _ _ g, t, fun pos cv e => let ⟨c, e1, n, r⟩ := f pos cv e; ⟨c, e1, n, r.keeps k⟩⟩
theorem Tab.same {h h' : Heap} {q : Str} {L : Addr} {m : Str → Option Value} (x : Tab h q) (n : h.Ns L m) (k : Heap.SameBut L h h') : Tab h' q := by
  obtain ⟨ps, g, t, f⟩ := x.it
  obtain ⟨o', es, ep, e', hd', _⟩ := n
  have nL : (123 : Addr) ≠ L := by rintro rfl; rw [g] at e'; cases e'; cases hd'
  refine ⟨ps, (k.2 _ nL).trans g, t, fun pos cv e => ?_⟩
  obtain ⟨c, e1, n, r⟩ := f pos cv e
  refine ⟨c, e1, n, codeRec_x r k.extBut ?_⟩
  rintro rfl
  obtain ⟨c₂, o, vs, t, e, g, r, _⟩ := r
  cases e; rw [g] at e'; cases e'; rw [r] at hd'; cases hd'
section
variable {w : World} {mg mb : Str → Option Value} {M : Model} {A : Around} {E : Value → Shared → Prop} {s : Shared} {env : Env} {Q : Value → Shared → Prop} {params : Arguments} {body : Expr} {scope : Scope} {pos : Pos} {clos : List (Str × Addr)} {q : Str}
theorem mkLam (O : Okk w mg mb s.heap) (BM : s.heap.BuiltinsAt mg 123) (TB : Tab s.heap q) (hcode : env.code = .ref 125) (C : CodeHd s.heap 125 123) (hgl : env.globals = mainGlobals) (hcl : closureFor scope env = pure clos) (hdef : defaultsOf params env = ([], [])) (hq : env.qual ++ Str.ofString "<lambda>" = q)
    (hQ : ∀ f c' pm ct h' tk, Heap.ExtBut 123 s.heap h' → Tab h' q → s.heap.get? f = none → h'.get? f = some (kla_obj (Str.ofString "<lambda>") q params body scope clos pm c' ct) → h'.CodeRec (.ref c') q → f ≠ 123 → c' ≠ 123 → Q (.ref f) { s with heap := h', toks := tk }) :
    wpAny M A (eval (.Lambda params body scope pos) env) Q E s := by
  subst hq
  refine kla_eval hdef ?_
  obtain ⟨ps, gP, ht, hf⟩ := TB.it
  have l123 := Heap.lt_size gP
  cases q : codeAmong pos ps.toList with
  | none =>
    refine kla_makeFunction hcl hgl O.T.g hcode C gP ht q (by decide) BM fun c' ct h' tk hx lc hlt rec hP => ?_
    have nc : c' ≠ 123 := Nat.ne_of_gt (Nat.lt_of_lt_of_le l123 lc)
    have up : Keeps h' (h'.push (kla_obj (Str.ofString "<lambda>") (env.qual ++ Str.ofString "<lambda>") params body scope clos ((mg "__name__").getD .none) c' ct)) := fun b o e => Heap.get?_push_of_some _ e
    have nf : s.heap.objs.size ≤ h'.objs.size := Nat.le_trans lc (Nat.le_of_lt hlt)
    refine hQ h'.objs.size c' _ ct _ tk (fun b o n e => up _ _ (hx b o n e)) ⟨_, up _ _ hP, ?_, fun p cv e => ?_⟩ (Heap.get?_none_of_le nf) (Heap.get?_push_size _ rfl) (rec.keeps up) (Nat.ne_of_gt (Nat.lt_of_lt_of_le l123 nf)) nc
    · rw [Array.toList_append]; exact tri_snoc _ ht
    · rw [Array.toList_append] at e
      rcases among_snoc _ ht e with e | e
      · obtain ⟨c, e1, n, r⟩ := hf p cv e
        exact ⟨c, e1, n, (codeRec_x r hx n).keeps up⟩
      · exact ⟨c', e, nc, rec.keeps up⟩
  | some cv =>
    obtain ⟨c', rfl, nc, rec⟩ := hf pos cv q
    refine kla_makeFunctionHit hcl hgl O.T.g hcode C gP ht q BM fun ct h' tk k nz => ?_
    have up : Keeps h' (h'.push { cls := .type "function", data := .func (kla_fn (Str.ofString "<lambda>") (env.qual ++ Str.ofString "<lambda>") params body scope clos ((mg "__name__").getD .none) (.ref c') ct) }) := fun b o e => Heap.get?_push_of_some _ e
    exact hQ h'.objs.size c' _ ct _ tk (fun b o _ e => up _ _ (k b o e)) ((TB.keeps k).keeps up) (Heap.get?_none_of_le nz) (Heap.get?_push_size _ rfl) ((rec.keeps k).keeps up) (Nat.ne_of_gt (Nat.lt_of_lt_of_le l123 nz)) nc
end
theorem lamF (w : World) (mg mb : Str → Option Value) (dp un : Nat) (fr : Option (List Env)) (gd : Option (List Code)) (hdp : dp < 480) (h₀ : Heap) (O : Okk w mg mb h₀) (b : Nat) (hb : 2 ≤ b) (hb2 : b ≤ 64) (f c' ce : Addr) (pm ct : Value) (q : Str) (tb : Tok) (a1 a2 p1 p2 p3 p4 p5 : Pos) (mr : List (Str × Const)) (g1 : Bool)
    (hc : h₀.IsCell ce (some (.int (b : Int) tb))) (rec : h₀.CodeRec (.ref c') q)
    (ho : h₀.get? f = some (kla_obj (Str.ofString "<lambda>") q { posonlyargs := [], args := [{ arg := Str.ofString "one", annotation := none, pos := a1 }, { arg := Str.ofString "other", annotation := none, pos := a2 }], vararg := none, kwonlyargs := [], kw_defaults := [], kwarg := none, defaults := [] }
      (.Call (.Name (Str.ofString "_law_laid") p1) [.Name (Str.ofString "base") p2, .Name (Str.ofString "one") p3, .Name (Str.ofString "other") p4] [] p5)
      { kind := .function, names := [(Str.ofString "one", .local), (Str.ofString "other", .local), (Str.ofString "base", .free), (Str.ofString "_law_laid", .globalImplicit)], isGenerator := false, isCoroutine := false, more := mr } [(Str.ofString "base", ce)] pm c' ct)) :
    FSpec w h₀ { handled := none, depth := dp, frames := fr, guards := gd, units := un } b f := by
  intro s v1 v2 N1 S1 N2 S2 r1 r2 Q E k x1 x2 hlt hQ
  refine wpAny_call (kla_callFunE (Nat.lt_of_lt_of_le hdp (by decide)) (k _ _ ho) rfl rfl rfl rfl (rec.keeps k) ?_)
  have hbind : bindArgs (kla_fn (Str.ofString "<lambda>") q { posonlyargs := [], args := [{ arg := Str.ofString "one", annotation := none, pos := a1 }, { arg := Str.ofString "other", annotation := none, pos := a2 }], vararg := none, kwonlyargs := [], kw_defaults := [], kwarg := none, defaults := [] }
      (.Call (.Name (Str.ofString "_law_laid") p1) [.Name (Str.ofString "base") p2, .Name (Str.ofString "one") p3, .Name (Str.ofString "other") p4] [] p5)
      { kind := .function, names := [(Str.ofString "one", .local), (Str.ofString "other", .local), (Str.ofString "base", .free), (Str.ofString "_law_laid", .globalImplicit)], isGenerator := false, isCoroutine := false, more := mr } [(Str.ofString "base", ce)] pm (.ref c') ct) ⟨[v1, v2], []⟩ = pure [(Str.ofString "one", v1), (Str.ofString "other", v2)] := rfl
  rw [hbind]
  refine wpAny_pure (wpAny_newFunctionEnv (by simp) (locs rfl) (fun h₁ hns hsb => ⟨((O.T.nolimit).keeps k).fresh _ hsb, ?_⟩) rfl)
  show codeAny _ _ (.expr _ (envX q _ s.heap.objs.size f (.ref c') _)) _ _
  have hk₁ : Keeps s.heap h₁ := fun b o e => hsb.extBut b o (Nat.ne_of_lt (Heap.lt_size e)) (Heap.get?_push_of_some _ e)
  have kk : Keeps h₀ h₁ := fun b o e => hk₁ _ _ (k b o e)
  have O1 := O.keeps kk
  refine kla_codeExpr (Call_ (nmG O1 (gg_laid _) rfl rfl rfl ?_))
  refine callG O1 (fn_laid _) (args_cons (wpAny_Name (wpAny_loadName_free rfl rfl rfl (hc.keeps kk) ?_)))
  refine args_cons (wpAny_Name (wpAny_loadName_local rfl rfl hns (v := v1) rfl ?_))
  refine args_cons (wpAny_Name (wpAny_loadName_local rfl rfl hns (v := v2) rfl (args_nil ⟨O1, ?_⟩)))
  refine laidT w mg mb _ (dp + 1) (un + 3) _ _ (by lia) _ _ O1 b hb hb2 _ (x1.keeps hk₁) (x2.keeps hk₁) hlt ?_
  intro h' tk v k' x'
  exact hQ h' tk v (fun b o e => k' _ _ (hk₁ b o e)) x'
end Mine
namespace Mine
open PySem PySem.W PySem.W.X PyProof.Rows PySem.Calls
set_option maxRecDepth 100000
set_option maxHeartbeats 8000000
theorem compRest_inv {prog : Program} {w : World} {A : Around} {h₀ : Heap} {L : Addr} {m : Str → Option Value} {env : Env} {elt : Expr} {x : Str} {scope : Scope} {cl : List (Str × Addr)} {s : Shared} {S : List (Addr × Obj) → Prop} {P : Nat → Value → Prop}
    {Fin : List Value → List (Addr × Obj) → Prop} {n : Nat} (J : Nat → List Value → List (Addr × Obj) → Prop)
    (step : ∀ i ys news v I oI C oC D m₂ h tk (E' : Value → Shared → Prop), i < n → J i ys news → P i v → LCg.NsObj oC m₂ → m₂ x = some v → Fr h₀ L h m → News h₀ L h ((I, oI) :: (C, oC) :: (D, LCg.lst ys) :: news) → LCg.Off3 I C D news → ((@Ne Nat I C) ∧ (@Ne Nat I D) ∧ (@Ne Nat C D)) →
      wpAny (model prog w) A (eval elt (compEnvC scope cl C env)) (LCg.CompEnd h₀ L m { s with heap := h, toks := tk } I oI C oC D (LCg.lst ys) S (fun y news' => J (i + 1) (ys ++ [y]) news')) E' { s with heap := h, toks := tk })
    (fin : ∀ ys news, J n ys news → Fin ys news) : ∀ (k i : Nat) (ys : List Value) (news : List (Addr × Obj)), k + i = n → J i ys news → LCg.CompRest prog w A h₀ L m env elt x scope cl s S P Fin k i ys news
  | 0, i, ys, news, e, j => by
    have : i = n := by lia
    subst this
    exact LCg.CompRest.zero (fin _ _ j)
  | k + 1, i, ys, news, e, j => by
    refine LCg.CompRest.succ fun v I oI C oC D m₂ h tk E' hP hC hx F N off ne => ?_
    refine wpAny_mono (step i ys news v I oI C oC D m₂ h tk E' (by lia) j hP hC hx F N off ne) (fun y s₂ q => ?_) fun _ _ q => q
    obtain ⟨h', tk', news', rfl, F', N', off', hS, r⟩ := q
    exact ⟨h', tk', news', rfl, F', N', off', hS, compRest_inv J step fin k (i + 1) _ _ (by lia) r⟩

theorem assign_comp_bytes {prog : Program} {w : World} {A : Around} {E : Value → Shared → Prop} {s : Shared} {h₀ : Heap} {L : Addr} {m : Str → Option Value} {env : Env} {elt iter : Expr} {x y : Str} {px py : Pos} {scope : Scope} {cl : List (Str × Addr)} {pos spos : Pos} {Q : Flow → Shared → Prop} (_F₀ : Fr h₀ L s.heap m) (hLe : env.locals = L)
    (hsw : swapsWith (.ListComp elt [⟨.Name x px, iter, [], 0⟩] scope pos) (some (.Name y py)) spos.line env = pure true)
    (hclos : closureFor scope env = pure cl) (hcell : ∀ z ∈ scope.names, z.2 ≠ .cell) (hkind : scope.kind = .function)
    (hnames : ∀ z ∈ scope.names, z.2 = .local → scope.names.lookup z.1 = some .local) (hx : scope.names.lookup x = some .local)
    (hy : env.kindOf y = some .local) (hp : (env.scope.kind == .class || (env.scope.kind == .module && env.locals != env.globals)) = false)
    (h : wpAny (model prog w) A (eval iter env) (fun xv s₁ => Stop (∃ b t news, xv = .bytes b t ∧ A.handled = none ∧ Fr h₀ L s₁.heap m ∧ News h₀ L s₁.heap news ∧ b.size ≤ sizeLine ∧
      ∀ s₂ : Shared, (∃ h, s₂ = { s₁ with heap := h }) → LCg.CompRest prog w A h₀ L m env elt x scope cl s₂ (fun _ => True) (fun i v => ∃ c u, b[i]? = some c ∧ v = .int (c.toNat : Int) u) (LCg.FinA h₀ L m s₂ y Q) b.size 0 [] news)) E s)
    (hs : ∀ x, foldedSetIterable iter env x = pure x := by intro _; rfl) :
    wpAny (model prog w) A (exec (.Assign [.Name y py] (.ListComp elt [⟨.Name x px, iter, [], 0⟩] scope pos) spos) env) Q E s := by
  subst hLe
  rw [exec_Assign_Name_used _ _ _ _ hsw]
  refine wpAny_bind (wpAny_standAt (wpAny_bind ?_))
  show wpAny _ A (do let _ ← comprehension (.ListComp elt [⟨.Name x px, iter, [], 0⟩] scope pos) scope env _ (newList []) false (eval iter env) (some (assign (.Name y py) env))) _ _ s
  refine wpAny_bind (wpAny_mono (wpAny_comprehension_free (use := some (assign (.Name y py) env)) (Q := fun _ s' => Q .next s') rfl hs hclos hkind hnames
    (wpAny_mono h (fun xv s₁ h₁ => ?_) fun _ _ e => e)) (fun _ s' hq => wpAny_pure (wpAny_pure hq)) fun _ _ e => e)
  obtain ⟨b, t, news, rfl, hh, F, N, hsz, R⟩ := h₁
  refine KBw.pyIter_bytes ?_
  have up : ∀ c o, s₁.heap.get? c = some o → (s₁.heap.push { cls := .type "bytes_iterator", data := .fields #[.bytes b t, .int 0 0] }).get? c = some o := fun b o e => Heap.get?_push_of_some _ e
  refine LCg.block_U (KBw.walks hh s₁.heap.objs.size b t) hsz (fun i h st => by obtain ⟨o, e, _⟩ := st; exact ⟨o, e⟩) (fun i h h' o nw st e e' _ _ _ => by obtain ⟨o', q, r⟩ := st; rw [e] at q; cases q; exact ⟨o, e', r⟩) hcell hkind hx ⟨_, Heap.get?_push_size _ rfl, rfl, rfl⟩ (fun c hb => ?_)
    (F.keeps up) (N.grown up) (Nat.ne_of_lt F.ns.lt) (next_is_new F) (fun p hp => Nat.ne_of_lt (Heap.lt_size (N p hp).1)) trivial (R _ ⟨_, rfl⟩) ?_
  · rw [List.mem_singleton.mp hb]
    show s₁.heap.objs.size < (s₁.heap.push _).objs.size
    rw [Heap.size_push]; exact Nat.lt_succ_self _
  · intro D C h' tk m' ys news' F' N' o1 hn hC₀ hD₀ hCL hDL hCD offC fin
    show wpAny _ A (assign (.Name y py) env (.ref D)) _ _ _
    refine wpAny_assign_Name (wpAny_storeName_local hy F'.ns (fun h₂ hn₂ hs₂ => ?_) hp)
    have hL₀ : h₀.get? env.locals = none := Heap.get?_none_of_le F'.above
    have F₂ : Fr h₀ env.locals h₂ (fun z => if z = y then some (.ref D) else m z) := ⟨hn₂, fun b o e => hs₂.extBut b o (fun q => by rw [q, hL₀] at e; cases e) (F'.keep b o e), F'.above⟩
    refine ⟨m', hn.sameBut hs₂ hCL, fun h'' hs'' => fin D h'' _ (F₂.change hs'' hCL hC₀) (fun p hp => ?_) o1⟩
    have z : h₂.get? p.1 = some p.2 := hs₂.extBut _ _ (N' p hp).2.1 (N' p hp).1
    refine ⟨hs''.extBut _ _ ?_ z, (N' p hp).2⟩
    rcases List.mem_cons.mp hp with rfl | hp
    · exact Ne.symm hCD
    · exact offC p hp
theorem get_map {prog : Program} {w : World} {A : Around} {E : Value → Shared → Prop} {s : Shared} {P : Addr} {f : Int → Option Value} {k : Int} {t : Tok} {dflt : Value} {Q : Value → Shared → Prop} (hm : s.heap.MapOf (intKind prog w) P f) (hd : (P == sysModules) = false)
    (h : Q ((f k).getD dflt) { s with toks := s.toks + 1 }) : wpAny (model prog w) A (call (.builtin "dict.get") [.ref P, .int k t, dflt]) Q E s :=
  call_meetsIn PySem.F.slot_dict_get (by obtain ⟨o, _, _, e, hc, _⟩ := hm; exact ⟨o, e, hc.1⟩) PySem.F.entry_dict_get (PySem.F.args_dict_get_3 _ _ _) (meets_dict_get_default (intKind prog w) P (intKind_is prog w k t) hd dflt) ⟨f, hm, h⟩
theorem mapOf_keeps {prog : Program} {w : World} {h h' : Heap} {P : Addr} {f : Int → Option Value} (hm : h.MapOf (intKind prog w) P f) (k : Keeps h h') : h'.MapOf (intKind prog w) P f :=
  let ⟨o, es, ep, e, r⟩ := hm; ⟨o, es, ep, k _ _ e, r⟩
theorem getMethod_map {prog : Program} {w : World} {A : Around} {E : Value → Shared → Prop} {s : Shared} {P : Addr} {f : Int → Option Value} {pl : Sem Bool} {Q : Value × List Value → Shared → Prop} (hm : s.heap.MapOf (intKind prog w) P f)
    (h : Q (.builtin "dict.get", [.ref P]) s) : wpAny (model prog w) A (getMethod (.ref P) (Str.ofString "get") pl) Q E s :=
  getMethod_builtin (by obtain ⟨o, _, _, e, hc, _⟩ := hm; exact ⟨o, e, hc.1⟩) PySem.F.plainAttrs_dict PySem.F.slot_dict_get PySem.F.type_dict_get hm.noDict h
end Mine
namespace Mine
open PySem PySem.W PySem.W.X PyProof.Rows PySem.Calls
set_option maxRecDepth 100000
set_option maxHeartbeats 400000
abbrev KeepsBut (L : Addr) (h h' : Heap) : Prop := ∀ b o, b ≠ L → h.get? b = some o → h'.get? b = some o
inductive CE (s₁ : Shared) (h : Heap) (J' : Value → List (Addr × Obj) → Prop) (y : Value) (s' : Shared) : Prop
  | mk (h' : Heap) (tk' : Nat) (new : List (Addr × Obj)) (e : s' = { s₁ with heap := h', toks := tk' }) (k : Keeps h h') (n : ∀ p ∈ new, h.get? p.1 = none ∧ h'.get? p.1 = some p.2) (j : J' y new)
def allNews (h₀ : Heap) (L : Addr) (h : Heap) : List (Addr × Obj) := (List.range h.objs.size).filterMap fun b => if b = L then none else match h₀.get? b with | some _ => none | none => (h.get? b).map fun o => (b, o)
theorem all_news {h₀ h : Heap} {L : Addr} : News h₀ L h (allNews h₀ L h) := by
  intro p hp
  obtain ⟨b, _, e⟩ := List.mem_filterMap.mp hp
  split at e
  · cases e
  · rename_i n
    split at e
    · cases e
    · rename_i q
      cases z : h.get? b with
      | none => rw [z] at e; cases e
      | some o => rw [z] at e; cases e; exact ⟨z, n, q⟩
theorem all_mem {h₀ h : Heap} {L b : Addr} {o : Obj} (e : h.get? b = some o) (n : b ≠ L) (q : h₀.get? b = none) : (b, o) ∈ allNews h₀ L h := by
  refine List.mem_filterMap.mpr ⟨b, List.mem_range.mpr (Heap.lt_size e), ?_⟩
  rw [if_neg n, q, e]; rfl
theorem all_keeps {h₀ h h' : Heap} {L : Addr} {news : List (Addr × Obj)} (k : Keeps h₀ h') (N : ∀ p ∈ news, h'.get? p.1 = some p.2) (sub : ∀ p ∈ allNews h₀ L h, p ∈ news) (k0 : Keeps h₀ h) : KeepsBut L h h' := fun b o n e => by
  cases q : h₀.get? b with
  | none => exact N _ (sub _ (all_mem e n q))
  | some o' =>
    have := k0 _ _ q
    rw [e] at this; cases this
    exact k _ _ q
section
variable {prog : Program} {w : World} {A : Around} {E : Value → Shared → Prop} {s : Shared} {h₀ : Heap} {L : Addr} {m : Str → Option Value} {env : Env} {elt iter : Expr} {x y : Str} {px py : Pos} {scope : Scope} {cl : List (Str × Addr)} {pos spos : Pos}
inductive Obl (prog : Program) (w : World) (A : Around) (L : Addr) (m : Str → Option Value) (env : Env) (elt : Expr) (x : Str) (scope : Scope) (cl : List (Str × Addr)) (s₁ : Shared) (P : Nat → Value → Prop) (n : Nat) (Fin : List Value → List (Addr × Obj) → Prop) : Prop
  | mk (J : Nat → List Value → List (Addr × Obj) → Prop) (h0 : J 0 [] [])
    (step : ∀ i ys new v C m₂ h tk (E' : Value → Shared → Prop), i < n → J i ys new → P i v → h.Ns C m₂ → m₂ x = some v → KeepsBut L s₁.heap h → h.Ns L m → (∀ p ∈ new, h.get? p.1 = some p.2 ∧ s₁.heap.get? p.1 = none) →
      wpAny (model prog w) A (eval elt (compEnvC scope cl C env)) (CE s₁ h fun y nw => J (i + 1) (ys ++ [y]) (nw ++ new)) E' { s₁ with heap := h, toks := tk })
    (fin : ∀ ys new, J n ys new → Fin ys new)
theorem comp_core {s₁ s₂ : Shared} {S : List (Addr × Obj) → Prop} {P : Nat → Value → Prop} {Fin Fin2 : List Value → List (Addr × Obj) → Prop} {n : Nat} (hS : ∀ nw, (∀ p ∈ allNews h₀ L s₁.heap, p ∈ nw) → S nw) (F₁ : Fr h₀ L s₁.heap m) (hs : ∃ g, s₂ = { s₁ with heap := g })
    (ob : Obl prog w A L m env elt x scope cl s₁ P n Fin2) (fin : ∀ ys new, Fin2 ys new → (∀ p ∈ new, s₁.heap.get? p.1 = none) → Fin ys (new ++ allNews h₀ L s₁.heap)) :
    LCg.CompRest prog w A h₀ L m env elt x scope cl s₂ S P Fin n 0 [] (allNews h₀ L s₁.heap) := by
  obtain ⟨g, rfl⟩ := hs
  obtain ⟨J, h0, step, hfin⟩ := ob
  refine compRest_inv (n := n) (fun i ys news => ∃ new, news = new ++ allNews h₀ L s₁.heap ∧ (∀ p ∈ new, s₁.heap.get? p.1 = none) ∧ J i ys new) ?_ ?_ n 0 [] _ rfl ⟨[], rfl, (fun _ h => nomatch h), h0⟩
  · rintro i ys news v I oI C oC D m₂ h tk E' hi ⟨new, rfl, hnn, hJ⟩ hP hC hx F N off ne
    have nC := N _ (.tail _ (.head _))
    have nI := N _ (.head _)
    have nD := N _ (.tail _ (.tail _ (.head _)))
    have NN : ∀ p ∈ new ++ allNews h₀ L s₁.heap, h.get? p.1 = some p.2 := fun p hp => (N p (.tail _ (.tail _ (.tail _ hp)))).1
    have kb : KeepsBut L s₁.heap h := all_keeps F.keep NN (fun p hp => List.mem_append_right _ hp) F₁.keep
    refine wpAny_mono (step i ys new v C m₂ h tk E' hi hJ hP (hC.ns nC.1) hx kb F.ns fun p hp => ⟨NN p (List.mem_append_left _ hp), hnn p hp⟩) (fun y s' q => ?_) fun _ _ e => e
    obtain ⟨h', tk', nw, rfl, k, hn, hJ'⟩ := q
    have fresh : ∀ p ∈ nw, ∀ b o, h.get? b = some o → p.1 ≠ b := fun p hp b o e q => by rw [← q, (hn p hp).1] at e; cases e
    obtain ⟨oL, _, _, eL, _⟩ := F.ns
    refine ⟨h', tk', nw ++ (new ++ allNews h₀ L s₁.heap), rfl, fr_keeps F k, fun p hp => ?_, LCg.Off3.of fun p hp => ?_, hS _ (fun p hp => List.mem_append_right _ (List.mem_append_right _ hp)), nw ++ new, (List.append_assoc ..).symm, fun p hp => ?_, hJ'⟩
    · rcases List.mem_cons.mp hp with rfl | hp
      · exact ⟨k _ _ nI.1, nI.2⟩
      rcases List.mem_cons.mp hp with rfl | hp
      · exact ⟨k _ _ nC.1, nC.2⟩
      rcases List.mem_cons.mp hp with rfl | hp
      · exact ⟨k _ _ nD.1, nD.2⟩
      rcases List.mem_append.mp hp with hp | hp
      · refine ⟨(hn p hp).2, fresh p hp _ _ eL, ?_⟩
        cases q : h₀.get? p.1 with
        | none => rfl
        | some o => have := F.keep _ _ q; rw [(hn p hp).1] at this; cases this
      · have z := N p (.tail _ (.tail _ (.tail _ hp)))
        exact ⟨k _ _ z.1, z.2⟩
    · rcases List.mem_append.mp hp with hp | hp
      · exact ⟨fresh p hp _ _ nI.1, fresh p hp _ _ nC.1, fresh p hp _ _ nD.1⟩
      · exact off.mem p hp
    · rcases List.mem_append.mp hp with hp | hp
      · cases q : s₁.heap.get? p.1 with
        | none => rfl
        | some o => have := kb _ _ (fresh p hp _ _ eL) q; rw [(hn p hp).1] at this; cases this
      · exact hnn p hp
  · rintro ys news ⟨new, rfl, hnn, hJ⟩
    exact fin ys new (hfin ys new hJ) hnn
theorem off1_mem {D : Addr} : ∀ {l : List (Addr × Obj)}, LCg.Off1 D l → ∀ p ∈ l, p.1 ≠ D
  | [], _, _, h => nomatch h
  | _ :: _, x, p, h => by
    rcases List.mem_cons.mp h with rfl | h
    · exact x.1
    · exact off1_mem x.2 p h
def EndE (L : Addr) (s₁ : Shared) (Pm : Addr → (Str → Option Value)) (h₀ : Heap) (Q : Value → Shared → Prop) (ys : List Value) (new : List (Addr × Obj)) : Prop :=
  ∀ D h' tk, KeepsBut L s₁.heap h' → Fr h₀ L h' (Pm D) → s₁.heap.get? D = none → h'.get? D = some (LCg.lst ys) → (∀ p ∈ new, h'.get? p.1 = some p.2 ∧ s₁.heap.get? p.1 = none) → Q (.ref D) { s₁ with heap := h', toks := tk }
theorem end_fin {s₁ s₂ : Shared} {Pm : Addr → (Str → Option Value)} {Q : Value → Shared → Prop} {ys : List Value} {new : List (Addr × Obj)} (F₁ : Fr h₀ L s₁.heap m) (hs : ∃ g, s₂ = { s₁ with heap := g }) (e : EndE L s₁ Pm h₀ Q ys new) (hnn : ∀ p ∈ new, s₁.heap.get? p.1 = none) :
    ∀ D h tk, Fr h₀ L h (Pm D) → News h₀ L h ((D, LCg.lst ys) :: (new ++ allNews h₀ L s₁.heap)) → LCg.Off1 D (new ++ allNews h₀ L s₁.heap) → Q (.ref D) { s₂ with heap := h, toks := tk } := by
  obtain ⟨g, rfl⟩ := hs
  intro D h tk F N off
  have nD := N _ (.head _)
  have NN : ∀ p ∈ new ++ allNews h₀ L s₁.heap, h.get? p.1 = some p.2 := fun p hp => (N p (.tail _ hp)).1
  refine e D h tk (all_keeps F.keep NN (fun p hp => List.mem_append_right _ hp) F₁.keep) F ?_ nD.1 fun p hp => ⟨NN p (List.mem_append_left _ hp), hnn p hp⟩
  cases q : s₁.heap.get? D with
  | none => rfl
  | some o => exact absurd rfl (off1_mem off _ (List.mem_append_right _ (all_mem q nD.2.1 nD.2.2)))
theorem src_at {s₁ : Shared} {ax : Addr} {its : Array Value} (F₁ : Fr h₀ L s₁.heap m) (hl : s₁.heap.IsList ax its) : ∀ nw, (∀ p ∈ allNews h₀ L s₁.heap, p ∈ nw) → LCg.SrcAt h₀ ax its nw := by
  intro nw sub
  obtain ⟨o, e, hc, n, hd⟩ := hl
  cases q : h₀.get? ax with
  | some o' => have := F₁.keep _ _ q; rw [e] at this; cases this; exact .inl ⟨o, q, hc, n, hd⟩
  | none =>
    refine .inr ⟨o, sub _ (all_mem e ?_ q), hc, n, hd⟩
    rintro rfl
    obtain ⟨oL, _, _, eL, dL, _⟩ := F₁.ns
    rw [e] at eL; cases eL; rw [hd] at dL; cases dL
inductive SrcLs (prog : Program) (w : World) (A : Around) (h₀ : Heap) (L : Addr) (m : Str → Option Value) (env : Env) (elt : Expr) (x : Str) (scope : Scope) (cl : List (Str × Addr)) (Fin : Shared → List Value → List (Addr × Obj) → Prop) (xv : Value) (s₁ : Shared) : Prop
  | mk (ax : Addr) (its : Array Value) (e : xv = .ref ax) (F : Fr h₀ L s₁.heap m) (hl : s₁.heap.IsList ax its) (hz : its.size ≤ sizeLine) (ob : Obl prog w A L m env elt x scope cl s₁ (fun i v => its[i]? = some v) its.size (Fin s₁))
inductive SrcRg (prog : Program) (w : World) (A : Around) (h₀ : Heap) (L : Addr) (m : Str → Option Value) (env : Env) (elt : Expr) (x : Str) (scope : Scope) (cl : List (Str × Addr)) (Fin : Shared → List Value → List (Addr × Obj) → Prop) (xv : Value) (s₁ : Shared) : Prop
  | mk (r : Addr) (n : Nat) (t u v : Tok) (e : xv = .ref r) (F : Fr h₀ L s₁.heap m) (hr : IsRange s₁.heap r 0 ((n : Nat) : Int) 1 t u v) (hsm : Builtin.Range.small 0 (n : Int) 1 = true) (hn : Builtin.Range.rangeSize 0 (n : Int) 1 = (n : Int)) (hz : n ≤ sizeLine) (ob : Obl prog w A L m env elt x scope cl s₁ (fun i v => ∃ t, v = .int (i : Int) t) n (Fin s₁))
theorem src_comp {xv : Value} {s₁ : Shared} {Fin Fin2 : Shared → List Value → List (Addr × Obj) → Prop} (hh : A.handled = none) (h : SrcLs prog w A h₀ L m env elt x scope cl Fin2 xv s₁ ∨ SrcRg prog w A h₀ L m env elt x scope cl Fin2 xv s₁)
    (fin : ∀ s₂ ys new, Fr h₀ L s₁.heap m → (∃ g, s₂ = { s₁ with heap := g }) → Fin2 s₁ ys new → (∀ p ∈ new, s₁.heap.get? p.1 = none) → Fin s₂ ys (new ++ allNews h₀ L s₁.heap)) : LCg.CompSrc prog w A h₀ L m env elt x scope cl Fin xv s₁ := by
  rcases h with ⟨ax, its, rfl, F, hl, hz, ob⟩ | ⟨r, n, t, u, v, rfl, F, hr, hsm, hn, hz, ob⟩
  · exact .inl ⟨ax, its, _, rfl, hh, F, all_news, src_at F hl _ fun _ h => h, hz, fun s₂ hs => comp_core (src_at F hl) F hs ob fun ys new e hn => fin s₂ ys new F hs e hn⟩
  · refine .inr ⟨r, 0, n, t, u, v, n, _, rfl, hh, F, all_news, hr, hsm, hn, hz, fun s₂ hs => comp_core (fun _ _ => trivial) F hs ?_ fun ys new e hn => fin s₂ ys new F hs e hn⟩
    have e : (fun (i : Nat) (v : Value) => ∃ t, v = Value.int (0 + (i : Int)) t) = fun i v => ∃ t, v = .int (i : Int) t := by
      funext i v; rw [Int.zero_add]
    rw [e]; exact ob
theorem compE {Q : Value → Shared → Prop} (hh : A.handled = none) (F₀ : Fr h₀ L s.heap m) (hclos : closureFor scope env = pure cl) (hcell : ∀ y ∈ scope.names, y.2 ≠ .cell) (hkind : scope.kind = .function)
    (hnames : ∀ y ∈ scope.names, y.2 = .local → scope.names.lookup y.1 = some .local) (hx : scope.names.lookup x = some .local)
    (h : wpAny (model prog w) A (eval iter env) (fun xv s₁ => SrcLs prog w A h₀ L m env elt x scope cl (fun s₁ => EndE L s₁ (fun _ => m) h₀ Q) xv s₁ ∨ SrcRg prog w A h₀ L m env elt x scope cl (fun s₁ => EndE L s₁ (fun _ => m) h₀ Q) xv s₁) E s)
    (hs : ∀ x, foldedSetIterable iter env x = pure x := by intro _; rfl) :
    wpAny (model prog w) A (eval (.ListComp elt [⟨.Name x px, iter, [], 0⟩] scope pos) env) Q E s :=
  LCg.ListComp_U F₀ hclos hcell hkind hnames hx (wpAny_mono h (fun xv s₁ h₁ => src_comp hh h₁ fun s₂ ys new F₁ hs e hn => end_fin F₁ hs e hn) fun _ _ e => e) hs
theorem compA {Q : Flow → Shared → Prop} (hh : A.handled = none) (F₀ : Fr h₀ L s.heap m) (hLe : env.locals = L)
    (hsw : swapsWith (.ListComp elt [⟨.Name x px, iter, [], 0⟩] scope pos) (some (.Name y py)) spos.line env = pure true) (hclos : closureFor scope env = pure cl) (hcell : ∀ y ∈ scope.names, y.2 ≠ .cell) (hkind : scope.kind = .function)
    (hnames : ∀ y ∈ scope.names, y.2 = .local → scope.names.lookup y.1 = some .local) (hx : scope.names.lookup x = some .local)
    (hy : env.kindOf y = some .local) (hp : (env.scope.kind == .class || (env.scope.kind == .module && env.locals != env.globals)) = false)
    (h : wpAny (model prog w) A (eval iter env) (fun xv s₁ => SrcLs prog w A h₀ L m env elt x scope cl (fun s₁ => EndE L s₁ (fun D z => if z = y then some (.ref D) else m z) h₀ fun _ => Q .next) xv s₁ ∨ SrcRg prog w A h₀ L m env elt x scope cl (fun s₁ => EndE L s₁ (fun D z => if z = y then some (.ref D) else m z) h₀ fun _ => Q .next) xv s₁) E s)
    (hs : ∀ x, foldedSetIterable iter env x = pure x := by intro _; rfl) :
    wpAny (model prog w) A (exec (.Assign [.Name y py] (.ListComp elt [⟨.Name x px, iter, [], 0⟩] scope pos) spos) env) Q E s :=
  LCg.Assign_ListComp_U F₀ hLe hsw hclos hcell hkind hnames hx hy hp (wpAny_mono h (fun xv s₁ h₁ => src_comp hh h₁ fun s₂ ys new F₁ hs e hn => end_fin F₁ hs e hn) fun _ _ e => e) hs
end
end Mine
namespace Mine
open PySem PySem.W PySem.W.X PyProof.Rows PySem.Calls
set_option maxRecDepth 100000
set_option maxHeartbeats 400000
def Off (hid : List Addr) (h h' : Heap) : Prop := ∀ b o, b ∉ hid → h.get? b = some o → h'.get? b = some o
theorem Off.keeps {hid : List Addr} {h h' : Heap} (k : Keeps h h') : Off hid h h' := fun b o _ e => k b o e
theorem Off.but {hid : List Addr} {L : Addr} {h h' : Heap} (k : KeepsBut L h h') (m : L ∈ hid) : Off hid h h' := fun b o n e => k b o (fun q => n (q ▸ m)) e
theorem Off.ext {hid : List Addr} {L : Addr} {h h' : Heap} (k : Heap.ExtBut L h h') (m : L ∈ hid) : Off hid h h' := fun b o n e => k b o (fun q => n (q ▸ m)) e
theorem Off.same {hid : List Addr} {L : Addr} {h h' : Heap} (k : Heap.SameBut L h h') (m : L ∈ hid) : Off hid h h' := Off.ext k.extBut m
theorem Off.trans {hid : List Addr} {h h' h2 : Heap} (x : Off hid h h') (y : Off hid h' h2) : Off hid h h2 := fun b o n e => y b o n (x b o n e)
structure Bs (hid : List Addr) (hb h : Heap) : Prop where
  k : Keeps hb h
  n : ∀ a ∈ hid, hb.get? a = none
theorem Bs.step {hid : List Addr} {hb h h' : Heap} (B : Bs hid hb h) (o : Off hid h h') : Bs hid hb h' := ⟨fun b x e => o b x (fun q => by rw [B.n b q] at e; cases e) (B.k b x e), B.n⟩
theorem Bs.anew (hid : List Addr) (h : Heap) : Bs hid (hideAll h hid) h := ⟨fun _ _ e => of_hideAll _ e, fun _ ha => hideAll_none _ ha⟩
theorem Bs.up {hid hid' : List Addr} {hb h : Heap} (B : Bs hid hb h) (hs : ∀ a ∈ hid', a ∈ hid) : Keeps hb (hideAll h hid') := fun b o e => hideAll_get _ (B.k b o e) (fun q => by rw [B.n b (hs _ q)] at e; cases e)
def NoSeq (hid : List Addr) (h : Heap) : Prop := ∀ a ∈ hid, ∀ o, h.get? a = some o → ∀ its n, o.data ≠ .seq its n
theorem noSeq_cons {a : Addr} {hid : List Addr} {h : Heap} (x : ∀ o, h.get? a = some o → ∀ its n, o.data ≠ .seq its n) (y : NoSeq hid h) : NoSeq (a :: hid) h := fun b hb => by
  rcases List.mem_cons.mp hb with rfl | q
  · exact x
  · exact y b q
theorem noSeq_nil {h : Heap} : NoSeq [] h := fun _ h => nomatch h
theorem noSeq_ns {a : Addr} {h : Heap} {m : Str → Option Value} (x : h.Ns a m) : ∀ o, h.get? a = some o → ∀ its n, o.data ≠ .seq its n := by
  obtain ⟨o, es, ep, e, hd, _⟩ := x
  intro o' e' its n q
  rw [e] at e'; cases e'; rw [hd] at q; cases q
theorem noSeq_tab {a : Addr} {h : Heap} {ps : Array Value} (x : h.get? a = some (tabObj ps)) : ∀ o, h.get? a = some o → ∀ its n, o.data ≠ .seq its n := by
  intro o' e' its n q
  rw [x] at e'; cases e'; cases q
theorem noSeq_cell {a : Addr} {h : Heap} {v : Option Value} (x : h.IsCell a v) : ∀ o, h.get? a = some o → ∀ its n, o.data ≠ .seq its n := by
  obtain ⟨o, e, hd⟩ := x
  intro o' e' its n q
  rw [e] at e'; cases e'; rw [hd] at q; cases q
theorem isList_hide {h : Heap} {hid : List Addr} {a : Addr} {its : Array Value} (x : h.IsList a its) (n : NoSeq hid h) : (hideAll h hid).IsList a its := by
  obtain ⟨o, e, hc, k, hd⟩ := x
  exact ⟨o, hideAll_get _ e (fun q => n a q o e its k hd), hc, k, hd⟩
theorem Th.hide {h : Heap} {hid : List Addr} {b N S : Nat} {rest : List Value} {v : Value} (x : Th h b N S rest v) (n : NoSeq hid h) : Th (hideAll h hid) b N S rest v :=
  let ⟨a, r, us, c, t, e, i1, i2, q⟩ := x; ⟨a, r, us, c, t, e, isList_hide i1 n, isList_hide i2 n, q⟩
theorem Ths.hide {h : Heap} {hid : List Addr} {b : Nat} {vs : List Value} {ns : List (Nat × Nat)} (x : Ths h b vs ns) (n : NoSeq hid h) : Ths (hideAll h hid) b vs ns := ⟨x.1, fun i v p a c => let ⟨r, q⟩ := x.2 i v p a c; ⟨r, q.hide n⟩⟩
theorem isCell_hide {h : Heap} {hid : List Addr} {a : Addr} {v : Option Value} (x : h.IsCell a v) (n : a ∉ hid) : (hideAll h hid).IsCell a v := by
  obtain ⟨o, e, hd⟩ := x
  exact ⟨o, hideAll_get _ e n, hd⟩
theorem Okk.but {w : World} {mg mb : Str → Option Value} {h h' : Heap} {hid : List Addr} (O : Okk w mg mb h) (hP : ∀ a ∈ hid, ∀ o, h.get? a = some o → o.cls = .none ∧ ∃ ps, o.data = .fields ps) (k : Off hid h h') : Okk w mg mb h' := by
  have hnt : noTabs (hh.heap_1 w.params) = true := by kernel_rfl
  have ns : ∀ {a : Addr} {m : Str → Option Value}, h.Ns a m → h'.Ns a m := fun {a m} x => by
    obtain ⟨o, es, ep, e, hd, r⟩ := x
    refine ⟨o, es, ep, k _ _ (fun q => ?_) e, hd, r⟩
    obtain ⟨_, ps, z⟩ := hP a q o e
    rw [hd] at z; cases z
  refine ⟨fun a o l => k _ _ (fun q => ?_) (O.X a o l), ⟨ns O.T.g, ns O.T.b, let ⟨mc, a, r⟩ := O.T.nolimit; ⟨mc, ns a, r⟩, O.T.builtins, O.T.free⟩⟩
  obtain ⟨c, ps, z⟩ := hP a q o (O.X a o l)
  have h2 := List.all_eq_true.mp hnt (a, o) (mem_of_lookupK l)
  obtain ⟨cls, d, data, sl⟩ := o
  dsimp only at c z
  subst c z
  exact absurd (show false = true from h2) Bool.false_ne_true
section
variable {prog : Program} {w : World} {A : Around} {E : Value → Shared → Prop} {s : Shared} {env : Env} {h₀ : Heap} {L : Addr} {m : Str → Option Value}
theorem sumE {l : Addr} {vs : List Value} {ns : List Int} {Q : Value → Shared → Prop} (F : Fr h₀ L s.heap m) (hh : A.handled = none) (hl : s.heap.IsList l vs.toArray) (hi : IntsAre vs ns)
    (h : ∀ h' tk t', Fr h₀ L h' m → KeepsBut L s.heap h' → Q (.int ns.sum t') { s with heap := h', toks := tk }) : wpAny (model prog w) A (call (.builtin "sum") [.ref l]) Q E s := by
  refine LSm.sum_ints F all_news hh hl hi fun h' tk t' F' N' => h h' tk t' F' ?_
  exact all_keeps F'.keep (fun p hp => (N' p hp).1) (fun _ h => h) F.keep
theorem listE {elts : List Expr} {pos : Pos} {Q : Value → Shared → Prop}
    (h : wpAny (model prog w) A (spliced (backTo pos (starEach elts env))) (fun vs s₁ => vs.length ≤ sizeLine ∧ ∀ D h', Keeps s₁.heap h' → s₁.heap.get? D = none → h'.get? D = some { cls := .type "list", data := .seq vs.toArray } → Q (.ref D) { s₁ with heap := h' }) E s) :
    wpAny (model prog w) A (eval (.List elts pos) env) Q E s :=
  wpAny_List_spliced (wpAny_mono h (fun vs s₁ h₁ => ⟨h₁.1, h₁.2 _ _ (fun b o e => Heap.get?_push_of_some _ e) (Heap.get?_none_of_le (Nat.le_refl _)) (Heap.get?_push_size _ rfl)⟩) fun _ _ e => e)
theorem sliceRev {value st : Expr} {p pos : Pos} {vs : List Value} {Q : Value → Shared → Prop}
    (h : wpAny (model prog w) A (eval value env) (fun o s₁ => wpAny (model prog w) A (eval st env) (fun vk s₃ =>
      ∃ l t, o = .ref l ∧ s₃.heap.IsList l vs.toArray ∧ vs.length ≤ sizeLine ∧ vk = .int (-1) t ∧
        ∀ D h', Keeps s₃.heap h' → s₃.heap.get? D = none → h'.get? D = some { cls := .type "list", data := .seq vs.reverse.toArray } → Q (.ref D) { s₃ with heap := h' }) E s₁) E s)
    (ht : ∀ o r, letTemporaryGo value o r = pure () := by intro _ _; rfl) :
    wpAny (model prog w) A (eval (.Subscript value (.Slice none none (some st) p) pos) env) Q E s := by
  refine wpAny_Subscript_Slice_step (T := "list") list_getitem_lookup (wpAny_mono h (fun o s₁ h₁ => wpAny_Slice ?_) fun _ _ e => e) ht
  rw [evalPart_none]
  refine wpAny_pure (wpAny_pure (evalPart_some_step (wpAny_mono h₁ (fun vk s₃ h₃ => ?_) fun _ _ e => e)))
  obtain ⟨l, t, rfl, hl, hsz, rfl, hQ⟩ := h₃
  refine ⟨(hl.push _).typeIs, wpAny_getItem_list_slice (hl.push _) (Heap.IsSliceOf.new ..) .none .none (.int (-1) t) (by decide) ?_ (by rw [List.size_toArray]; exact hsz)⟩
  rw [krv_pick]
  exact hQ _ _ (push2 _ _) (Heap.get?_none_of_le (by rw [Heap.size_push]; exact Nat.le_succ _)) (Heap.get?_push_size _ rfl)
theorem itemNeg {value slice : Expr} {l : Addr} {items : Array Value} {k : Int} {u : Tok} {x : Value} {Q : Value → Shared → Prop} (hl : s.heap.IsList l items)
    (h0 : k < 0) (h1 : -(items.size : Int) ≤ k) (hfit : -(2 ^ 63) ≤ k) (hx : items[(k + items.size).toNat]? = some x) (h : Q x s)
    (hs : subscripted slice false (.ref l) (.int k u) = operate [.ref l, .int k u] (getItem (.ref l) (.int k u)) := by with_unfolding_all rfl) :
    wpAny (model prog w) A (subscriptTail value slice (.ref l) (.int k u)) Q E s :=
  tail_any hl.typeIs slot_list_getitem.lookup (wpAny_getItem_list_neg hl h0 h1 hfit hx h) hs
theorem mulE {l : Addr} {items : Array Value} {k : Nat} {x : Int} {u : Tok} {Q : Value → Shared → Prop} (F : Fr h₀ L s.heap m)
    (hl : s.heap.get? l = some { cls := .type "list", dict := none, data := .seq items k, slots := #[] }) (hlo : -(2 ^ 63 : Int) ≤ x) (hhi : x < 2 ^ 63) (hsz : items.size * x.toNat ≤ 2 ^ 24)
    (h : ∀ D h', Fr h₀ L h' m → KeepsBut L s.heap h' → s.heap.get? D = none → h'.get? D = some { cls := .type "list", data := .seq (List.foldl (fun x1 x2 => x1 ++ x2) #[] (List.replicate (if items.isEmpty = true then 0 else x.toNat) items)) } → Q (.ref D) { s with heap := h' }) :
    wpAny (model prog w) A (binaryOp .Mult (.ref l) (.int x u)) Q E s :=
  mul_list F all_news hl hlo hhi hsz fun h' F' N' => h _ h' F' (all_keeps F'.keep (fun p hp => (N' p (.tail _ hp)).1) (fun _ h => h) F.keep) (Heap.get?_none_of_le (Nat.le_refl _)) (N' _ (.head _)).1
theorem CallKw_ {func : Expr} {args : List Expr} {kws : List Keyword} {pos : Pos} {Q : Value → Shared → Prop}
    (h : wpAny (model prog w) A (eval func env) (fun f s₁ => wpAny (model prog w) A (callWith pos f [] (backTo pos (starEach args env)) (backToKw pos (keywordEach kws env))) Q E s₁) E s)
    (he : eval (.Call func args kws pos) env = (do callWith pos (← eval func env) [] (backTo pos (starEach args env)) (backToKw pos (keywordEach kws env))) := by rfl) :
    wpAny (model prog w) A (eval (.Call func args kws pos) env) Q E s := by
  rw [he]; exact wpAny_bind h
end
end Mine
namespace Mine
open PySem PySem.W PySem.W.X PyProof.Rows PySem.Calls
set_option maxRecDepth 100000
set_option maxHeartbeats 400000
def qLam : Str := Str.ofString "_law_as_often" ++ Str.ofString ".<locals>." ++ Str.ofString "<lambda>"
def fnPart (i : Nat) : List Stmt × Scope := match (PySem.Challenge.rw_oh0008_01.row.prog.main.body[i]? : Option Stmt) with
  | some (.FunctionDef _ _ B _ _ _ S _ _ _) => (B, S)
  | _ => ([], default)
def oB : List Stmt := (fnPart 23).1
def oS : Scope := (fnPart 23).2
def oX (i : Nat) : Stmt := oB.getD i (.Pass ⟨0, 0, 0, 0⟩)
abbrev oE (L f : Addr) (cd : Value) : Env := envOfC (Str.ofString "_law_as_often") oS L f cd
abbrev oA (dp un : Nat) (fr : Option (List Env)) (gd : Option (List Code)) : Around := { handled := none, depth := dp, frames := fr, guards := gd, units := un }
theorem nin2 {a x y : Nat} (h1 : x < a) (h2 : y < a) : a ∉ [x, y] := by
  intro q
  simp only [List.mem_cons, List.not_mem_nil, or_false] at q
  lia
section
variable {w : World} {mg mb : Str → Option Value} {s : Shared} {dp un : Nat} {fr : Option (List Env)} {gd : Option (List Code)} {Q : Flow → Shared → Prop} {E : Value → Shared → Prop} {L f : Addr} {cd : Value} {hb hb₁ : Heap} {m : Str → Option Value}
theorem oft1 {ln lr : Addr} {nv rv : List Value} {n : Nat} (F : Fr hb L s.heap m) (B : Bs [L, 123] hb₁ s.heap) (O : Okk w mg mb hb₁) (cR : hb₁.IsCell (L + 1 + 1) (some (.ref lr))) (mn : m (Str.ofString "numbers") = some (.ref ln))
    (hn : hb₁.IsList ln nv.toArray) (hnl : nv.length = n) (n2 : 1 ≤ n) (n60 : n < 60) (hr : hb₁.IsList lr rv.toArray) (hrr : ∀ i, i < n → ∃ r, rv[i]? = some (Value.ref r))
    (hQ : ∀ D h' tk ys, Fr hb L h' (fun z => if z = Str.ofString "things" then some (.ref D) else m z) → KeepsBut L s.heap h' → h'.IsList D (List.toArray ys) → ys.length = n →
      (∀ (j : Nat) v, ys[j]? = some v → ∃ a r t1 t2, v = .ref a ∧ rv[j]? = some (.ref r) ∧ h'.IsList a [Value.ref r, .int 0 t1, .int (j : Int) t2].toArray) → Q .next { s with heap := h', toks := tk }) :
    wpAny (model pr w) (oA dp un fr gd) (exec (oX 0) (oE L f cd)) Q E s := by
  have inL : L ∈ [L, 123] := .head _
  refine compA rfl F rfl rfl rfl (by decide) rfl (by decide) rfl rfl rfl ?_
  have Oh : Okk w mg mb s.heap := O.keeps B.k
  refine Call_ (nmB Oh bb_range (nn_range _) rfl rfl rfl rfl ?_)
  refine PyProof.Rows.callWith_type1 (args_cons (Call_ (nmB Oh bb_len (nn_len _) rfl rfl rfl rfl ?_)))
  refine callWith_builtin1 (args_cons (nmL F (v := .ref ln) mn (args_nil ?_)))
  refine lenE (isList_keeps hn B.k) hnl (by lia) (args_nil ?_)
  refine call_range_1 ?_
  have szr : Builtin.Range.rangeSize 0 (n : Int) 1 = (n : Int) := by rw [rangeSize_one]; split <;> lia
  refine .inr ⟨_, n, _, _, _, rfl, F.push _, IsRange.new .., ?small, szr, by rw [sizeLine_eq]; lia, ?_⟩
  case small => exact small_one (by decide) (by decide) (by lia) (by lia)
  dsimp only
  generalize hg : s.heap.push _ = h0
  have B0 : Bs [L, 123] hb₁ h0 := B.step (Off.keeps fun _ _ e => hg ▸ Heap.get?_push_of_some _ e)
  have k0 : Keeps s.heap h0 := fun _ _ e => hg ▸ Heap.get?_push_of_some _ e
  refine ⟨fun i ys new => ys.length = i ∧ ∀ (j : Nat) v, ys[j]? = some v → ∃ a r t1 t2, v = .ref a ∧ rv[j]? = some (.ref r) ∧ (a, ({ cls := .type "list", data := .seq #[.ref r, .int 0 t1, .int (j : Int) t2] } : Obj)) ∈ new, ⟨rfl, fun j v e => by cases e⟩, ?_, ?_⟩
  · rintro i ys new v C' m₂ h tk E' hi ⟨hyl, hJ⟩ ⟨t', rfl⟩ hNs hx kB hnsL hnew
    have Bh := B0.step (Off.but kB inL)
    obtain ⟨r, hri⟩ := hrr i hi
    refine listE (args_cons (Subscript_ (wpAny_Name (wpAny_loadName_cell rfl rfl rfl (cR.keeps Bh.k) ?_))))
    refine wpAny_Name (wpAny_loadName_local rfl rfl hNs hx ?_)
    refine item_list (isList_keeps hr Bh.k) (by lia) (by lia) (by simpa using hri) ?_
    refine args_cons (wpAny_Constant_int (args_cons (wpAny_Name (wpAny_loadName_local rfl rfl hNs hx (args_nil ⟨by rw [sizeLine_eq]; exact (by decide : 3 ≤ 16777216), fun D h' k nD gD => ?_⟩)))))
    obtain ⟨ob, gD, eob⟩ : ∃ ob, h'.get? D = some ob ∧ ob = _ := ⟨_, gD, rfl⟩
    refine ⟨h', _, [(D, ob)], rfl, k, ?_, by rw [List.length_append, hyl]; rfl, fun j v e => ?_⟩
    · intro p hp; rw [List.mem_singleton.mp hp]; exact ⟨nD, gD⟩
    · rcases Nat.lt_or_ge j ys.length with q | q
      · rw [List.getElem?_append_left q] at e
        obtain ⟨a, r, t1, t2, e1, e2, e3⟩ := hJ j v e
        exact ⟨a, r, t1, t2, e1, e2, List.mem_append_right _ e3⟩
      · rw [List.getElem?_append_right q] at e
        have : j = i := by
          have := (List.getElem?_eq_some_iff.mp e).1
          simp at this; lia
        subst this
        rw [← hyl, Nat.sub_self] at e
        cases e
        exact ⟨D, r, _, _, rfl, hri, by rw [eob]; exact .head _⟩
  · rintro ys new ⟨hyl, hJ⟩ D h' tk kB F2 nD gD gN
    refine hQ D h' tk ys F2 (fun b o n e => kB b o n (k0 b o e)) ⟨_, gD, rfl, _, rfl⟩ hyl fun j v e => ?_
    obtain ⟨a, r, t1, t2, e1, e2, e3⟩ := hJ j v e
    exact ⟨a, r, t1, t2, e1, e2, _, (gN _ e3).1, rfl, _, rfl⟩
end
end Mine
namespace Mine
open PySem PySem.W PySem.W.X PyProof.Rows PySem.Calls
set_option maxRecDepth 100000
set_option maxHeartbeats 400000
theorem KCls.keeps {h h' : Heap} {C ce : Addr} (x : KCls h C ce) (k : Keeps h h') : KCls h' C ce := by
  obtain ⟨NS, X, P, N0, B, t0, q2, tx, h1, h3, h4, h5, h6, h7, h8, h9, h10, h11, h12, ho, hd, t1, t3, t4, t5, t6, t7, t8, t9, t10, t11, t12, q1, q3, to, td, f0, f1, f2, f3, f4, f5, S, St, pm, e1, e2, e3, F0, F1⟩ := x.it
  obtain ⟨oc, ec, dc⟩ := x.cell
  exact ⟨⟨NS, X, P, N0, B, t0, q2, tx, h1, h3, h4, h5, h6, h7, h8, h9, h10, h11, h12, ho, hd, t1, t3, t4, t5, t6, t7, t8, t9, t10, t11, t12, q1, q3, to, td, f0, f1, f2, f3, f4, f5, S, St, pm, k _ _ e1, k _ _ e2, k _ _ e3, FnAt.but F0 fun y o _ _ e => k y o e, FnAt.but F1 fun y o _ _ e => k y o e⟩, oc, k _ _ ec, dc⟩
theorem RowAt.keeps {h h' : Heap} {v : Value} {xs : List Nat} (x : RowAt h v xs) (k : Keeps h h') : RowAt h' v xs := let ⟨a, r, rest, us, e, i1, i2, q⟩ := x; ⟨a, r, rest, us, e, isList_keeps i1 k, isList_keeps i2 k, q⟩
section
variable {w : World} {mg mb : Str → Option Value} {s : Shared} {dp un : Nat} {fr : Option (List Env)} {gd : Option (List Code)} {Q : Flow → Shared → Prop} {E : Value → Shared → Prop} {L f : Addr} {cd : Value} {hb hb₁ : Heap} {m : Str → Option Value}
theorem oft2 {C ce D : Addr} {ys : List Value} {rows : List (List Nat)} (F : Fr hb L s.heap m) (B : Bs [L, 123] hb₁ s.heap) (O : Okk w mg mb hb₁) (hdp : dp < 470) (hun : un < 9000) (mt : m (Str.ofString "things") = some (.ref D)) (mk : m (Str.ofString "key") = some (.ref C))
    (KC : KCls hb₁ C ce) (hD : hb₁.IsList D ys.toArray) (h2 : 2 ≤ ys.length) (h64 : ys.length < 64) (hT : ∀ (i : Nat) (v : Value), ys[i]? = some v → RowAt hb₁ v (rows.getD i []) ∧ (rows.getD i []).length = 6)
    (hQ : ∀ R h' tk c, Fr hb L h' (fun z => if z = Str.ofString "rising" then some (.ref R) else m z) → KeepsBut L s.heap h' → h'.get? R = some (seqObj "list" ((krun (fun i j => decide (gapL (rows.getD i []).reverse (rows.getD j []).reverse < 0)) (kas_sort ys.length)).toList.map fun i => ys.getD i .none).toArray c) →
      Q .next { s with heap := h', toks := tk }) :
    wpAny (model pr w) (oA dp un fr gd) (exec (oX 1) (oE L f cd)) Q E s := by
  have Oh : Okk w mg mb s.heap := O.keeps B.k
  refine wpAny_Assign_Name (CallKw_ (nmB Oh bb_sorted (nn_sorted _) rfl rfl rfl rfl ?_))
  refine callWith_kw (args_cons (nmL F (v := .ref D) mt (args_nil (kws_cons (nmL F (v := .ref C) mk (kws_nil ?_))))))
  refine sortedK w mg mb s dp un fr gd hdp hun _ _ Oh.X Oh.T C ce (KC.keeps B.k) D ys rows (isList_keeps hD B.k) h2 h64 (fun i v e => ⟨(hT i v e).1.keeps B.k, (hT i v e).2⟩) ?_
  intro R h' tk c k nR gR
  have F1 := fr_keeps F k
  refine wpAny_storeName_local rfl F1.ns (fun h2 n2 sb2 => ?_) rfl
  refine hQ R h2 _ c (fr_store F1 n2 sb2) (fun b o n e => (sb2.2 b n).trans (k _ _ e)) ((sb2.2 R ?_).trans gR)
  rintro rfl
  obtain ⟨_, _, _, e, _⟩ := F.ns
  change s.heap.get? R = _ at e
  rw [nR] at e; cases e
end
end Mine
namespace Mine
open PySem PySem.W PySem.W.X PyProof.Rows PySem.Calls
set_option maxRecDepth 100000
set_option maxHeartbeats 400000
theorem cLine_big {un : Nat} (h : un < 8990) : un + 64 < cLine := by unfold cLine; lia
theorem take_snoc {α : Type} {l : List α} {i : Nat} {x : α} (h : l[i]? = some x) : l.take (i + 1) = l.take i ++ [x] := by rw [List.take_add_one, h]; rfl
section
variable {w : World} {mg mb : Str → Option Value} {s : Shared} {dp un : Nat} {fr : Option (List Env)} {gd : Option (List Code)} {Q : Flow → Shared → Prop} {E : Value → Shared → Prop} {L f : Addr} {cd : Value} {hb hb₁ : Heap} {m : Str → Option Value}
theorem oft3 {R lo : Addr} {zs ov : List Value} {is : List Nat} (F : Fr hb L s.heap m) (B : Bs [L, 123] hb₁ s.heap) (hun : un < 8990) (mr : m (Str.ofString "rising") = some (.ref R)) (mo : m (Str.ofString "order") = some (.ref lo))
    (hR : hb₁.IsList R zs.toArray) (hl : zs.length < 64) (hli : zs.length = is.length) (hz : ∀ (i : Nat) v k, zs[i]? = some v → is[i]? = some k → ∃ a x y t, v = .ref a ∧ hb₁.IsList a [x, y, Value.int ((k : Nat) : Int) t].toArray) (ho : hb₁.IsList lo ov.toArray) (hoi : NatsAre ov is)
    (hQ : ∀ h' tk, Fr hb L h' m → KeepsBut L s.heap h' → Q .next { s with heap := h', toks := tk }) :
    wpAny (model pr w) (oA dp un fr gd) (exec (oX 2) (oE L f cd)) Q E s := by
  have inL : L ∈ [L, 123] := .head _
  refine wpAny_If (wpAny_isTrue_Compare1 (compE rfl F rfl (by decide) rfl (by decide) rfl ?_))
  refine nmL F (v := .ref R) mr (.inl ⟨R, zs.toArray, rfl, F, isList_keeps hR B.k, by rw [List.size_toArray, sizeLine_eq]; lia, ?_⟩)
  refine ⟨fun i ys new => NatsAre ys (is.take i), .nil, ?_, ?_⟩
  · rintro i ys new v C' m₂ h tk E' hi hJ hP hNs hx kB hnsL hnew
    have Bh := B.step (Off.but kB inL)
    have hP' : zs[i]? = some v := by simpa using hP
    obtain ⟨k, hk⟩ : ∃ k, is[i]? = some k := ⟨_, List.getElem?_eq_getElem (by rw [← hli]; exact (List.getElem?_eq_some_iff.mp hP').1)⟩
    obtain ⟨a, x, y, t, rfl, ha⟩ := hz i v k hP' hk
    refine Subscript_ (wpAny_Name (wpAny_loadName_local rfl rfl hNs hx (wpAny_Constant_int ?_)))
    refine item_list (isList_keeps ha Bh.k) (by decide) (by decide) (x := .int (k : Int) t) (by rfl) ?_
    refine ⟨h, _, [], rfl, fun _ _ e => e, fun _ h => (nomatch h), ?_⟩
    show NatsAre _ (is.take (i + 1))
    rw [take_snoc hk]
    exact natsAre_snoc hJ _ _
  · rintro ys new hJ D h' tk kB F2 nD gD gN
    have Bh := B.step (Off.but kB inL)
    rw [List.size_toArray, hli, List.take_length] at hJ
    refine nmL F2 (v := .ref lo) mo ?_
    refine ke_ne_ints ⟨_, gD, rfl, _, rfl⟩ (isList_keeps ho Bh.k) hJ hoi (cLine_big hun) ?_
    rw [decide_eq_true rfl]
    refine wpAny_truthy_bool ?_
    rw [if_neg (by decide)]
    exact wpAny_execs_nil (hQ h' tk F2 kB)
theorem sum_cast : ∀ l : List Nat, (l.map fun (n : Nat) => (n : Int)).sum = ((l.sum : Nat) : Int)
  | [] => rfl
  | a :: r => by rw [List.map_cons, List.sum_cons, List.sum_cons, sum_cast r]; lia
theorem oft4 {ln : Addr} {nv : List Value} {ns : List Nat} {b K : Nat} {t : Tok} (hdp : dp < 470) (F : Fr hb L s.heap m) (B : Bs [L, 123] hb₁ s.heap) (O : Okk w mg mb hb₁) (cB : hb₁.IsCell (L + 1) (some (.int (b : Int) t))) (hb1 : 2 ≤ b) (hb2 : b ≤ 64)
    (mn : m (Str.ofString "numbers") = some (.ref ln)) (hn : hb₁.IsList ln nv.toArray) (hni : NatsAre nv ns) (n60 : ns.length < 60) (hlt : ∀ n ∈ ns, n < b ^ 6) (hsum : ns.sum < b ^ 6) (hK : (ns.map fun n => (dg b 6 n).sum).sum = (dg b 6 ns.sum).sum + K)
    (hQ : ∀ h' tk t', Fr hb L h' (fun z => if z = Str.ofString "lost" then some (.int (K : Int) t') else m z) → KeepsBut L s.heap h' → Q .next { s with heap := h', toks := tk }) :
    wpAny (model pr w) (oA dp un fr gd) (exec (oX 3) (oE L f cd)) Q E s := by
  have inL : L ∈ [L, 123] := .head _
  have Oh : Okk w mg mb s.heap := O.keeps B.k
  refine wpAny_Assign_Name (wpAny_BinOp (Call_ (nmB Oh bb_sum (nn_sum _) rfl rfl rfl rfl ?_)))
  refine callWith_builtin1 (args_cons (compE rfl F rfl (by decide) rfl (by decide) rfl ?_))
  refine nmL F (v := .ref ln) mn (.inl ⟨ln, nv.toArray, rfl, F, isList_keeps hn B.k, by rw [List.size_toArray, sizeLine_eq, natsAre_len hni]; lia, ?_⟩)
  refine ⟨fun i ys new => NatsAre ys ((ns.take i).map fun n => (dg b 6 n).sum), .nil, ?_, ?_⟩
  · rintro i ys new v C' m₂ h tk E' hi hJ hP hNs hx kB hnsL hnew
    have Bh := B.step (Off.but kB inL)
    have O2 : Okk w mg mb h := O.keeps Bh.k
    obtain ⟨k, u, rfl, hk⟩ := natsAre_get hni (by simpa using hP)
    refine Call_ (nmG O2 (gg_sum _) rfl rfl rfl ?_)
    refine callG O2 (fn_sum _) (args_cons (wpAny_Name (wpAny_loadName_cell rfl rfl rfl (cB.keeps Bh.k) ?_)))
    refine args_cons (wpAny_Name (wpAny_loadName_local rfl rfl hNs hx (args_nil ⟨O2, ?_⟩)))
    refine lawsum w mg mb _ dp un _ _ (by lia) _ _ O2.X O2.T b k _ _ hb1 hb2 (hlt k (List.mem_of_getElem? hk)) fun h' tk' t' k' => ?_
    refine ⟨h', _, [], rfl, k', fun _ h => (nomatch h), ?_⟩
    show NatsAre _ ((ns.take (i + 1)).map fun n => (dg b 6 n).sum)
    rw [take_snoc hk, List.map_append]
    exact natsAre_snoc hJ _ _
  · rintro ys new hJ D h' tk kB F2 nD gD gN
    rw [List.size_toArray, natsAre_len hni, List.take_length] at hJ
    refine args_nil (sumE F2 rfl ⟨_, gD, rfl, _, rfl⟩ hJ fun h3 tk3 t3 F3 k3 => ?_)
    have B3 := (B.step (Off.but kB inL)).step (Off.but k3 inL)
    have O3 : Okk w mg mb h3 := O.keeps B3.k
    dsimp only
    refine Call_ (nmG O3 (gg_sum _) rfl rfl rfl ?_)
    refine callG O3 (fn_sum _) (args_cons (wpAny_Name (wpAny_loadName_cell rfl rfl rfl (cB.keeps B3.k) ?_)))
    refine args_cons (Call_ (nmB O3 bb_sum (nn_sum _) rfl rfl rfl rfl ?_))
    refine callWith_builtin1 (args_cons (nmL F3 (v := .ref ln) mn (args_nil (sumE F3 rfl (isList_keeps hn B3.k) hni fun h4 tk4 t4 F4 k4 => ?_))))
    have B4 := B3.step (Off.but k4 inL)
    have O4 : Okk w mg mb h4 := O.keeps B4.k
    refine args_nil ⟨O4, ?_⟩
    rw [sum_cast, sum_cast, hK]
    refine lawsum w mg mb _ dp un _ _ (by lia) _ _ O4.X O4.T b ns.sum _ _ hb1 hb2 hsum fun h5 tk5 t5 k5 => ?_
    have F5 := fr_keeps F4 k5
    refine subE (c := (K : Int)) (by lia) ?_
    refine wpAny_storeName_local rfl F5.ns (fun h6 n6 sb6 => ?_) rfl
    exact hQ h6 _ _ (fr_store F5 n6 sb6) fun b o n e => (sb6.2 b n).trans (k5 _ _ (k4 _ _ n (k3 _ _ n (kB _ _ n e))))
end
end Mine
namespace Mine
open PySem PySem.W PySem.W.X PyProof.Rows PySem.Calls
set_option maxRecDepth 100000
set_option maxHeartbeats 400000
theorem isList_off {h h' : Heap} {hid : List Addr} {a : Addr} {its : Array Value} (x : h.IsList a its) (n : NoSeq hid h) (k : Off hid h h') : h'.IsList a its := by
  obtain ⟨o, e, hc, c, hd⟩ := x
  exact ⟨o, k _ _ (fun q => n a q o e its c hd) e, hc, c, hd⟩
theorem Th.off {h h' : Heap} {hid : List Addr} {b N S : Nat} {rest : List Value} {v : Value} (x : Th h b N S rest v) (n : NoSeq hid h) (k : Off hid h h') : Th h' b N S rest v :=
  let ⟨a, r, us, c, t, e, i1, i2, q⟩ := x; ⟨a, r, us, c, t, e, isList_off i1 n k, isList_off i2 n k, q⟩
theorem Tab.but {h h' : Heap} {q : Str} {L : Addr} {m : Str → Option Value} (x : Tab h q) (n : h.Ns L m) (k : KeepsBut L h h') : Tab h' q := by
  obtain ⟨ps, g, t, f⟩ := x.it
  obtain ⟨o', es, ep, e', hd', _⟩ := n
  have nL : (123 : Addr) ≠ L := by rintro rfl; rw [g] at e'; cases e'; cases hd'
  refine ⟨ps, k _ _ nL g, t, fun pos cv e => ?_⟩
  obtain ⟨c, e1, n, r⟩ := f pos cv e
  refine ⟨c, e1, n, codeRec_x r (fun b o n e => k b o n e) ?_⟩
  rintro rfl
  obtain ⟨c₂, o, vs, t, e, g, r, _⟩ := r
  cases e; rw [g] at e'; cases e'; rw [r] at hd'; cases hd'
theorem noS {h : Heap} {L : Addr} {m : Str → Option Value} {q : Str} (n : h.Ns L m) (x : Tab h q) : NoSeq [L, 123] h :=
  let ⟨_, g, _⟩ := x.it; noSeq_cons (noSeq_ns n) (noSeq_cons (noSeq_tab g) noSeq_nil)
theorem Ths.reverse {h : Heap} {b : Nat} {vs : List Value} {ns : List (Nat × Nat)} (x : Ths h b vs ns) : Ths h b vs.reverse ns.reverse := by
  refine ⟨by rw [List.length_reverse, List.length_reverse, x.1], fun i v p a c => ?_⟩
  have ha := (List.getElem?_eq_some_iff.mp a).1
  rw [List.length_reverse] at ha
  have hn : i < ns.length := by rw [← x.1]; exact ha
  rw [List.getElem?_reverse ha] at a
  rw [List.getElem?_reverse hn, ← x.1] at c
  exact x.2 _ v p a c
theorem sN_rev (ns : List (Nat × Nat)) : sN ns.reverse = sN ns ∧ sS ns.reverse = sS ns := by
  unfold sN sS
  rw [List.map_reverse, List.map_reverse, List.sum_reverse, List.sum_reverse]
  exact ⟨rfl, rfl⟩
section
variable {w : World} {mg mb : Str → Option Value} {s : Shared} {A : Around} {Q : Value → Shared → Prop} {E : Value → Shared → Prop} {L f : Addr} {hb hb₁ : Heap} {m : Str → Option Value}
theorem lamE {b : Nat} {t : Tok} {a1 a2 p1 p2 p3 p4 p5 pos : Pos} {mr : List (Str × Const)} (B : Bs [L, 123] hb₁ s.heap) (O : Okk w mg mb hb₁) (BM : hb₁.BuiltinsAt mg 123) (CH : CodeHd hb₁ 125 123) (TB : Tab s.heap qLam) (cB : hb₁.IsCell (L + 1) (some (.int (b : Int) t))) (hb1 : 2 ≤ b) (hb2 : b ≤ 64)
    (hQ : ∀ g h' tk og fd, Heap.ExtBut 123 s.heap h' → Tab h' qLam → h'.get? g = some og → og.data = .func fd → (∀ (dp un : Nat) (fr : Option (List Env)) (gd : Option (List Code)), dp < 480 → FSpec w h' { handled := none, depth := dp, frames := fr, guards := gd, units := un } b g) → Q (.ref g) { s with heap := h', toks := tk }) :
    wpAny (model pr w) A (eval (.Lambda { posonlyargs := [], args := [{ arg := Str.ofString "one", annotation := none, pos := a1 }, { arg := Str.ofString "other", annotation := none, pos := a2 }], vararg := none, kwonlyargs := [], kw_defaults := [], kwarg := none, defaults := [] }
      (.Call (.Name (Str.ofString "_law_laid") p1) [.Name (Str.ofString "base") p2, .Name (Str.ofString "one") p3, .Name (Str.ofString "other") p4] [] p5)
      { kind := .function, names := [(Str.ofString "one", .local), (Str.ofString "other", .local), (Str.ofString "base", .free), (Str.ofString "_law_laid", .globalImplicit)], isGenerator := false, isCoroutine := false, more := mr } pos) (oE L f (.ref 125))) Q E s := by
  have Oh : Okk w mg mb s.heap := O.keeps B.k
  have inT : 123 ∈ [L, 123] := .tail _ (.head _)
  refine mkLam (clos := [(Str.ofString "base", L + 1)]) Oh (BM.keeps B.k) TB rfl (CH.keeps B.k) rfl rfl rfl rfl ?_
  intro g c' pm ct h' tk hx T' ng gg rec nf nc
  have B' := B.step (Off.ext hx inT)
  refine hQ g h' tk _ _ hx T' gg rfl fun dp un fr gd hdp => ?_
  exact lamF w mg mb dp un fr gd hdp h' (O.keeps B'.k) b hb1 hb2 g c' (L + 1) pm ct qLam t a1 a2 p1 p2 p3 p4 p5 mr false (cB.keeps B'.k) rec gg
end
end Mine
namespace Mine
open PySem PySem.W PySem.W.X PyProof.Rows PySem.Calls
set_option maxRecDepth 100000
set_option maxHeartbeats 400000
section
variable {w : World} {mg mb : Str → Option Value} {s : Shared} {dp un : Nat} {fr : Option (List Env)} {gd : Option (List Code)} {Q : Flow → Shared → Prop} {E : Value → Shared → Prop} {L f : Addr} {hb hb₁ : Heap} {m : Str → Option Value}
theorem oft5 {ln lr D R rz : Addr} {nv rv ys zs us : List Value} {ns : List Nat} {ps ps' : List (Nat × Nat)} {b N S : Nat} {t : Tok} (hdp : dp < 400) (hL0 : hb.get? 123 = none) (F : Fr hb L s.heap m) (B : Bs [L, 123] hb₁ s.heap) (O : Okk w mg mb hb₁) (BM : hb₁.BuiltinsAt mg 123) (CH : CodeHd hb₁ 125 123) (TB : Tab s.heap qLam)
    (cB : hb₁.IsCell (L + 1) (some (.int (b : Int) t))) (cR : hb₁.IsCell (L + 1 + 1) (some (.ref lr))) (hb1 : 2 ≤ b) (hb2 : b ≤ 64) (mt : m (Str.ofString "things") = some (.ref D)) (mr : m (Str.ofString "rising") = some (.ref R)) (mn : m (Str.ofString "numbers") = some (.ref ln))
    (hD : hb₁.IsList D ys.toArray) (hR : hb₁.IsList R zs.toArray) (hr : hb₁.IsList lr rv.toArray) (hn : hb₁.IsList ln nv.toArray) (hni : NatsAre nv ns) (hrl : 1 ≤ rv.length) (hrz : rv[rv.length - 1]? = some (.ref rz)) (hz : hb₁.IsList rz us.toArray) (hus : NatsAre us (dg b 6 0))
    (xs : Ths hb₁ b ys ps) (xs' : Ths hb₁ b zs ps') (y2 : 2 ≤ ys.length) (y60 : ys.length < 60) (z2 : 2 ≤ zs.length) (eN : sN ps = N) (eS : sS ps = S) (eN' : sN ps' = N) (eS' : sS ps' = S) (hlt : N < b ^ 6) (hsum : ns.sum < 16777216)
    (hQ : ∀ T h' tk v1 v2 v3 v4, Fr hb L h' (fun z => if z = Str.ofString "told" then some (.ref T) else m z) → Off [L, 123] s.heap h' → Tab h' qLam → h'.IsList T [v1, v2, v3, v4].toArray → Th h' b N S [] v1 → Th h' b N S [] v2 → Th h' b N S [] v3 → Th h' b N S [] v4 → Q .next { s with heap := h', toks := tk }) :
    wpAny (model pr w) (oA dp un fr gd) (exec (oX 4) (oE L f (.ref 125))) Q E s := by
  have inL : L ∈ [L, 123] := .head _
  have inT : 123 ∈ [L, 123] := .tail _ (.head _)
  have frx : ∀ {h h' : Heap} {m : Str → Option Value}, Fr hb L h m → Heap.ExtBut 123 h h' → Tab h qLam → Fr hb L h' m := fun {h h' m} F k TB => by
    obtain ⟨o, es, ep, e, hd, r⟩ := F.ns
    obtain ⟨ps, g, _⟩ := TB.it
    exact ⟨⟨o, es, ep, k _ _ (by rintro rfl; rw [g] at e; cases e; cases hd) e, hd, r⟩, fun b o e => k b o (by rintro rfl; rw [hL0] at e; cases e) (F.keep b o e), F.above⟩
  have Oh : Okk w mg mb s.heap := O.keeps B.k
  refine wpAny_Assign_Name (listE (args_cons (Call_ (nmG Oh (gg_reduce _) rfl rfl rfl ?_))))
  -- 1
  refine callG Oh (fn_reduce _) (args_cons (lamE B O BM CH TB cB hb1 hb2 fun g1 h1 tk1 og1 fd1 x1 T1 gg1 gd1 fs1 => ?_))
  have B1 := B.step (Off.ext x1 inT)
  have F1 := frx F x1 TB
  have k1 : Off [L, 123] s.heap h1 := Off.ext x1 inT
  refine args_cons (nmL F1 (v := .ref D) mt (args_nil ⟨O.keeps B1.k, ?_⟩))
  refine reduce2 w mg mb _ dp un _ _ (by lia) _ _ (O.keeps B1.k) b g1 D ys ps og1 fd1 (isList_keeps hD B1.k) gg1 gd1 (xs.keeps B1.k) y2 (by rw [eN]; exact hlt) (fun fr' => fs1 _ _ _ _ (by lia)) ?_
  intro h2 tk2 v1 q2 t1
  rw [eN, eS] at t1
  have B2 := B1.step (Off.keeps q2)
  have F2 := fr_keeps F1 q2
  have T2 := T1.keeps q2
  have k2 : Off [L, 123] s.heap h2 := k1.trans (Off.keeps q2)
  clear fs1 gg1 gd1 F1 T1 B1 k1 x1
  dsimp only
  -- 2
  refine args_cons (Call_ (nmG (O.keeps B2.k) (gg_reduce _) rfl rfl rfl ?_))
  refine callG (O.keeps B2.k) (fn_reduce _) (args_cons (lamE B2 O BM CH T2 cB hb1 hb2 fun g1 h3 tk3 og1 fd1 x1 T3 gg1 gd1 fs1 => ?_))
  have B3 := B2.step (Off.ext x1 inT)
  have F3 := frx F2 x1 T2
  have k3 : Off [L, 123] s.heap h3 := k2.trans (Off.ext x1 inT)
  have t1 := t1.off (noS F2.ns T2) (Off.ext x1 inT)
  refine args_cons (sliceRev (vs := ys) (nmL F3 (v := .ref D) mt (wpAny_UnaryOp (wpAny_Constant_int (neg_int ?_)))))
  refine ⟨D, _, rfl, isList_keeps hD B3.k, by rw [sizeLine_eq]; lia, rfl, fun D' h4 q4 n4 g4 => ?_⟩
  have B4 := B3.step (Off.keeps q4)
  have F4 := fr_keeps F3 q4
  refine args_nil ⟨O.keeps B4.k, ?_⟩
  refine reduce2 w mg mb _ dp un _ _ (by lia) _ _ (O.keeps B4.k) b g1 D' ys.reverse ps.reverse og1 fd1 ⟨_, g4, rfl, _, rfl⟩ (q4 _ _ gg1) gd1 ((xs.keeps B4.k).reverse) (by rw [List.length_reverse]; exact y2) (by rw [(sN_rev ps).1, eN]; exact hlt) (fun fr' => ?_) ?_
  · intro s' w1 w2 M1 M2 M3 M4 r1 r2 Q' E' kk
    exact fs1 _ _ _ _ (by lia) s' w1 w2 M1 M2 M3 M4 r1 r2 Q' E' (fun b o e => kk _ _ (q4 _ _ e))
  intro h5 tk5 v2 q5 t2
  rw [(sN_rev ps).1, (sN_rev ps).2, eN, eS] at t2
  have B5 := B4.step (Off.keeps q5)
  have F5 := fr_keeps F4 q5
  have T5 := (T3.keeps q4).keeps q5
  have k5 : Off [L, 123] s.heap h5 := (k3.trans (Off.keeps q4)).trans (Off.keeps q5)
  replace t1 := (t1.keeps q4).keeps q5
  clear fs1 gg1 gd1 F3 T3 B3 k3 x1 B4 F4 F2 T2 B2 k2
  dsimp only
  -- 3
  refine args_cons (Call_ (nmG (O.keeps B5.k) (gg_reduce _) rfl rfl rfl ?_))
  refine callG (O.keeps B5.k) (fn_reduce _) (args_cons (lamE B5 O BM CH T5 cB hb1 hb2 fun g1 h6 tk6 og1 fd1 x1 T6 gg1 gd1 fs1 => ?_))
  have B6 := B5.step (Off.ext x1 inT)
  have F6 := frx F5 x1 T5
  have k6 : Off [L, 123] s.heap h6 := k5.trans (Off.ext x1 inT)
  replace t1 := t1.off (noS F5.ns T5) (Off.ext x1 inT)
  replace t2 := t2.off (noS F5.ns T5) (Off.ext x1 inT)
  refine args_cons (nmL F6 (v := .ref R) mr ?_)
  refine args_cons (listE (args_cons (Subscript_ (wpAny_Name (wpAny_loadName_cell rfl rfl rfl (cR.keeps B6.k) (wpAny_UnaryOp (wpAny_Constant_int (neg_int ?_))))))))
  refine itemNeg (isList_keeps hr B6.k) (by decide) (by rw [List.size_toArray]; lia) (by decide) (x := .ref rz) ?_ ?_
  · rw [List.size_toArray, show ((-1 : Int) + (rv.length : Int)).toNat = rv.length - 1 by lia]; simpa using hrz
  refine args_cons (wpAny_Constant_int (args_nil ⟨by rw [sizeLine_eq]; exact (by decide : 2 ≤ 16777216), fun D' h7 q7 n7 g7 => ?_⟩))
  have B7 := B6.step (Off.keeps q7)
  have F7 := fr_keeps F6 q7
  refine args_nil ⟨O.keeps B7.k, ?_⟩
  refine reduce3 w mg mb _ dp un _ _ (by lia) _ _ (O.keeps B7.k) b g1 R zs ps' og1 fd1 (isList_keeps hR B7.k) (q7 _ _ gg1) gd1 (xs'.keeps B7.k) _ 0 0 [] ⟨D', rz, us, 0, _, rfl, ⟨_, g7, rfl, _, rfl⟩, isList_keeps hz B7.k, hus, by rw [dg_zero, Nat.zero_mul]⟩ (by lia) (by rw [eN', Nat.zero_add]; exact hlt) (fun fr' => ?_) ?_
  · intro s' w1 w2 M1 M2 M3 M4 r1 r2 Q' E' kk
    exact fs1 _ _ _ _ (by lia) s' w1 w2 M1 M2 M3 M4 r1 r2 Q' E' (fun b o e => kk _ _ (q7 _ _ e))
  intro h8 tk8 v3 q8 t3
  rw [eN', eS', Nat.zero_add, Nat.zero_add] at t3
  have B8 := B7.step (Off.keeps q8)
  have F8 := fr_keeps F7 q8
  have T8 := (T6.keeps q7).keeps q8
  have k8 : Off [L, 123] s.heap h8 := (k6.trans (Off.keeps q7)).trans (Off.keeps q8)
  replace t1 := (t1.keeps q7).keeps q8
  replace t2 := (t2.keeps q7).keeps q8
  clear fs1 gg1 gd1 F6 T6 B6 k6 x1 B7 F7 F5 T5 B5 k5
  dsimp only
  -- 4
  refine args_cons (Call_ (nmG (O.keeps B8.k) (gg_parted _) rfl rfl rfl ?_))
  refine callG (O.keeps B8.k) (fn_parted _) (args_cons (wpAny_Name (wpAny_loadName_cell rfl rfl rfl (cB.keeps B8.k) ?_)))
  refine args_cons (nmL F8 (v := .ref D) mt ?_)
  refine args_cons (Call_ (nmB (O.keeps B8.k) bb_sum (nn_sum _) rfl rfl rfl rfl ?_))
  refine callWith_builtin1 (args_cons (nmL F8 (v := .ref ln) mn (args_nil (sumE F8 rfl (isList_keeps hn B8.k) hni fun h9 tk9 t9 F9 k9 => ?_))))
  have B9 := B8.step (Off.but k9 inL)
  have T9 := T8.but F8.ns k9
  replace t1 := t1.off (noS F8.ns T8) (Off.but k9 inL)
  replace t2 := t2.off (noS F8.ns T8) (Off.but k9 inL)
  replace t3 := t3.off (noS F8.ns T8) (Off.but k9 inL)
  have kk9 : Off [L, 123] s.heap h9 := k8.trans (Off.but k9 inL)
  refine args_nil ⟨O.keeps B9.k, ?_⟩
  rw [sum_cast]
  refine parted w mg mb b hb1 hb2 ys.length _ dp un _ _ _ _ _ _ D ys ps ns.sum (O.keeps B9.k) (Nat.le_refl _) (by lia) (by lia) (by lia) (isList_keeps hD B9.k) (xs.keeps B9.k) (by rw [eN]; exact hlt) hsum ?_
  intro h10 tk10 v4 r4 q10 t4 hr4
  rw [eN, eS, hr4 y2] at t4
  have F10 := fr_keeps F9 q10
  have T10 := T9.keeps q10
  replace t1 := t1.keeps q10
  replace t2 := t2.keeps q10
  replace t3 := t3.keeps q10
  have k10 : Off [L, 123] s.heap h10 := kk9.trans (Off.keeps q10)
  refine args_nil ⟨by rw [sizeLine_eq]; exact (by decide : 4 ≤ 16777216), fun T h11 q11 n11 g11 => ?_⟩
  have F11 := fr_keeps F10 q11
  have T11 := T10.keeps q11
  refine wpAny_storeName_local rfl F11.ns (fun h12 n12 sb => ?_) rfl
  have nT : T ≠ L := by
    rintro rfl
    obtain ⟨_, _, _, e, _⟩ := F10.ns
    rw [n11] at e; cases e
  exact hQ T h12 _ v1 v2 v3 v4 (fr_store F11 n12 sb) ((k10.trans (Off.keeps q11)).trans (Off.same sb inL)) (T11.same F11.ns sb) ⟨_, (sb.2 T nT).trans g11, rfl, _, rfl⟩
    ((t1.keeps q11).same F11.ns sb) ((t2.keeps q11).same F11.ns sb) ((t3.keeps q11).same F11.ns sb) ((t4.keeps q11).same F11.ns sb)
end
end Mine
namespace Mine
open PySem PySem.W PySem.W.X PyProof.Rows PySem.Calls
set_option maxRecDepth 100000
set_option maxHeartbeats 400000
def pdRow (xs : List Nat) : PyData := .list ((xs.map fun (n : Nat) => (n : Int)).map PyData.int)
def pdT (xs : List Nat) (c : Nat) : PyData := .list [pdRow xs, .int (c : Int)]
theorem th_c {h : Heap} {b N S c : Nat} {rest : List Value} {v : Value} (hb1 : 2 ≤ b) (x : Th h b N S rest v) (hc : c * (b - 1) + (dg b 6 N).sum = S) :
    ∃ a r us t, v = .ref a ∧ h.IsList a (Value.ref r :: Value.int ((c : Nat) : Int) t :: rest).toArray ∧ h.IsList r (List.toArray us) ∧ NatsAre us (dg b 6 N) := by
  obtain ⟨a, r, us, c', t, rfl, i1, i2, hu, q⟩ := x
  have e : c' = c := Nat.eq_of_mul_eq_mul_right (show 0 < b - 1 by lia) (by lia)
  subst e
  exact ⟨a, r, us, t, rfl, i1, i2, hu⟩
theorem th_reads {h : Heap} {b N S c : Nat} {v : Value} (hb1 : 2 ≤ b) (x : Th h b N S [] v) (hc : c * (b - 1) + (dg b 6 N).sum = S) : ∃ as, Reads h v (pdT (dg b 6 N) c) as := by
  obtain ⟨a, r, us, t, rfl, i1, i2, hu⟩ := th_c hb1 x hc
  obtain ⟨o, g, hc, n, hd⟩ := i1
  exact ⟨_, .list g hc hd (.cons (reads_newData i2 (ke_carried hu)) (.cons (.int _ _) .nil))⟩
theorem reads4 {h : Heap} {T : Addr} {v1 v2 v3 v4 : Value} {d : PyData} (hT : h.IsList T [v1, v2, v3, v4].toArray) (r1 : ∃ as, Reads h v1 d as) (r2 : ∃ as, Reads h v2 d as) (r3 : ∃ as, Reads h v3 d as) (r4 : ∃ as, Reads h v4 d as) : ∃ as, Reads h (.ref T) (.list [d, d, d, d]) as := by
  obtain ⟨o, g, hc, n, hd⟩ := hT
  obtain ⟨_, r1⟩ := r1
  obtain ⟨_, r2⟩ := r2
  obtain ⟨_, r3⟩ := r3
  obtain ⟨_, r4⟩ := r4
  exact ⟨_, .list g hc hd (.cons r1 (.cons r2 (.cons r3 (.cons r4 .nil))))⟩
theorem eqv4 (xs : List Nat) (c : Nat) : PyData.eqv (.list [pdT xs c, pdT xs c, pdT xs c, pdT xs c]) (.list [pdT xs c, pdT xs c, pdT xs c, pdT xs c]) = true := by
  simp [pdT, pdRow, PyData.eqv, PyData.eqvAll, ked_eqvAll, -List.map_map]
theorem shaped4 (xs : List Nat) (c : Nat) : SeqAt.shaped (.list [pdT xs c, pdT xs c, pdT xs c, pdT xs c]) = true := by
  simp [pdT, pdRow, SeqAt.shaped, PyData.canLay0, PyData.canLayAll0, PyData.depth, PyData.depthAll, ke_canLayAll0, ke_depthAll, -List.map_map]
section
variable {w : World} {mg mb : Str → Option Value} {s : Shared} {dp un : Nat} {fr : Option (List Env)} {gd : Option (List Code)} {Q : Flow → Shared → Prop} {E : Value → Shared → Prop} {L f : Addr} {cd : Value} {hb hb₁ : Heap} {m : Str → Option Value}
theorem oft6 {lr T rs : Addr} {rv us : List Value} {v1 v2 v3 v4 : Value} {b N S K c : Nat} {t t2 : Tok} (hun : un < 8990) (F : Fr hb L s.heap m) (B : Bs [L, 123] hb₁ s.heap) (cB : hb₁.IsCell (L + 1) (some (.int (b : Int) t))) (cR : hb₁.IsCell (L + 1 + 1) (some (.ref lr))) (hb1 : 2 ≤ b) (hb2 : b ≤ 64)
    (mt : m (Str.ofString "told") = some (.ref T)) (ml : m (Str.ofString "lost") = some (.int (K : Int) t2)) (hT : hb₁.IsList T [v1, v2, v3, v4].toArray) (t1 : Th hb₁ b N S [] v1) (t2 : Th hb₁ b N S [] v2) (t3 : Th hb₁ b N S [] v3) (t4 : Th hb₁ b N S [] v4)
    (hr : hb₁.IsList lr rv.toArray) (hrl : 2 ≤ rv.length) (hrs : rv[rv.length - 2]? = some (.ref rs)) (hs : hb₁.IsList rs us.toArray) (hus : NatsAre us (dg b 6 N)) (hc : c * (b - 1) + (dg b 6 N).sum = S) (hK : K = c * (b - 1))
    (hQ : ∀ h' tk, Fr hb L h' m → KeepsBut L s.heap h' → Q (.ret (.bool true)) { s with heap := h', toks := tk }) :
    wpAny (model pr w) (oA dp un fr gd) (exec (oX 5) (oE L f cd)) Q E s := by
  have inL : L ∈ [L, 123] := .head _
  refine wpAny_Return_some (wpAny_Compare1 (nmL F (v := .ref T) mt (wpAny_BinOp ?_)))
  refine listE (args_cons (listE (args_cons (Subscript_ (wpAny_Name (wpAny_loadName_cell rfl rfl rfl (cR.keeps B.k) (wpAny_UnaryOp (wpAny_Constant_int (neg_int ?_))))))))) 
  refine itemNeg (isList_keeps hr B.k) (by decide) (by rw [List.size_toArray]; lia) (by decide) (x := .ref rs) ?_ ?_
  · rw [List.size_toArray, show ((-2 : Int) + (rv.length : Int)).toNat = rv.length - 2 by lia]; simpa using hrs
  refine args_cons (wpAny_BinOp (nmL F (v := .int (K : Int) _) ml (wpAny_BinOp (wpAny_Name (wpAny_loadName_cell rfl rfl rfl (cB.keeps B.k) (wpAny_Constant_int ?_))))))
  refine subE (c := ((b - 1 : Nat) : Int)) (by lia) (divE (c := (c : Int)) (by lia) (by lia) ?_ ?_)
  · rw [fdivN, hK, Nat.mul_div_cancel _ (by lia)]
  refine args_nil ⟨by rw [sizeLine_eq]; exact (by decide : 2 ≤ 16777216), fun D h1 k1 n1 g1 => ?_⟩
  have F1 := fr_keeps F k1
  refine args_nil ⟨by rw [sizeLine_eq]; exact (by decide : 1 ≤ 16777216), fun D2 h2 k2 n2 g2 => ?_⟩
  have F2 := fr_keeps F1 k2
  refine wpAny_Constant_int (mulE F2 g2 (by decide) (by decide) (show 1 * 4 ≤ 2 ^ 24 by decide) fun M h3 F3 k3 n3 g3 => ?_)
  have B3 := ((B.step (Off.keeps k1)).step (Off.keeps k2)).step (Off.but k3 inL)
  have nD : D ≠ L := by
    rintro rfl
    obtain ⟨_, _, _, e, _⟩ := F.ns
    rw [n1] at e; cases e
  have tD : Th h3 b N S [] (.ref D) := ⟨D, rs, us, c, _, rfl, ⟨_, k3 _ _ nD (k2 _ _ g1), rfl, _, rfl⟩, isList_keeps hs B3.k, hus, hc⟩
  have rD := th_reads hb1 tD hc
  have hM : h3.IsList M [Value.ref D, .ref D, .ref D, .ref D].toArray := ⟨_, g3, rfl, _, rfl⟩
  obtain ⟨_, r1⟩ := reads4 (isList_keeps hT B3.k) (th_reads hb1 (t1.keeps B3.k) hc) (th_reads hb1 (t2.keeps B3.k) hc) (th_reads hb1 (t3.keeps B3.k) hc) (th_reads hb1 (t4.keeps B3.k) hc)
  obtain ⟨_, r2⟩ := reads4 hM rD rD rD rD
  refine eq_dataH r1 r2 (shaped4 _ _) (shaped4 _ _) (cLine_big hun) ?_
  rw [eqv4]
  exact hQ h3 _ F3 fun b o n e => k3 b o n (k2 _ _ (k1 _ _ e))
end
end Mine
namespace Mine
open PySem PySem.W PyProof.Rows
theorem krun_congr {α : Type} {f g : Nat → Nat → Bool} {N : Nat} (h : ∀ i j, i < N → j < N → f i j = g i j) : ∀ t : KasT α, kok f N t → krun f t = krun g t
  | .ret _, _ => rfl
  | .ask i j k, ⟨a, b, c⟩ => by
    show krun f (k (f i j)) = krun g (k (g i j))
    rw [← h i j a b]
    exact krun_congr h _ c
theorem sorted_unique {r : Nat → Nat → Prop} (irr : ∀ a b, r a b → r b a → False) : ∀ (l1 l2 : List Nat), (∀ x, x ∈ l1 ↔ x ∈ l2) → l1.Pairwise r → l2.Pairwise r → l1 = l2
  | [], [], _, _, _ => rfl
  | [], b :: l2, h, _, _ => absurd ((h b).2 (.head _)) List.not_mem_nil
  | a :: l1, [], h, _, _ => absurd ((h a).1 (.head _)) List.not_mem_nil
  | a :: l1, b :: l2, h, p1, p2 => by
    have p1' := List.pairwise_cons.mp p1
    have p2' := List.pairwise_cons.mp p2
    have e : a = b := by
      rcases List.mem_cons.mp ((h a).1 (.head _)) with q | q
      · exact q
      · rcases List.mem_cons.mp ((h b).2 (.head _)) with q' | q'
        · exact q'.symm
        · exact (irr a b (p1'.1 b q') (p2'.1 a q)).elim
    subst e
    congr 1
    refine sorted_unique irr l1 l2 (fun x => ?_) p1'.2 p2'.2
    constructor
    · intro hx
      rcases List.mem_cons.mp ((h x).1 (.tail _ hx)) with q | q
      · subst q; exact (irr x x (p1'.1 x hx) (p1'.1 x hx)).elim
      · exact q
    · intro hx
      rcases List.mem_cons.mp ((h x).2 (.tail _ hx)) with q | q
      · subst q; exact (irr x x (p2'.1 x hx) (p2'.1 x hx)).elim
      · exact q
abbrev lexR (ns : List Nat) (i j : Nat) : Prop := ns.getD i 0 < ns.getD j 0 ∨ (ns.getD i 0 = ns.getD j 0 ∧ i < j)
theorem sort_is {b : Nat} (hb1 : 2 ≤ b) {ns ord : List Nat} {rows : List (List Nat)} (hrows : ∀ i, i < ns.length → rows.getD i [] = dg b 6 (ns.getD i 0)) (hlt : ∀ n ∈ ns, n < b ^ 6) (hN : 1 ≤ ns.length) (hp : ord.Perm (List.range ns.length)) (hs : ord.Pairwise (lexR ns)) :
    (krun (fun i j => decide (gapL (rows.getD i []).reverse (rows.getD j []).reverse < 0)) (kas_sort ns.length)).toList = ord := by
  have hget : ∀ i, i < ns.length → ns.getD i 0 < b ^ 6 := fun i hi => by
    rw [List.getD_eq_getElem?_getD, List.getElem?_eq_getElem hi]; exact hlt _ (List.getElem_mem hi)
  let key : Nat → Int := fun i => ((ns.getD i 0 : Nat) : Int)
  have e1 : krun (fun i j => decide (gapL (rows.getD i []).reverse (rows.getD j []).reverse < 0)) (kas_sort ns.length) = krun (kf key) (kas_sort ns.length) := by
    refine krun_congr (fun i j hi hj => ?_) _ (sort_k (by lia))
    show decide _ = decide (((ns.getD i 0 : Nat) : Int) < ((ns.getD j 0 : Nat) : Int))
    rw [hrows i hi, hrows j hj]
    have := gap_dg b (by lia) 6 (ns.getD i 0) (ns.getD j 0) (hget i hi) (hget j hj)
    rw [decide_eq_decide, this]; lia
  rw [e1]
  obtain ⟨z, srt, perm⟩ := sort_ok (key := key) hN
  refine sorted_unique (r := lexR ns) (fun a b x y => ?_) _ _ (fun x => ?_) ?_ hs
  · rcases x with x | x <;> rcases y with y | y <;> lia
  · have h1 := perm.mem_iff (a := x)
    have h2 := hp.mem_iff (a := x)
    rw [h2, Array.mem_toList_iff, h1]; simp
  · rw [List.pairwise_iff_getElem]
    intro i j hi hj hij
    rw [Array.length_toList] at hi hj
    have := srt i j hij (by lia)
    unfold R at this
    rw [at0_eq, at0_eq, Array.getElem?_eq_getElem hi, Array.getElem?_eq_getElem hj] at this
    simp only [Option.getD_some, key] at this
    rw [Array.getElem_toList, Array.getElem_toList]
    show _ ∨ _
    rcases this with q | q
    · exact .inl (Int.ofNat_lt.mp q)
    · exact .inr ⟨Int.ofNat_inj.mp q.1, q.2⟩
theorem carries {b : Nat} (hb1 : 2 ≤ b) : ∀ ns : List Nat, ns.sum < b ^ 6 → ∃ c, c * (b - 1) + (dg b 6 ns.sum).sum = (ns.map fun n => (dg b 6 n).sum).sum
  | [], _ => ⟨0, by simp [dg_zero]⟩
  | a :: r, h => by
    rw [List.sum_cons] at h
    obtain ⟨c, e⟩ := carries hb1 r (by lia)
    have z := layC_dg b (by lia) 6 a r.sum 0 (by lia)
    simp only [Nat.add_zero] at z
    refine ⟨layC b 0 (dg b 6 a) (dg b 6 r.sum) + c, ?_⟩
    rw [List.sum_cons, List.map_cons, List.sum_cons, ← e, Nat.add_mul]
    lia
theorem le_sum : ∀ {ns : List Nat} {n : Nat}, n ∈ ns → n ≤ ns.sum
  | _ :: _, _, .head _ => by rw [List.sum_cons]; lia
  | _ :: _, _, .tail _ h => by rw [List.sum_cons]; have := le_sum h; lia
theorem range_map {α : Type} (d : α) (l : List α) : (List.range l.length).map (fun i => l.getD i d) = l := by
  apply List.ext_getElem
  · simp
  · intro i h1 h2
    rw [List.getElem_map, List.getElem_range, List.getD_eq_getElem?_getD, List.getElem?_eq_getElem h2]; rfl
theorem perm_sums {ps : List (Nat × Nat)} {ord : List Nat} (hp : ord.Perm (List.range ps.length)) : sN (ord.map fun i => ps.getD i (0, 0)) = sN ps ∧ sS (ord.map fun i => ps.getD i (0, 0)) = sS ps := by
  have q := hp.map (fun i => ps.getD i (0, 0))
  rw [range_map] at q
  unfold sN sS
  exact ⟨(q.map (·.1)).sum_nat, (q.map (·.2)).sum_nat⟩
end Mine
namespace Mine
open PySem PySem.W PySem.W.X PyProof.Rows PySem.Calls
set_option maxRecDepth 100000
set_option maxHeartbeats 400000
local macro_rules | `(tactic| walk_at "mine enterC") => `(tactic| (
  refine wpAny_call ?_
  k_dflt (refine' enterKC ?k1 ?k2 ?k3 ?k4 ?k5 ?k6 ?k7 ?k8 ?k9 ?k10 ?_ ?c2 ?c3 ?c4; (case k1 => k_asm); (case k2 => exact TopRead.nolimit (by assumption)); (case k3 => k_is); (case k4 => k_is); (case k5 => (dsimp only [recursionLimit]; lia)); (case k6 => exact BindsTo.of_eq rfl); (case k7 => exact rfl); (case k8 => decide +kernel); (case k9 => k_asm); (case k10 => k_asm); (case c2 => exact rfl); (case c3 => exact rfl); (case c4 => exact rfl); k_whole)))
theorem oftAll {w : World} {mg mb : Str → Option Value} {s : Shared} {dp un : Nat} {fr : Option (List Env)} {gd : Option (List Code)} {Q : Flow → Shared → Prop} {E : Value → Shared → Prop} {L f : Addr} {hb hb₁ : Heap} {m : Str → Option Value}
    {b : Nat} {t : Tok} {ln lo lr C ce : Addr} {nv ov rv : List Value} {ns ord : List Nat} (hdp : dp < 400) (hun : un < 8990) (hL0 : hb.get? 123 = none) (F : Fr hb L s.heap m) (B : Bs [L, 123] hb₁ s.heap) (O : Okk w mg mb hb₁) (BM : hb₁.BuiltinsAt mg 123) (CH : CodeHd hb₁ 125 123) (TB : Tab s.heap qLam)
    (cB : hb₁.IsCell (L + 1) (some (.int (b : Int) t))) (cR : hb₁.IsCell (L + 1 + 1) (some (.ref lr))) (l123 : 123 < L) (KC : KCls hb₁ C ce) (hb1 : 2 ≤ b) (hb2 : b ≤ 64)
    (mn : m (Str.ofString "numbers") = some (.ref ln)) (mo : m (Str.ofString "order") = some (.ref lo)) (mk : m (Str.ofString "key") = some (.ref C))
    (hn : hb₁.IsList ln nv.toArray) (hni : NatsAre nv ns) (n2 : 2 ≤ ns.length) (n60 : ns.length < 60) (ho : hb₁.IsList lo ov.toArray) (hoi : NatsAre ov ord) (hr : hb₁.IsList lr rv.toArray) (hrl : rv.length = ns.length + 2)
    (hrows : ∀ (i N : Nat), (ns ++ [ns.sum, 0])[i]? = some N → ∃ r us, rv[i]? = some (Value.ref r) ∧ hb₁.IsList r (List.toArray us) ∧ NatsAre us (dg b 6 N))
    (hp : ord.Perm (List.range ns.length)) (hs : ord.Pairwise (lexR ns)) (hlt : ns.sum < b ^ 6) (hsum : ns.sum < 16777216)
    (hQ : ∀ h' tk, Off [L, 123] s.heap h' → Tab h' qLam → Q (.ret (.bool true)) { s with heap := h', toks := tk }) :
    wpAny (model pr w) (oA dp un fr gd) (execs oB (oE L f (.ref 125))) Q E s := by
  have inL : L ∈ [L, 123] := .head _
  have nvl := natsAre_len hni
  have hlt1 : ∀ n ∈ ns, n < b ^ 6 := fun n h => Nat.lt_of_le_of_lt (le_sum h) hlt
  obtain ⟨c, hc⟩ := carries hb1 ns hlt
  show wpAny _ _ (execs [oX 0, oX 1, oX 2, oX 3, oX 4, oX 5] _) _ _ _
  refine wpAny_execs_cons (oft1 (n := ns.length) F B O cR mn hn nvl (by lia) n60 hr (fun i hi => ?_) ?_)
  · obtain ⟨r, us, e, _⟩ := hrows i ns[i] (by rw [List.getElem?_append_left hi, List.getElem?_eq_getElem hi])
    exact ⟨r, e⟩
  intro D h1 tk1 ys F1 k1 gD hyl hys
  have B1 := B.step (Off.but k1 inL)
  have T1 := TB.but F.ns k1
  have nS1 := noS F1.ns T1
  obtain ⟨hb₂, up2, B2, gD, hys⟩ : ∃ hb₂, Keeps hb₁ hb₂ ∧ Bs [L, 123] hb₂ h1 ∧ hb₂.IsList D ys.toArray ∧ (∀ (j : Nat) v, ys[j]? = some v → ∃ a r t1 t2, v = .ref a ∧ rv[j]? = some (.ref r) ∧ hb₂.IsList a [Value.ref r, .int 0 t1, .int (j : Int) t2].toArray) :=
    ⟨hideAll h1 [L, 123], B1.up (fun _ h => h), Bs.anew _ _, isList_hide gD nS1, fun j v e => let ⟨a, r, t1, t2, e1, e2, e3⟩ := hys j v e; ⟨a, r, t1, t2, e1, e2, isList_hide e3 nS1⟩⟩
  have O2 : Okk w mg mb hb₂ := O.keeps up2
  have thAt : ∀ (j : Nat) v N, ys[j]? = some v → ns[j]? = some N → ∃ t2, Th hb₂ b N (dg b 6 N).sum [Value.int (j : Int) t2] v := by
    intro j v N e e'
    have hj := (List.getElem?_eq_some_iff.mp e').1
    obtain ⟨a, r, t1, t2, rfl, e2, e3⟩ := hys j v e
    obtain ⟨r', us, z1, z2, z3⟩ := hrows j N (by rw [List.getElem?_append_left hj]; exact e')
    rw [e2] at z1; cases z1
    exact ⟨t2, a, r, us, 0, t1, rfl, e3, isList_keeps z2 up2, z3, by rw [Nat.zero_mul, Nat.zero_add]⟩
  have rowsAt : ∀ i, i < ns.length → (ns.map (dg b 6)).getD i [] = dg b 6 (ns.getD i 0) := fun i hi => by
    rw [List.getD_eq_getElem?_getD, List.getD_eq_getElem?_getD, List.getElem?_map, List.getElem?_eq_getElem hi]; rfl
  refine wpAny_execs_cons (oft2 (rows := ns.map (dg b 6)) F1 B2 O2 (by lia) (by lia) (D := D) (ys := ys) rfl (by rw [if_neg (by decide)]; exact mk) (KC.keeps up2) gD (by lia) (by lia) (fun i v e => ?_) ?_)
  · have hi : i < ns.length := by rw [← hyl]; exact (List.getElem?_eq_some_iff.mp e).1
    obtain ⟨t2, a, r, us, c', t, rfl, i1, i2, hu, _⟩ := thAt i v ns[i] e (List.getElem?_eq_getElem hi)
    rw [rowsAt i hi]
    have e9 : ns.getD i 0 = ns[i] := by rw [List.getD_eq_getElem?_getD, List.getElem?_eq_getElem hi]; rfl
    rw [e9]
    exact ⟨⟨a, r, _, us, rfl, i1, i2, hu⟩, dg_len _ _ _⟩
  intro R h2 tk2 c2 F2 k2 gR
  rw [hyl, sort_is hb1 rowsAt hlt1 (by lia) hp hs] at gR
  have B2' := B2.step (Off.but k2 inL)
  have T2 := T1.but F1.ns k2
  have nS2 := noS F2.ns T2
  obtain ⟨zs, hzs⟩ : ∃ zs, zs = ord.map fun i => ys.getD i .none := ⟨_, rfl⟩
  rw [← hzs] at gR
  have hordl : ord.length = ns.length := by rw [hp.length_eq, List.length_range]
  have hzl : zs.length = ns.length := by rw [hzs, List.length_map, hordl]
  obtain ⟨hb₃, up3, B3, gR⟩ : ∃ hb₃, Keeps hb₂ hb₃ ∧ Bs [L, 123] hb₃ h2 ∧ hb₃.IsList R zs.toArray :=
    ⟨hideAll h2 [L, 123], B2'.up (fun _ h => h), Bs.anew _ _, isList_hide ⟨_, gR, rfl, _, rfl⟩ nS2⟩
  have O3 : Okk w mg mb hb₃ := O2.keeps up3
  have up13 : Keeps hb₁ hb₃ := fun b o e => up3 _ _ (up2 _ _ e)
  have zAt : ∀ (i : Nat) v k, zs[i]? = some v → ord[i]? = some k → k < ns.length ∧ ys[k]? = some v := by
    intro i v k e1 e2
    have hk : k < ns.length := by
      have := hp.mem_iff.mp (List.mem_of_getElem? e2)
      simpa using this
    refine ⟨hk, ?_⟩
    rw [hzs, List.getElem?_map, e2] at e1
    simp only [Option.map_some, Option.some.injEq] at e1
    rw [List.getD_eq_getElem?_getD, List.getElem?_eq_getElem (by lia)] at e1
    rw [← e1, List.getElem?_eq_getElem (by lia)]; rfl
  refine wpAny_execs_cons (oft3 (is := ord) F2 B3 hun (R := R) (lo := lo) rfl (by rw [if_neg (by decide), if_neg (by decide)]; exact mo) gR (by lia) (by lia) (fun i v k e1 e2 => ?_) (isList_keeps ho up13) hoi ?_)
  · obtain ⟨hk, e3⟩ := zAt i v k e1 e2
    obtain ⟨a, r, t1, t2, e4, _, e6⟩ := hys k v e3
    exact ⟨a, _, _, _, e4, isList_keeps e6 up3⟩
  intro h3 tk3 F3 k3
  have B3' := B3.step (Off.but k3 inL)
  have T3 := T2.but F2.ns k3
  refine wpAny_execs_cons (oft4 (K := c * (b - 1)) (by lia) F3 B3' O3 (cB.keeps up13) hb1 hb2 (ln := ln) (by rw [if_neg (by decide), if_neg (by decide)]; exact mn) (isList_keeps hn up13) hni n60 hlt1 hlt (by lia) ?_)
  intro h4 tk4 t4 F4 k4
  have B4 := B3'.step (Off.but k4 inL)
  have T4 := T3.but F3.ns k4
  obtain ⟨rz, uz, ez, iz, hz⟩ := hrows (ns.length + 1) 0 (by rw [List.getElem?_append_right (by lia), show ns.length + 1 - ns.length = 1 by lia]; rfl)
  obtain ⟨rs, us, es, is, hus⟩ := hrows ns.length ns.sum (by rw [List.getElem?_append_right (by lia), Nat.sub_self]; rfl)
  have e2 : (ns.map fun n => (n, (dg b 6 n).sum)).length = ns.length := List.length_map ..
  have sn : sN (ns.map fun n => (n, (dg b 6 n).sum)) = ns.sum := by
    unfold sN; rw [List.map_map]; exact congrArg List.sum (List.map_id ns)
  have ss : sS (ns.map fun n => (n, (dg b 6 n).sum)) = (ns.map fun n => (dg b 6 n).sum).sum := by
    unfold sS; rw [List.map_map]; rfl
  have xs : Ths hb₂ b ys (ns.map fun n => (n, (dg b 6 n).sum)) := by
    refine ⟨by rw [e2, hyl], fun i v p a e => ?_⟩
    rw [List.getElem?_map] at e
    obtain ⟨N, e', rfl⟩ := Option.map_eq_some_iff.mp e
    obtain ⟨t2, x⟩ := thAt i v N a e'
    exact ⟨_, x⟩
  have xs' : Ths hb₃ b zs (ord.map fun i => (ns.map fun n => (n, (dg b 6 n).sum)).getD i (0, 0)) := by
    refine ⟨by rw [hzl, List.length_map, hordl], fun i v p a e => ?_⟩
    rw [List.getElem?_map] at e
    obtain ⟨k, e', rfl⟩ := Option.map_eq_some_iff.mp e
    obtain ⟨hk, e3⟩ := zAt i v k a e'
    obtain ⟨r, x⟩ := (xs.keeps up3).2 k v ((ns.map fun n => (n, (dg b 6 n).sum)).getD k (0, 0)) e3 (by rw [List.getD_eq_getElem?_getD, List.getElem?_eq_getElem (by lia)]; rfl)
    exact ⟨r, x⟩
  have ps := perm_sums (ps := ns.map fun n => (n, (dg b 6 n).sum)) (ord := ord) (by rw [e2]; exact hp)
  refine wpAny_execs_cons (oft5 (N := ns.sum) (S := (ns.map fun n => (dg b 6 n).sum).sum) hdp hL0 F4 B4 O3 (BM.keeps up13) (CH.keeps up13) T4 (cB.keeps up13) (cR.keeps up13) hb1 hb2 (D := D) (R := R) (ln := ln) rfl rfl (by rw [if_neg (by decide), if_neg (by decide), if_neg (by decide)]; exact mn)
    (isList_keeps gD up3) gR (isList_keeps hr up13) (isList_keeps hn up13) hni (by lia) (rz := rz) (by rw [hrl]; exact ez) (isList_keeps iz up13) hz (xs.keeps up3) xs' (by lia) (by lia) (by lia) sn ss (ps.1.trans sn) (ps.2.trans ss) hlt hsum ?_)
  intro T h5 tk5 v1 v2 v3 v4 F5 k5 T5 gT x1 x2 x3 x4
  have nS5 := noS F5.ns T5
  have B5 := B4.step k5
  obtain ⟨hb₄, up4, B5, gT, x1, x2, x3, x4⟩ : ∃ hb₄, Keeps hb₃ hb₄ ∧ Bs [L, 123] hb₄ h5 ∧ hb₄.IsList T [v1, v2, v3, v4].toArray ∧ Th hb₄ b ns.sum (ns.map fun n => (dg b 6 n).sum).sum [] v1 ∧ Th hb₄ b ns.sum (ns.map fun n => (dg b 6 n).sum).sum [] v2 ∧ Th hb₄ b ns.sum (ns.map fun n => (dg b 6 n).sum).sum [] v3 ∧ Th hb₄ b ns.sum (ns.map fun n => (dg b 6 n).sum).sum [] v4 :=
    ⟨hideAll h5 [L, 123], B5.up (fun _ h => h), Bs.anew _ _, isList_hide gT nS5, x1.hide nS5, x2.hide nS5, x3.hide nS5, x4.hide nS5⟩
  have up14 : Keeps hb₁ hb₄ := fun b o e => up4 _ _ (up13 _ _ e)
  refine wpAny_execs_cons (oft6 (c := c) (K := c * (b - 1)) hun F5 B5 (cB.keeps up14) (cR.keeps up14) hb1 hb2 (T := T) (lr := lr) (rs := rs) rfl rfl gT x1 x2 x3 x4 (isList_keeps hr up14) (by lia) (by rw [hrl]; exact es) (isList_keeps is up14) hus hc rfl ?_)
  intro h6 tk6 F6 k6
  refine hQ h6 tk6 ?_ (T5.but F5.ns k6)
  exact (((((Off.but k1 inL).trans (Off.but k2 inL)).trans (Off.but k3 inL)).trans (Off.but k4 inL)).trans k5).trans (Off.but k6 inL)
end Mine
namespace Mine
open PySem PySem.W PySem.W.X PyProof.Rows PySem.Calls
set_option maxRecDepth 100000
set_option maxHeartbeats 400000
local macro_rules | `(tactic| walk_at "mine enterC") => `(tactic| (
  refine wpAny_call ?_
  k_dflt (refine' enterKC ?k1 ?k2 ?k3 ?k4 ?k5 ?k6 ?k7 ?k8 ?k9 ?k10 ?_ ?c2 ?c3 ?c4; (case k1 => k_asm); (case k2 => exact TopRead.nolimit (by assumption)); (case k3 => k_is); (case k4 => k_is); (case k5 => (dsimp only [recursionLimit]; lia)); (case k6 => exact BindsTo.of_eq rfl); (case k7 => exact rfl); (case k8 => decide +kernel); (case k9 => k_asm); (case k10 => k_asm); (case c2 => exact rfl); (case c3 => exact rfl); (case c4 => exact rfl); k_whole)))
theorem often (w : World) (mg mb : Str → Option Value) (s : Shared) (dp un : Nat) (fr : Option (List Env)) (gd : Option (List Code)) (hdp : dp < 390) (hun : un < 8900) (Q E : Value → Shared → Prop)
    (hb : Heap) (kb : ∀ b o, hb.get? b = some o → s.heap.get? b = some o) (szb : hb.objs.size ≤ s.heap.objs.size) (nb : hb.get? 123 = none) (O : Okk w mg mb hb) (BM : hb.BuiltinsAt mg 123) (CH : CodeHd hb 125 123) (TB : Tab s.heap qLam)
    (b : Nat) (hb1 : 2 ≤ b) (hb2 : b ≤ 64) (t : Tok) (ln lo lr C ce : Addr) (KC : KCls hb C ce) (nv ov rv : List Value) (ns ord : List Nat)
    (hn : hb.IsList ln nv.toArray) (hni : NatsAre nv ns) (n2 : 2 ≤ ns.length) (n60 : ns.length < 60) (ho : hb.IsList lo ov.toArray) (hoi : NatsAre ov ord) (hr : hb.IsList lr rv.toArray) (hrl : rv.length = ns.length + 2)
    (hrows : ∀ (i N : Nat), (ns ++ [ns.sum, 0])[i]? = some N → ∃ r us, rv[i]? = some (Value.ref r) ∧ hb.IsList r (List.toArray us) ∧ NatsAre us (dg b 6 N))
    (hp : ord.Perm (List.range ns.length)) (hs : ord.Pairwise (lexR ns)) (hlt : ns.sum < b ^ 6) (hsum : ns.sum < 16777216)
    (hQ : ∀ h' tk, Heap.ExtBut 123 s.heap h' → Tab h' qLam → Q (.bool true) { s with heap := h', toks := tk }) :
    wpAny (model PySem.Challenge.rw_oh0008_01.row.prog w) { handled := none, depth := dp, frames := fr, guards := gd, units := un } (call (.ref 126) [.int (b : Int) t, .ref ln, .ref lo, .ref C, .ref lr]) Q E s := by
  have X0 : (hh.heap_1 w.params).In s.heap := fun a o e => kb a o (O.X a o e)
  have T0 := O.T.keeps kb
  revert X0; k_fill; intro X0
  walk_at "mine enterC"
  intro L h₁ tk cells hL F N Y hk
  k_cells Y
  rename_i oR oB dR dB
  have cR : h₁.IsCell (L + 1 + 1) (some (.ref lr)) := ⟨_, (N _ (.head _)).1, dR⟩
  have cB : h₁.IsCell (L + 1) (some (.int (b : Int) t)) := ⟨_, (N _ (.tail _ (.head _))).1, dB⟩
  have l123 : 123 < L := by
    obtain ⟨ps, g, _⟩ := TB.it
    rw [hL]; exact Heap.lt_size g
  have TB1 := TB.keeps hk
  obtain ⟨hb₁, k₁, B, cR, cB⟩ : ∃ hb₁, Keeps hb hb₁ ∧ Bs [L, 123] hb₁ h₁ ∧ hb₁.IsCell (L + 1 + 1) (some (.ref lr)) ∧ hb₁.IsCell (L + 1) (some (.int (b : Int) t)) := by
    refine ⟨hideAll h₁ [L, 123], fun a o e => hideAll_get _ (F.keep a o e) ?_, Bs.anew _ _, isCell_hide cR ?_, isCell_hide cB ?_⟩
    · intro q
      simp only [List.mem_cons, List.not_mem_nil, or_false] at q
      rcases q with rfl | rfl
      · rw [Heap.get?_none_of_le F.above] at e; cases e
      · rw [nb] at e; cases e
    · exact nin2 (Nat.lt_succ_of_lt (Nat.lt_succ_self L)) (Nat.lt_succ_of_lt (Nat.lt_succ_of_lt l123))
    · exact nin2 (Nat.lt_succ_self L) (Nat.lt_succ_of_lt l123)
  refine oftAll (hb₁ := hb₁) (s := ⟨h₁, s.gens, s.drawn, tk, s.os⟩) (show dp + 1 < 400 by lia) (show un + 3 < 8990 by lia) nb F B (O.keeps k₁) (BM.keeps k₁) (CH.keeps k₁) TB1 cB cR l123 (KC.keeps k₁) hb1 hb2 rfl rfl rfl (isList_keeps hn k₁) hni n2 n60 (isList_keeps ho k₁) hoi (isList_keeps hr k₁) hrl
    (fun i N e => let ⟨r, us, e1, e2, e3⟩ := hrows i N e; ⟨r, us, e1, isList_keeps e2 k₁, e3⟩) hp hs hlt hsum ?_
  intro h' tk' ko T'
  refine hQ h' tk' (fun a o n e => ko a o ?_ (hk a o e)) T'
  intro q
  simp only [List.mem_cons, List.not_mem_nil, or_false] at q
  rcases q with rfl | rfl
  · rw [hL] at e; exact absurd (Heap.lt_size e) (Nat.lt_irrefl _)
  · exact n rfl
end Mine
namespace Mine
open PySem PySem.W PySem.W.X PyProof.Rows PySem.Calls
set_option maxRecDepth 100000
set_option maxHeartbeats 400000
section
variable {prog : Program} {w : World} {A : Around} {E : Value → Shared → Prop} {s : Shared} {env : Env}
theorem dictComp {kx vx iter : Expr} {x : Str} {px : Pos} {scope : Scope} {cl : List (Str × Addr)} {pos : Pos} {Q : Value → Shared → Prop} (FK : Value → Int → Prop) (FV : Value → Value → Prop)
    (hclos : closureFor scope env = pure cl) (hcell : ∀ y ∈ scope.names, y.2 ≠ .cell) (hkind : scope.kind = .function) (hnames : ∀ y ∈ scope.names, y.2 = .local → scope.names.lookup y.1 = some .local) (hx : scope.names.lookup x = some .local)
    (h : wpAny (model prog w) A (eval iter env) (fun xv s₁ => wpAny (model prog w) A (pyIter xv) (fun it s₂ => ∃ I fp wr n P St, it = .ref I ∧ Walks prog w A I fp wr n P St ∧ n ≤ sizeLine ∧ St 0 s₂.heap ∧ (∀ b ∈ fp, b < s₂.heap.objs.size) ∧
      QuietOnCD (intKind prog w) A env scope cl x [] kx vx wr P (fun _ => true) FK FV s₂ ∧
      (∀ h' tk kvs (vs : List Value), h'.DictOf (intKind prog w) s₂.heap.objs.size kvs → vs.length = n → (∀ j v, vs[j]? = some v → P j v) → StoredAll FK FV vs kvs →
        (∀ b o, b ∉ wr → s₂.heap.get? b = some o → h'.get? b = some o) → Q (.ref s₂.heap.objs.size) { s₂ with heap := h', toks := tk })) E s₁) E s)
    (hs : ∀ x, foldedSetIterable iter env x = pure x := by intro _; rfl) :
    wpAny (model prog w) A (eval (.DictComp kx vx [⟨.Name x px, iter, [], 0⟩] scope pos) env) Q E s := by
  rw [arm_eval_DictComp]
  refine wpAny_comprehension_free (use := none) rfl hs hclos hkind hnames (wpAny_mono h (fun xv s₁ h₁ => wpAny_mono h₁ (fun it s₂ h₂ => ?_) fun _ _ e => e) fun _ _ e => e)
  obtain ⟨I, fp, wr, n, P, St, rfl, W, hsz, hst, hfp, q, fin⟩ := h₂
  refine wpAny_newObj_type (wpAny_newFunctionEnv hcell (by intro y hy; simp at hy) (fun h₁ nsC sbC => ?_) hkind)
  dsimp only at nsC sbC ⊢
  have dN : (s₂.heap.push { cls := .type "dict", dict := none, data := .dict #[] }).DictOf (intKind prog w) s₂.heap.objs.size [] := Heap.DictOf.new s₂.heap
  have up : ∀ b o, s₂.heap.get? b = some o → (s₂.heap.push { cls := .type "dict", dict := none, data := .dict #[] }).get? b = some o := fun b o e => Heap.get?_push_of_some _ e
  have sz : (s₂.heap.push { cls := .type "dict", dict := none, data := .dict #[] }).objs.size = s₂.heap.objs.size + 1 := Heap.size_push ..
  generalize s₂.heap.push { cls := .type "dict", dict := none, data := .dict #[] } = H at *
  have ne : s₂.heap.objs.size ≠ H.objs.size := by rw [sz]; exact Nat.ne_of_lt (Nat.lt_succ_self _)
  have lo : ∀ b, b < s₂.heap.objs.size → b ≠ H.objs.size ∧ b ≠ s₂.heap.objs.size := fun b hb => ⟨by rw [sz]; exact Nat.ne_of_lt (Nat.lt_succ_of_lt hb), Nat.ne_of_lt hb⟩
  have keep : ∀ b o, b ≠ H.objs.size → H.get? b = some o → h₁.get? b = some o := fun b o n e => sbC.extBut b o n (Heap.get?_push_of_some _ e)
  have old : ∀ b o, s₂.heap.get? b = some o → h₁.get? b = some o := fun b o e => keep b o (lo b (Heap.lt_size e)).1 (up b o e)
  have st1 : St 0 h₁ := W.frame _ _ _ hst fun b _ o e => old b o e
  have off : ∀ b o (g : Heap), (∀ b o, b ≠ H.objs.size → b ∉ wr → b ≠ s₂.heap.objs.size → h₁.get? b = some o → g.get? b = some o) → b ∉ wr → s₂.heap.get? b = some o → g.get? b = some o :=
    fun b o g hk nb e => hk b o (lo b (Heap.lt_size e)).1 nb (lo b (Heap.lt_size e)).2 (old b o e)
  have fresh : s₂.heap.get? H.objs.size = none := Heap.get?_none_of_le (by rw [sz]; exact Nat.le_succ _)
  have loop : codeAny (model prog w) A (.compLoop (.DictComp kx vx [⟨.Name x px, iter, [], 0⟩] scope pos) 0 (.ref I) (.ref s₂.heap.objs.size) (compEnvC scope cl H.objs.size env))
      (compPost (model prog w) A E none Q (.ref s₂.heap.objs.size) H.objs.size) { s₂ with heap := h₁, toks := s₂.toks + ([] : List (Str × Value)).length } := by
    refine codeAny_compLoop_walkD (hsz := hsz) (knd := intKind prog w) (cenv := compEnvC scope cl H.objs.size env) W (fun _ => true) FK FV (lookup_relabel_local hx) (by simp [compEnvC, relabel, hkind]) ne (fun m => absurd (hfp _ m) (Nat.lt_irrefl _))
      (fun m => absurd (hfp _ m) (by rw [show (compEnvC scope cl H.objs.size env).locals = H.objs.size from rfl, sz]; exact Nat.not_lt.mpr (Nat.le_succ _))) st1 (dN.at fun o e => keep _ _ ne e) nsC
      (fun i v s₃ m₃ hv hn hm hk => q.tests _ i v s₃ m₃ _ hv hn hm fun b o nb e => off b o _ hk nb e) (fun i v s₃ m₃ hv hp hn hm hk => q.key _ i v s₃ m₃ _ hv hp hn hm fun b o nb e => off b o _ hk nb e)
      (fun i v s₃ m₃ hv hp hn hm hk => q.val _ i v s₃ m₃ _ hv hp hn hm fun b o nb e => off b o _ hk nb e) fun h' tk m' kvs vs hn ha hlen hP hF hk => ?_
    rw [List.filter_eq_self.mpr (fun _ _ => rfl)] at hF
    refine ⟨m', hn, fun h'' hs'' => fin h'' tk kvs vs (ha.extBut hs''.extBut ne) hlen hP hF fun b o nb e => hs''.extBut b o ?_ (off b o _ hk nb e)⟩
    rintro rfl
    rw [fresh] at e; cases e
  exact codeAny_compStart_dict loop (W.self 0 _ _ _ st1 loop)
end
theorem valueAt_stored (kvs : List (Int × Value)) (k k' : Int) (y : Value) : valueAt (stored kvs k y) k' = if k' = k then some y else valueAt kvs k' := by
  unfold valueAt stored
  by_cases h : kvs.any (fun kv => kv.1 = k) = true
  · rw [if_pos h]
    induction kvs with
    | nil => simp at h
    | cons kv r ih =>
      rw [List.map_cons]
      by_cases e : kv.1 = k
      · rw [if_pos e]
        by_cases e' : k' = k
        · subst e'; simp [e]
        · rw [if_neg e', List.find?_cons_of_neg (by simp [e]; exact fun z => e' z.symm), List.find?_cons_of_neg (by simp [e]; exact fun z => e' z.symm)]
          by_cases h2 : r.any (fun kv => kv.1 = k) = true
          · rw [ih h2, if_neg e']
          · congr 2
            refine (List.map_congr_left fun x hx => ?_).trans (List.map_id r)
            have : x.1 ≠ k := fun z => h2 (List.any_eq_true.mpr ⟨x, hx, by simp [z]⟩)
            rw [if_neg this]; rfl
      · rw [if_neg e]
        have h2 : r.any (fun kv => kv.1 = k) = true := by simpa [e] using h
        by_cases e' : kv.1 = k'
        · have : k' ≠ k := fun z => e (e'.trans z)
          rw [if_neg this]; simp [e']
        · rw [List.find?_cons_of_neg (by simp [e']), ih h2, List.find?_cons_of_neg (by simp [e'])]
  · rw [if_neg h, List.find?_append]
    have hn : ∀ x ∈ kvs, x.1 ≠ k := fun x hx z => h (List.any_eq_true.mpr ⟨x, hx, by simp [z]⟩)
    by_cases e' : k' = k
    · subst e'
      have : kvs.find? (fun kv => kv.1 = k') = none := List.find?_eq_none.mpr fun x hx => by simpa using hn x hx
      simp [this]
    · rw [if_neg e']
      cases kvs.find? (fun kv => decide (kv.1 = k')) with
      | some a => rfl
      | none => have z : ¬ k = k' := fun z => e' z.symm
                simp [z]
end Mine
namespace Mine
open PySem PySem.W PySem.W.X PyProof.Rows PySem.Calls
set_option maxRecDepth 100000
set_option maxHeartbeats 400000
theorem mapOf_off {prog : Program} {w : World} {h h' : Heap} {P c : Addr} {f : Int → Option Value} (x : h.MapOf (intKind prog w) P f) (sb : Heap.SameBut c h h') (n : P ≠ c) : h'.MapOf (intKind prog w) P f := x.sameBut sb n
def lB : List Stmt := (fnPart 24).1
def lS : Scope := (fnPart 24).2
def lX (i : Nat) : Stmt := lB.getD i (.Pass ⟨0, 0, 0, 0⟩)
abbrev lE (L f : Addr) (cd : Value) : Env := envOfC (Str.ofString "law") lS L f cd
def alph : List UInt8 := [65, 66, 67, 68, 69, 70, 71, 72, 73, 74, 75, 76, 77, 78, 79, 80, 81, 82, 83, 84, 85, 86, 87, 88, 89, 90, 97, 98, 99, 100, 101, 102, 103, 104, 105, 106, 107, 108, 109, 110, 111, 112, 113, 114, 115, 116, 117, 118, 119, 120, 121, 122, 48, 49, 50, 51, 52, 53, 54, 55, 56, 57, 45, 95]
def alphN (i : Nat) : Int := (((alph.getD i 0).toNat : Nat) : Int)
theorem alphN_inj : ∀ i j : Fin 64, alphN i.val = alphN j.val → i = j := by decide +kernel
theorem stored_all {FK : Value → Int → Prop} {FV : Value → Value → Prop} (hFK : ∀ (v : Value) (k : Int) (j : Nat) t, FK v k → v = .int (j : Int) t → k = alphN j) (hFV : ∀ v y, FV v y → y = v) :
    ∀ {vs : List Value} {kvs : List (Int × Value)}, StoredAll FK FV vs kvs → vs.length ≤ 64 → (∀ (j : Nat) v, vs[j]? = some v → ∃ t, v = .int (j : Int) t) → ∀ j, j < vs.length → ∃ t, valueAt kvs (alphN j) = some (.int (j : Int) t) := by
  intro vs kvs h
  induction h with
  | nil => intro _ _ j hj; exact absurd hj (Nat.not_lt_zero _)
  | @snoc l kvs v k y _ hk hy ih =>
    intro hl hP j hj
    rw [List.length_append, List.length_singleton] at hl hj
    obtain ⟨t, rfl⟩ := hP l.length v (by rw [List.getElem?_append_right (Nat.le_refl _), Nat.sub_self]; rfl)
    have ek := hFK _ k l.length t hk rfl
    have ey := hFV _ _ hy
    subst ek ey
    rw [valueAt_stored]
    by_cases e : j = l.length
    · subst e; rw [if_pos rfl]; exact ⟨t, rfl⟩
    · have : alphN j ≠ alphN l.length := fun z => e (congrArg Fin.val (alphN_inj ⟨j, by lia⟩ ⟨l.length, by lia⟩ z))
      rw [if_neg this]
      exact ih (by lia) (fun i u hi => hP i u (by rw [List.getElem?_append_left (List.getElem?_eq_some_iff.mp hi).1]; exact hi)) j (by lia)
theorem walks_lt {prog : Program} {w : World} {A : Around} {I : Addr} {fp wr : List Addr} {n : Nat} {P : Nat → Value → Prop} {St : Nat → Heap → Prop} (W : Walks prog w A I fp wr n P St) : Walks prog w A I fp wr n (fun i v => i < n ∧ P i v) St :=
  { W with item := fun i s Q E hi st hQ => W.item i s Q E hi st fun v h tk hp => hQ v h tk ⟨hi, hp⟩ }
section
variable {w : World} {mg mb : Str → Option Value} {s : Shared} {dp un : Nat} {fr : Option (List Env)} {gd : Option (List Code)} {Q : Flow → Shared → Prop} {E : Value → Shared → Prop} {L f : Addr} {cd : Value} {hb : Heap} {m : Str → Option Value}
theorem lw0 {v : Option Value} (hc : s.heap.IsCell (L + 1) v) (hQ : ∀ h' tk t, h'.IsCell (L + 1) (some (.bytes alph.toArray t)) → Heap.SameBut (L + 1) s.heap h' → Q .next { s with heap := h', toks := tk }) :
    wpAny (model pr w) (oA dp un fr gd) (exec (lX 0) (lE L f cd)) Q E s :=
  wpAny_Assign_Name (Constant_bytes (wpAny_storeName_cell rfl rfl rfl hc fun h' hc' sb => hQ h' _ _ hc' sb))
theorem lw1 {v : Option Value} {t : Tok} (O : Okk w mg mb s.heap) (hA : s.heap.IsCell (L + 1) (some (.bytes alph.toArray t))) (hc : s.heap.IsCell (L + 1 + 1 + 1) v)
    (hQ : ∀ P h' tk f, s.heap.get? P = none → (P == sysModules) = false → h'.MapOf (intKind pr w) P f → (∀ j, j < 64 → ∃ t, f (alphN j) = some (.int (j : Int) t)) → h'.IsCell (L + 1 + 1 + 1) (some (.ref P)) → Heap.ExtBut (L + 1 + 1 + 1) s.heap h' → Q .next { s with heap := h', toks := tk }) :
    wpAny (model pr w) (oA dp un fr gd) (exec (lX 1) (lE L f cd)) Q E s := by
  refine wpAny_Assign_Name (dictComp (FK := fun v k => ∃ (j : Nat) (t : Tok), j < 64 ∧ v = .int (j : Int) t ∧ k = alphN j) (FV := fun v y => y = v) rfl (by decide) rfl (by decide) rfl ?_)
  refine Call_ (nmB O bb_range (nn_range _) rfl rfl rfl rfl ?_)
  refine PyProof.Rows.callWith_type1 (args_cons (wpAny_Constant_int (args_nil (call_range_1 ?_))))
  have szr : Builtin.Range.rangeSize 0 64 1 = 64 := by rw [rangeSize_one]; decide
  dsimp only
  generalize hg : s.heap.push _ = h0
  have k0 : Mine.Keeps s.heap h0 := fun _ _ e => hg ▸ Heap.get?_push_of_some _ e
  obtain ⟨t1, t2, t3, hr⟩ : ∃ t1 t2 t3, IsRange h0 s.heap.objs.size 0 64 1 t1 t2 t3 := ⟨_, _, _, hg ▸ IsRange.new ..⟩
  have sz0 : s.heap.objs.size ≤ h0.objs.size := by rw [← hg, Heap.size_push]; exact Nat.le_succ _
  have big : 131 < s.heap.objs.size := Heap.lt_size (O.X 131 _ rfl)
  refine wpAny_pyIter_range hr (small_one (by decide) (by decide) (by decide) (by decide)) ?_
  rw [szr]
  dsimp only
  generalize hg1 : h0.push _ = h1
  have k1 : Mine.Keeps s.heap h1 := fun _ _ e => hg1 ▸ Heap.get?_push_of_some _ (k0 _ _ e)
  have sz1 : h1.objs.size = h0.objs.size + 1 := by rw [← hg1, Heap.size_push]
  have gI : IsRangeIter h1 h0.objs.size 0 64 1 := by rw [← hg1]; exact Heap.get?_push_size _ rfl
  have nI : s.heap.get? h0.objs.size = none := Heap.get?_none_of_le sz0
  refine ⟨_, _, _, 64, _, _, rfl, walks_lt (Walks.range rfl h0.objs.size 0 1 64), by rw [sizeLine_eq]; exact (by decide), gI, fun b hm => ?_, ⟨?_, ?_, ?_⟩, ?_⟩
  · rw [List.mem_singleton.mp hm]; show h0.objs.size < h1.objs.size; rw [sz1]; exact Nat.lt_succ_self _
  · intro C i v s₃ m₃ E' hP hn hm hk
    exact wpAny_pure ⟨rfl, s₃.heap, s₃.toks, rfl, fun _ _ e => e⟩
  · rintro C i v s₃ m₃ E' ⟨hi, tv, rfl⟩ hp hn hm hk
    have k3 : Mine.Keeps s.heap s₃.heap := fun b o e => hk b o (fun q => by rw [List.mem_singleton.mp q, nI] at e; cases e) (k1 _ _ e)
    refine Subscript_ (wpAny_Name (wpAny_loadName_cell rfl rfl rfl (hA.keeps k3) (wpAny_Name (wpAny_loadName_local rfl rfl hn hm ?_))))
    have e1 : (0 : Int) + (i : Int) * 1 = (i : Int) := by lia
    rw [e1]
    refine KBy.item_N (x := alph) (i := (i : Int)) (by decide) (Int.natCast_nonneg i) (show (i : Int) < ((64 : Nat) : Int) by lia) ⟨⟨alphN i, ?_, i, tv, hi, rfl, rfl⟩, s₃.heap, _, rfl, fun _ _ e => e⟩
    rw [Int.toNat_natCast]
    exact intKind_is ..
  · intro C i v s₃ m₃ E' hP hp hn hm hk
    exact wpAny_Name (wpAny_loadName_local rfl rfl hn hm ⟨rfl, s₃.heap, s₃.toks, rfl, fun _ _ e => e⟩)
  · intro h' tk kvs vs hD hlen hP hS hk
    have k3 : Mine.Keeps s.heap h' := fun b o e => hk b o (fun q => by rw [List.mem_singleton.mp q, nI] at e; cases e) (k1 _ _ e)
    refine wpAny_storeName_cell rfl rfl rfl (hc.keeps k3) fun h2 hc2 sb => ?_
    have nP : s.heap.get? h1.objs.size = none := Heap.get?_none_of_le (by rw [sz1]; exact Nat.le_trans sz0 (Nat.le_succ _))
    have neP : h1.objs.size ≠ L + 1 + 1 + 1 := by
      intro q
      obtain ⟨_, e, _⟩ := hc
      rw [← q, nP] at e; cases e
    refine hQ h1.objs.size h2 _ _ nP ?_ (mapOf_off hD.mapOf sb neP) (fun j hj => ?_) hc2 (fun b o n e => sb.extBut b o n (k3 _ _ e))
    · have : (1 : Nat) ≠ h1.objs.size := by lia
      exact beq_eq_false_iff_ne.mpr (Ne.symm this)
    · refine stored_all (FK := fun v k => ∃ (j : Nat) (t : Tok), j < 64 ∧ v = .int (j : Int) t ∧ k = alphN j) (FV := fun v y => y = v) ?_ (fun _ _ e => e) hS (by lia) (fun j v e => ?_) j (by lia)
      · rintro v k j t ⟨j', t', _, rfl, rfl⟩ e
        have : (j' : Int) = (j : Int) := (Value.int.inj e).1
        rw [Int.ofNat_inj.mp this]
      · obtain ⟨_, t, e'⟩ := hP j v e
        exact ⟨t, by rw [e']; congr 1; lia⟩
end
end Mine
namespace Mine
open PySem PySem.W PySem.W.X PyProof.Rows PySem.Calls
set_option maxRecDepth 100000
set_option maxHeartbeats 400000
theorem isCell_off {h h' : Heap} {hid : List Addr} {a : Addr} {v : Option Value} (x : h.IsCell a v) (n : a ∉ hid) (k : Off hid h h') : h'.IsCell a v := by
  obtain ⟨o, e, hd⟩ := x
  exact ⟨o, k _ _ n e, hd⟩
theorem mapOf_off2 {prog : Program} {w : World} {h h' : Heap} {hid : List Addr} {P : Addr} {f : Int → Option Value} (x : h.MapOf (intKind prog w) P f) (n : P ∉ hid) (k : Off hid h h') : h'.MapOf (intKind prog w) P f :=
  let ⟨o, es, ep, e, r⟩ := x; ⟨o, es, ep, k _ _ n e, r⟩
section
variable {prog : Program} {w : World} {A : Around} {E : Value → Shared → Prop} {s : Shared} {env : Env} {h₀ : Heap} {L : Addr} {m : Str → Option Value}
theorem addL {a b : Addr} {xs ys : List Value} {ns ms : List Int} {Q : Value → Shared → Prop} (F : Fr h₀ L s.heap m) (ha : s.heap.IsList a xs.toArray) (hb : s.heap.IsList b ys.toArray) (hi : IntsAre xs ns) (hj : IntsAre ys ms) (hz : ns.length + ms.length ≤ sizeLine)
    (h : ∀ D h', Fr h₀ L h' m → KeepsBut L s.heap h' → s.heap.get? D = none → h'.get? D = some { cls := .type "list", data := .seq (xs ++ ys).toArray } → Q (.ref D) { s with heap := h' }) : wpAny (model prog w) A (binaryOp .Add (.ref a) (.ref b)) Q E s :=
  add_lists_ints (hsz := hz) F all_news ha hb hi hj fun h' F' N' _ => h _ h' F' (all_keeps F'.keep (fun p hp => (N' p (.tail _ hp)).1) (fun _ h => h) F.keep) (Heap.get?_none_of_le (Nat.le_refl _)) (N' _ (.head _)).1
theorem sliceUp4 {value up : Expr} {p pos : Pos} {vs : List Value} {Q : Value → Shared → Prop}
    (h : wpAny (model prog w) A (eval value env) (fun o s₁ => wpAny (model prog w) A (eval up env) (fun vu s₃ =>
      ∃ l k t, o = .ref l ∧ s₃.heap.IsList l vs.toArray ∧ vs.length ≤ sizeLine ∧ vu = .int ((k : Nat) : Int) t ∧
        ∀ D h', Keeps s₃.heap h' → s₃.heap.get? D = none → h'.get? D = some { cls := .type "list", data := .seq (vs.take k).toArray } → Q (.ref D) { s₃ with heap := h' }) E s₁) E s)
    (ht : ∀ o r, letTemporaryGo value o r = pure () := by intro _ _; rfl) :
    wpAny (model prog w) A (eval (.Subscript value (.Slice none (some up) none p) pos) env) Q E s := by
  refine wpAny_Subscript_list_slice (wpAny_mono h (fun o s₁ h₁ => evalPart_none_step (evalPart_some_step (wpAny_mono h₁ (fun vu s₃ h₃ => ?_) fun _ _ e => e))) fun _ _ e => e) ht
  obtain ⟨l, k, t, rfl, hl, hz, rfl, hq⟩ := h₃
  refine ⟨l, vs.toArray, none, some (k : Int), rfl, hl, by rw [List.size_toArray]; exact hz, .none, .int _ _, ?_⟩
  rw [slicePick_upto']
  exact hq _ _ (push2 _ _) (Heap.get?_none_of_le (Nat.le_succ _)) (push2_at _ _ rfl)
end
def modN (x : Int) : Nat := (x % 1048576).toNat
theorem modN_lt (x : Int) : modN x < 1048576 := by unfold modN; lia
theorem modN_eq (x : Int) : x.fmod 1048576 = ((modN x : Nat) : Int) := by
  rw [Int.fmod_eq_emod_of_nonneg _ (by decide)]; unfold modN; lia
def numsS (is : List Int) : List Nat := (is.take 4).map modN ++ [1048575, 1, 61680, 4095, 65]
section
variable {w : World} {mg mb : Str → Option Value} {s : Shared} {dp un : Nat} {fr : Option (List Env)} {gd : Option (List Code)} {Q : Flow → Shared → Prop} {E : Value → Shared → Prop} {L f : Addr} {cd : Value} {hb : Heap} {m : Str → Option Value}
theorem lw2 {v : Option Value} {lsc : Addr} {vs : List Value} {is : List Int} (F : Fr hb L s.heap m) (ms : m (Str.ofString "script") = some (.ref lsc)) (hl : s.heap.IsList lsc vs.toArray) (hi : IntsAre vs is) (hlen : vs.length ≤ 63) (hc : s.heap.IsCell (L + 1 + 1 + 1 + 1) v) (hcn : hb.get? (L + 1 + 1 + 1 + 1) = none)
    (hQ : ∀ D h' tk zs, Fr hb L h' m → h'.IsList D (List.toArray zs) → NatsAre zs (numsS is) → s.heap.get? D = none → h'.IsCell (L + 1 + 1 + 1 + 1) (some (.ref D)) → Off [L, L + 1 + 1 + 1 + 1] s.heap h' → Q .next { s with heap := h', toks := tk }) :
    wpAny (model pr w) (oA dp un fr gd) (exec (lX 2) (lE L f cd)) Q E s := by
  have nc : L + 1 + 1 + 1 + 1 ≠ L := Nat.ne_of_gt (Nat.lt_succ_of_lt (Nat.lt_succ_of_lt (Nat.lt_succ_of_lt (Nat.lt_succ_self L))))
  refine wpAny_Assign_Name (wpAny_BinOp (compE rfl F rfl (by decide) rfl (by decide) rfl ?_))
  refine sliceUp4 (vs := vs) (nmL F (v := .ref lsc) ms (wpAny_Constant_int ⟨lsc, 4, _, rfl, hl, by rw [sizeLine_eq]; lia, rfl, fun D0 h0 k0 n0 g0 => ?_⟩))
  have F0 := fr_keeps F k0
  refine .inl ⟨D0, (vs.take 4).toArray, rfl, F0, ⟨_, g0, rfl, _, rfl⟩, by rw [List.size_toArray, sizeLine_eq, List.length_take]; lia, ?_⟩
  have hi4 := IntsAre.take hi 4
  have hl4 : (vs.take 4).length = (is.take 4).length := IntsAre.length hi4
  refine ⟨fun i ys new => NatsAre ys (((is.take 4).take i).map modN), .nil, ?_, ?_⟩
  · rintro i ys new v C' m₂ h tk E' hi' hJ hP hNs hx kB hnsL hnew
    obtain ⟨k, u, rfl, hk⟩ := intsAre_get hi4 (by simpa using hP)
    refine wpAny_BinOp (wpAny_Name (wpAny_loadName_local rfl rfl hNs hx (wpAny_Constant_int (modE (by decide) (modN_eq k) ?_))))
    refine ⟨h, _, [], rfl, fun _ _ e => e, fun _ h => (nomatch h), ?_⟩
    show NatsAre _ (((is.take 4).take (i + 1)).map modN)
    rw [take_snoc hk, List.map_append]
    exact natsAre_snoc hJ _ _
  · rintro ys new hJ D1 h1 tk1 k1 F1 n1 g1 gN
    rw [List.size_toArray, hl4, List.take_length] at hJ
    dsimp only
    refine listE (args_cons (wpAny_Constant_int (args_cons (wpAny_Constant_int (args_cons (wpAny_Constant_int (args_cons (wpAny_Constant_int (args_cons (wpAny_Constant_int (args_nil ⟨by rw [sizeLine_eq]; exact (by decide : 5 ≤ 16777216), fun D2 h2 k2 n2 g2 => ?_⟩)))))))))))
    have F2 := fr_keeps F1 k2
    refine addL F2 ⟨_, k2 _ _ g1, rfl, _, rfl⟩ ⟨_, g2, rfl, _, rfl⟩ hJ (.cons _ _ (.cons _ _ (.cons _ _ (.cons _ _ (.cons _ _ .nil))))) ?_ fun D3 h3 F3 k3 n3 g3 => ?_
    · rw [List.length_map, List.length_map, List.length_take, sizeLine_eq]; simp; lia
    have kk : KeepsBut L s.heap h3 := fun b o n e => k3 b o n (k2 _ _ (k1 b o n (k0 _ _ e)))
    refine wpAny_storeName_cell rfl rfl rfl (isCell_off (hid := [L]) hc (by simpa using nc) (Off.but kk (.head _))) fun h4 hc4 sb => ?_
    have n30 : s.heap.get? D3 = none := by
      cases q : s.heap.get? D3 with
      | none => rfl
      | some o =>
        by_cases e : D3 = L
        · subst e
          obtain ⟨_, _, _, e', _⟩ := F2.ns
          rw [n3] at e'; cases e'
        · have := k2 _ _ (k1 _ _ e (k0 _ _ q)); rw [n3] at this; cases this
    have nD : D3 ≠ L + 1 + 1 + 1 + 1 := by
      rintro rfl
      obtain ⟨_, e, _⟩ := hc
      rw [n30] at e; cases e
    refine hQ D3 h4 _ _ (F3.change sb nc hcn) ⟨_, (sb.2 _ nD).trans g3, rfl, _, rfl⟩ ?_ n30 hc4 ((Off.but kk (.head _)).trans (Off.same sb (.tail _ (.head _))))
    unfold numsS NatsAre
    rw [List.map_append]
    exact IntsAre.append hJ (.cons _ _ (.cons _ _ (.cons _ _ (.cons _ _ (.cons _ _ .nil)))))
theorem lw3 (F : Fr hb L s.heap m) (hQ : ∀ D h' tk, Fr hb L h' (fun z => if z = Str.ofString "order" then some (.ref D) else m z) → h'.get? D = some { cls := .type "list", data := .seq #[] } → s.heap.get? D = none → KeepsBut L s.heap h' → Q .next { s with heap := h', toks := tk }) :
    wpAny (model pr w) (oA dp un fr gd) (exec (lX 3) (lE L f cd)) Q E s := by
  refine wpAny_Assign_Name (listE (args_nil ⟨by rw [sizeLine_eq]; exact (by decide : 0 ≤ 16777216), fun D h1 k1 n1 g1 => ?_⟩))
  have F1 := fr_keeps F k1
  refine wpAny_storeName_local rfl F1.ns (fun h2 n2 sb => ?_) rfl
  have nD : D ≠ L := by
    rintro rfl
    obtain ⟨_, _, _, e, _⟩ := F.ns
    rw [n1] at e; cases e
  exact hQ D h2 _ (fr_store F1 n2 sb) ((sb.2 D nD).trans g1) n1 fun b o n e => (sb.2 b n).trans (k1 _ _ e)
end
end Mine
namespace Mine
open PySem PySem.W PySem.W.X PyProof.Rows PySem.Calls
set_option maxRecDepth 100000
set_option maxHeartbeats 400000
def cntF (ns : List Nat) (o : List Nat) (i : Nat) : Nat := (o.filter fun k => decide (ns.getD k 0 ≤ ns.getD i 0)).length
def ordF (ns : List Nat) : Nat → List Nat
  | 0 => []
  | i + 1 => (ordF ns i).take (cntF ns (ordF ns i) i) ++ i :: (ordF ns i).drop (cntF ns (ordF ns i) i)
def leV (ns : List Nat) (i : Nat) : Value → Bool
  | .int k _ => decide (ns.getD k.toNat 0 ≤ ns.getD i 0)
  | _ => false
theorem filt_len (ns : List Nat) (i : Nat) : ∀ {ov : List Value} {o : List Nat}, NatsAre ov o → (ov.filter (leV ns i)).length = cntF ns o i := by
  intro ov o h
  induction o generalizing ov with
  | nil => cases h; rfl
  | cons k r ih =>
    cases h with
    | cons n t h' =>
      have := ih h'
      unfold cntF at this ⊢
      have e : leV ns i (.int (k : Int) t) = decide (ns.getD k 0 ≤ ns.getD i 0) := rfl
      rw [List.filter_cons, List.filter_cons, e]
      split
      · rw [List.length_cons, List.length_cons, this]
      · exact this
theorem ordF_len (ns : List Nat) : ∀ i, (ordF ns i).length = i
  | 0 => rfl
  | i + 1 => by
    show (List.take _ _ ++ i :: List.drop _ _).length = _
    rw [List.length_append, List.length_cons, ← Nat.add_assoc, ← List.length_append, List.take_append_drop, ordF_len ns i]
theorem ordF_lt (ns : List Nat) : ∀ i, ∀ k ∈ ordF ns i, k < i
  | 0, k, h => nomatch h
  | i + 1, k, h => by
    rcases List.mem_append.mp h with q | q
    · exact Nat.lt_succ_of_lt (ordF_lt ns i k (List.mem_of_mem_take q))
    · rcases List.mem_cons.mp q with rfl | q
      · exact Nat.lt_succ_self _
      · exact Nat.lt_succ_of_lt (ordF_lt ns i k (List.mem_of_mem_drop q))
section
variable {w : World} {mg mb : Str → Option Value} {s : Shared} {dp un : Nat} {fr : Option (List Env)} {gd : Option (List Code)} {E : Value → Shared → Prop} {L f : Addr} {cd : Value} {hb : Heap} {m : Str → Option Value}
theorem lcmp {Q : Value → Shared → Prop} {D ln : Addr} {ov nv : List Value} {o ns : List Nat} {i : Nat} {ti : Tok} {p1 p2 p3 p4 p5 p6 p7 p8 p9 p10 p11 : Pos} (F : Fr hb L s.heap m) (mo : m (Str.ofString "order") = some (.ref D)) (hD : s.heap.IsList D ov.toArray) (ho : NatsAre ov o) (hlt : ∀ k ∈ o, k < ns.length) (hi : i < ns.length) (hz : o.length < 64) (nz : ns.length < 64)
    (cN : s.heap.IsCell (L + 1 + 1 + 1 + 1) (some (.ref ln))) (hn : s.heap.IsList ln nv.toArray) (hni : NatsAre nv ns) (cP : s.heap.IsCell (L + 1 + 1) (some (.int (i : Int) ti)))
    (hQ : ∀ D' h' tk ys, Keeps s.heap h' → s.heap.get? D' = none → h'.IsList D' (List.toArray ys) → ys.length = cntF ns o i → Q (.ref D') { s with heap := h', toks := tk }) :
    wpAny (model pr w) (oA dp un fr gd) (eval (.ListComp (.Name (Str.ofString "k") p1) [⟨.Name (Str.ofString "k") p2, .Name (Str.ofString "order") p3, [.Compare (.Subscript (.Name (Str.ofString "numbers") p4) (.Name (Str.ofString "k") p5) p6) [.LtE] [.Subscript (.Name (Str.ofString "numbers") p7) (.Name (Str.ofString "place") p8) p9] p10], 0⟩]
      { kind := .function, names := [(Str.ofString ".0", .local), (Str.ofString "k", .local), (Str.ofString "numbers", .free), (Str.ofString "place", .free)], isGenerator := false, isCoroutine := false, more := [] } p11) (lE L f cd)) Q E s := by
  refine wpAny_ListComp_free (leV ns i) (fun _ _ => True) rfl (by decide) rfl (by decide) rfl ?_
  refine nmL F (v := .ref D) mo (wpAny_pyIter_list hD ?_)
  have lD : D < s.heap.objs.size := by obtain ⟨_, e, _⟩ := hD; exact Heap.lt_size e
  have gI : (s.heap.push { cls := .type "list_iterator", data := .fields #[.ref D, .int 0 0] }).IsListIter s.heap.objs.size D 0 := ⟨_, Heap.get?_push_size _ rfl, rfl, rfl⟩
  have k0 : Keeps s.heap (s.heap.push { cls := .type "list_iterator", data := .fields #[.ref D, .int 0 0] }) := fun _ _ e => Heap.get?_push_of_some _ e
  have sz : (s.heap.push { cls := .type "list_iterator", data := .fields #[.ref D, .int 0 0] }).objs.size = s.heap.objs.size + 1 := Heap.size_push ..
  dsimp only
  generalize s.heap.push { cls := .type "list_iterator", data := .fields #[.ref D, .int 0 0] } = h0 at *
  have nI : s.heap.get? s.heap.objs.size = none := Heap.get?_none_of_le (Nat.le_refl _)
  have up : ∀ (g : Heap), (∀ b o, b ∉ [s.heap.objs.size] → h0.get? b = some o → g.get? b = some o) → Keeps s.heap g := fun g hk b o e => hk b o (fun q => by rw [List.mem_singleton.mp q, nI] at e; cases e) (k0 _ _ e)
  refine ⟨_, _, _, _, _, _, rfl, Walks.list rfl s.heap.objs.size D (Nat.ne_of_lt lD) ov.toArray, by rw [List.size_toArray, sizeLine_eq, natsAre_len ho]; lia, ⟨gI, isList_keeps hD k0⟩, fun b hm => ?_, ⟨?_, ?_⟩, ?_⟩
  · simp only [List.mem_cons, List.not_mem_nil, or_false] at hm
    show b < h0.objs.size
    rw [sz]
    rcases hm with rfl | rfl
    · exact Nat.lt_succ_self _
    · exact Nat.lt_succ_of_lt lD
  · intro C j v s₃ m₃ E' _ hP hNs hx hk _
    obtain ⟨k, u, rfl, hko⟩ := natsAre_get ho (by simpa using hP)
    have k3 := up _ hk
    have hk2 := hlt k (List.mem_of_getElem? hko)
    obtain ⟨vk, hvk⟩ : ∃ v, nv[k]? = some v := ⟨_, List.getElem?_eq_getElem (by rw [natsAre_len hni]; exact hk2)⟩
    obtain ⟨nk, tk', rfl, hnk⟩ := natsAre_get hni hvk
    obtain ⟨vi, hvi⟩ : ∃ v, nv[i]? = some v := ⟨_, List.getElem?_eq_getElem (by rw [natsAre_len hni]; exact hi)⟩
    obtain ⟨n', ti', rfl, hni'⟩ := natsAre_get hni hvi
    refine wpAny_tests_one (wpAny_isTrue_Compare1 (Subscript_ (wpAny_Name (wpAny_loadName_cell rfl rfl rfl (cN.keeps k3) (wpAny_Name (wpAny_loadName_local rfl rfl hNs hx ?_))))))
    refine item_list (isList_keeps hn k3) (Int.natCast_nonneg k) (by lia) (x := .int (nk : Int) tk') (by simpa using hvk) ?_
    refine Subscript_ (wpAny_Name (wpAny_loadName_cell rfl rfl rfl (cN.keeps k3) (wpAny_Name (wpAny_loadName_cell rfl rfl rfl (cP.keeps k3) ?_))))
    refine item_list (isList_keeps hn k3) (Int.natCast_nonneg i) (by lia) (x := .int (n' : Int) ti') (by simpa using hvi) ?_
    refine PyProof.Rows.le_int (wpAny_truthy_bool ⟨?_, s₃.heap, _, rfl, fun _ _ e => e⟩)
    show decide _ = decide (ns.getD k 0 ≤ ns.getD i 0)
    rw [List.getD_eq_getElem?_getD, List.getD_eq_getElem?_getD, hnk, hni']
    simp
  · intro C j v s₃ m₃ E' _ hP _ hNs hx hk _
    exact wpAny_Name (wpAny_loadName_local rfl rfl hNs hx ⟨trivial, s₃.heap, _, rfl, fun _ _ e => e⟩)
  · intro D' h' tk ys vs nD' hD' _ hlen hP hPr hk
    have e : vs = ov := by simpa using list_of_places hlen hP
    subst e
    refine hQ D' h' tk ys.toList (up _ hk) ?_ (by simpa using hD') ?_
    · cases q : s.heap.get? D' with
      | none => rfl
      | some o => rw [show h0.get? D' = some o from k0 _ _ q] at nD'; cases nD'
    · rw [← hPr.length, filt_len ns i ho]
end
end Mine
namespace Mine
open PySem PySem.W PySem.W.X PyProof.Rows PySem.Calls
set_option maxRecDepth 100000
set_option maxHeartbeats 400000
section
variable {w : World} {mg mb : Str → Option Value} {s : Shared} {dp un : Nat} {fr : Option (List Env)} {gd : Option (List Code)} {E : Value → Shared → Prop} {L f : Addr} {cd : Value} {hb : Heap} {m : Str → Option Value}
theorem insI {prog : Program} {A : Around} {Q : Value → Shared → Prop} {D : Addr} {ov : Array Value} {e : Nat} {x : Int} {u : Tok} {y : Value} (hD : s.heap.get? D = some (seqObj "list" ov e)) (h0 : 0 ≤ x) (hx : x.toNat ≤ ov.size) (hz : ov.size < 64)
    (hQ : ∀ h' e', Heap.SameBut D s.heap h' → h'.get? D = some (seqObj "list" ((ov.extract 0 x.toNat).push y ++ ov.extract x.toNat) e') → Q .none { s with heap := h' }) :
    wpAny (model prog w) A (call (.builtin "list.insert") [.ref D, .int x u, y]) Q E s := by
  have hfit : Builtin.List.listFitsIndex x = true := by unfold Builtin.List.listFitsIndex; simp only [Bool.and_eq_true, decide_eq_true_eq]; lia
  have hz2 : ov.size ≤ sizeLine := by rw [sizeLine_eq]; exact Nat.le_trans (Nat.le_of_lt hz) (by decide)
  have hf2 : ¬(!Builtin.List.listFitsIndex x) = true := by rw [hfit]; decide
  have g := PySem.AutoSeq1.list_insert_list_int_val_1 D ov e x u y hf2 hz2
  refine call_meets PySem.F.slot_list_insert ⟨_, hD, rfl⟩ PySem.F.entry_list_insert (PySem.F.args_list_insert_3 _ _ _) g ⟨hD, ?_⟩
  have q := get?_update_seq hD (fun xs => have k := if x < 0 then (x + ((xs.size : Nat) : Int)).toNat else min x.toNat xs.size; (xs.extract 0 k).push y ++ xs.extract k)
  have e0 : (if x < 0 then (x + ((ov.size : Nat) : Int)).toNat else min x.toNat ov.size) = x.toNat := by
    rw [if_neg (by lia)]; lia
  dsimp only at q
  rw [e0] at q
  exact hQ _ _ (Heap.SameBut.update ..) q
theorem insE {prog : Program} {A : Around} {Q : Value → Shared → Prop} {D : Addr} {ov : List Value} {e : Nat} {x : Nat} {u : Tok} {y : Value} (hD : s.heap.get? D = some (seqObj "list" ov.toArray e)) (hx : x ≤ ov.length) (hz : ov.length < 64)
    (hQ : ∀ h' e', Heap.SameBut D s.heap h' → h'.get? D = some (seqObj "list" (ov.take x ++ y :: ov.drop x).toArray e') → Q .none { s with heap := h' }) :
    wpAny (model prog w) A (call (.builtin "list.insert") [.ref D, .int (x : Int) u, y]) Q E s := by
  refine insI hD (Int.natCast_nonneg x) (by rw [Int.toNat_natCast, List.size_toArray]; exact hx) (by rw [List.size_toArray]; exact hz) fun h' e' sb g => hQ h' e' sb ?_
  rw [Int.toNat_natCast, kl_ins_eq] at g
  exact g
inductive OrdJ (s : Shared) (hb : Heap) (L : Addr) (m : Str → Option Value) (I D : Addr) (ns : List Nat) (k : Nat) (s' : Shared) : Prop
  | mk (h : Heap) (tk : Nat) (i e : Nat) (v : Option Value) (ov : List Value) (eq : s' = { s with heap := h, toks := tk }) (q : Fr hb L h m ∧ IsRangeIter h I (i : Int) ((ns.length - i : Nat) : Int) 1 ∧ h.IsCell (L + 1 + 1) v ∧ h.get? D = some (seqObj "list" (List.toArray ov) e) ∧ NatsAre ov (ordF ns i) ∧ Off [I, D, L + 1 + 1] s.heap h ∧ i ≤ ns.length ∧ k + i = ns.length)
theorem lw4 {Q : Flow → Shared → Prop} {D ln : Addr} {nv : List Value} {ns : List Nat} {v0 : Option Value} (F : Fr hb L s.heap m) (O : Okk w mg mb hb) (mo : m (Str.ofString "order") = some (.ref D)) (hD : s.heap.get? D = some (seqObj "list" #[] 0)) (hDb : hb.get? D = none) (n1 : 1 ≤ ns.length) (nz : ns.length < 60)
    (cN : s.heap.IsCell (L + 1 + 1 + 1 + 1) (some (.ref ln))) (hn : s.heap.IsList ln nv.toArray) (hni : NatsAre nv ns) (hnD : ln ≠ D) (cP : s.heap.IsCell (L + 1 + 1) v0) (cPb : hb.get? (L + 1 + 1) = none)
    (hQ : ∀ h' tk ov, Fr hb L h' m → h'.IsList D (List.toArray ov) → NatsAre ov (ordF ns ns.length) → Off [D, L + 1 + 1] s.heap h' → Q .next { s with heap := h', toks := tk }) :
    wpAny (model pr w) (oA dp un fr gd) (exec (lX 4) (lE L f cd)) Q E s := by
  have Oh : Okk w mg mb s.heap := O.keeps F.keep
  refine wpAny_For (Call_ (nmB Oh bb_range (nn_range _) rfl rfl rfl rfl ?_))
  refine PyProof.Rows.callWith_type1 (args_cons (Call_ (nmB Oh bb_len (nn_len _) rfl rfl rfl rfl ?_)))
  refine callWith_builtin1 (args_cons (wpAny_Name (wpAny_loadName_cell rfl rfl rfl cN (args_nil ?_))))
  refine lenE hn (natsAre_len hni) (by lia) (args_nil ?_)
  refine call_range_1 ?_
  have szr : Builtin.Range.rangeSize 0 (ns.length : Int) 1 = (ns.length : Int) := by rw [rangeSize_one]; split <;> lia
  dsimp only
  generalize hg : s.heap.push _ = h0
  obtain ⟨t1, t2, t3, hr⟩ : ∃ t1 t2 t3, IsRange h0 s.heap.objs.size 0 (ns.length : Int) 1 t1 t2 t3 := ⟨_, _, _, hg ▸ IsRange.new ..⟩
  have k0 : Mine.Keeps s.heap h0 := fun _ _ e => hg ▸ Heap.get?_push_of_some _ e
  have sz0 : s.heap.objs.size ≤ h0.objs.size := by rw [← hg, Heap.size_push]; exact Nat.le_succ _
  refine wpAny_pyIter_range hr (small_one (by decide) (by decide) (by lia) (by lia)) ?_
  rw [szr]
  dsimp only
  generalize hg1 : h0.push _ = h1
  have k1 : Mine.Keeps s.heap h1 := fun _ _ e => hg1 ▸ Heap.get?_push_of_some _ (k0 _ _ e)
  have gI : IsRangeIter h1 h0.objs.size 0 (ns.length : Int) 1 := by rw [← hg1]; exact Heap.get?_push_size _ rfl
  have nI : s.heap.get? h0.objs.size = none := Heap.get?_none_of_le sz0
  generalize h0.objs.size = I at *
  have neL : ∀ {b o}, s.heap.get? b = some o → b ≠ I := fun {b o} e q => by rw [q, nI] at e; cases e
  obtain ⟨oP, eP, dP⟩ := id cP
  obtain ⟨oL, esL, epL, eL, dL, rL⟩ := id F.ns
  obtain ⟨oN, eN, dN⟩ := id cN
  have nDI := neL hD
  have nPI := neL eP
  have nPD : L + 1 + 1 ≠ D := by rintro q; rw [q, hD] at eP; cases eP; cases dP
  have nLD : L ≠ D := by rintro q; rw [q, hD] at eL; cases eL; cases dL
  have nLP : L ≠ L + 1 + 1 := Nat.ne_of_lt (Nat.lt_succ_of_lt (Nat.lt_succ_self L))
  have nND : L + 1 + 1 + 1 + 1 ≠ D := by rintro q; rw [q, hD] at eN; cases eN; cases dN
  have nNP : L + 1 + 1 + 1 + 1 ≠ L + 1 + 1 := Nat.ne_of_gt (Nat.lt_succ_of_lt (Nat.lt_succ_self _))
  have hIb : hb.get? I = none := by
    cases q : hb.get? I with
    | none => rfl
    | some o => have := F.keep _ _ q; rw [nI] at this; cases this
  refine codeAny_forLoop (OrdJ s hb L m I D ns) ?_ ns.length
    ⟨h1, _, 0, 0, v0, [], rfl, fr_keeps F k1, gI, cP.keeps k1, k1 _ _ hD, .nil, Off.keeps k1, Nat.zero_le _, rfl⟩
  rintro k s' ⟨h, tk, i, e, v, ov, rfl, F1, gI1, cP1, gD1, ho1, off1, hi, hk⟩
  by_cases lt : i < ns.length
  · refine wpAny_pyNext_range_item gI1 (by lia) fun h2 gI2 sb2 => ?_
    have F2 : Fr hb L h2 m := F1.change sb2 (Ne.symm (neL eL)) hIb
    have gD2 := (sb2.2 D nDI).trans gD1
    have cP2 : h2.IsCell (L + 1 + 1) v := cP1.sameBut sb2 nPI
    refine wpAny_assign_Name (wpAny_storeName_cell rfl rfl rfl cP2 fun h3 cP3 sb3 => ?_)
    have F3 : Fr hb L h3 m := F2.change sb3 (Ne.symm nLP) cPb
    have gD3 := (sb3.2 D (Ne.symm nPD)).trans gD2
    have gI3 : IsRangeIter h3 I ((i : Int) + 1) (((ns.length - i : Nat) : Int) - 1) 1 := (sb3.2 I (Ne.symm nPI)).trans gI2
    have off3 : Off [I, D, L + 1 + 1] s.heap h3 := (off1.trans (Off.same sb2 (.head _))).trans (Off.same sb3 (.tail _ (.tail _ (.head _))))
    have cN3 : h3.IsCell (L + 1 + 1 + 1 + 1) (some (.ref ln)) := isCell_off cN (by simp only [List.mem_cons, List.not_mem_nil, or_false, not_or]; exact ⟨neL eN, nND, nNP⟩) off3
    have hn3 : h3.IsList ln nv.toArray := by
      obtain ⟨o, e, hc, c, hd⟩ := hn
      refine ⟨o, off3 _ _ ?_ e, hc, c, hd⟩
      simp only [List.mem_cons, List.not_mem_nil, or_false, not_or]
      refine ⟨neL e, hnD, ?_⟩
      rintro rfl
      rw [e] at eP; cases eP; rw [hd] at dP; cases dP
    have O3 : Okk w mg mb h3 := O.keeps F3.keep
    have hol : ov.length = i := by rw [natsAre_len ho1, ordF_len]
    refine wpAny_execs_cons (wpAny_Expr (MethodCall_ (nmL F3 (v := .ref D) mo ?_)))
    refine getMethod_list_of PySem.F.slot_list_insert PySem.F.type_list_insert ⟨_, gD3, rfl, _, rfl⟩ ⟨_, gD3, rfl⟩ ?_
    refine Calls.callWith_builtin rfl (Calls.evalArgs_plain ?_)
    refine args_cons (Call_ (nmB O3 bb_len (nn_len _) rfl rfl rfl rfl ?_))
    refine callWith_builtin1 (args_cons (lcmp (o := ordF ns i) (i := i) F3 mo ⟨_, gD3, rfl, _, rfl⟩ ho1 (fun k hk => Nat.lt_trans (ordF_lt ns i k hk) lt) lt (by rw [ordF_len]; lia) (by lia) cN3 hn3 hni cP3 fun D' h4 tk4 ys k4 n4 hD4 hyl => args_nil ?_))
    have hc : cntF ns (ordF ns i) i ≤ ov.length := by
      rw [natsAre_len ho1]; exact List.length_filter_le ..
    refine lenE hD4 hyl (by lia) ?_
    refine args_cons (wpAny_Name (wpAny_loadName_cell rfl rfl rfl (cP3.keeps k4) (args_nil ?_)))
    have F4 := fr_keeps F3 k4
    refine insE (k4 _ _ gD3) hc (by lia) fun h5 e5 sb5 gD5 => ?_
    have F5 : Fr hb L h5 m := F4.change sb5 (Ne.symm nLD) hDb
    refine wpAny_execs_nil ⟨k - 1, by lia, h5, _, i + 1, e5, _, _, rfl, F5, ?_, (cP3.keeps k4).sameBut sb5 nPD, gD5, ?_, (off3.trans (Off.keeps k4)).trans (Off.same sb5 (.tail _ (.head _))), lt, by lia⟩
    · have e1 : ((i : Int) + 1) = ((i + 1 : Nat) : Int) := by lia
      have e2 : (((ns.length - i : Nat) : Int) - 1) = ((ns.length - (i + 1) : Nat) : Int) := by lia
      rw [e1, e2] at gI3
      exact (sb5.2 I (Ne.symm nDI)).trans (k4 _ _ gI3)
    · show NatsAre _ ((ordF ns i).take (cntF ns (ordF ns i) i) ++ i :: (ordF ns i).drop (cntF ns (ordF ns i) i))
      unfold NatsAre at ho1 ⊢
      rw [List.map_append, List.map_cons, List.map_take, List.map_drop]
      exact IntsAre.append (IntsAre.take ho1 _) (.cons _ _ (IntsAre.drop ho1 _))
  · have he : i = ns.length := by lia
    subst he
    refine wpAny_pyNext_range_end rfl gI1 (by lia) fun h2 eb => ?_
    refine wpAny_execs_nil ?_
    have F2 : Fr hb L h2 m := ⟨F1.ns.extBut eb (neL eL), fun b o e => eb b o (fun q => by rw [q, hIb] at e; cases e) (F1.keep b o e), F1.above⟩
    refine hQ h2 _ ov F2 ⟨_, eb _ _ nDI gD1, rfl, _, rfl⟩ ho1 fun b o n e => eb b o (neL e) (off1 b o ?_ e)
    simp only [List.mem_cons, List.not_mem_nil, or_false, not_or] at n ⊢
    exact ⟨neL e, n⟩
end
end Mine
namespace Mine
open PySem PySem.W PySem.W.X PyProof.Rows PySem.Calls
set_option maxRecDepth 100000
set_option maxHeartbeats 8000000
local macro_rules | `(tactic| walk_at "mine enter") => `(tactic| (
  refine wpAny_call ?_
  k_dflt (refine' enterK ?k1 ?k2 ?k3 ?k4 ?k5 ?k6 ?k7 ?_ ?c2 ?c3 ?c4 ?c5; (case k1 => k_asm); (case k2 => exact TopRead.nolimit (by assumption)); (case k3 => k_is); (case k4 => k_is); (case k5 => (dsimp only [recursionLimit]; lia)); (case k6 => exact BindsTo.of_eq rfl); (case k7 => exact locs rfl); (case c2 => exact rfl); (case c3 => exact rfl); (case c4 => exact rfl); (case c5 => decide); k_whole)))
theorem buffer (w : World) (mg mb : Str → Option Value) (s : Shared) (dp un : Nat) (fr : Option (List Env)) (gd : Option (List Code)) (hdp : dp < 500) (Q E : Value → Shared → Prop)
    (X0 : (hh.heap_1 w.params).In s.heap) (T0 : TopRead vw ls mg mb s.heap) (b : Array UInt8) (t : Tok)
    (hQ : ∀ h' tk, Keeps s.heap h' → Q (.bytes b t) {s with heap := h', toks := tk}) :
    wpAny (model PySem.Challenge.rw_oh0008_01.row.prog w) { handled := none, depth := dp, frames := fr, guards := gd, units := un } (call (.ref 35) [.bytes b t]) Q E s := by
  revert X0; k_fill; intro X0
  walk_at "mine enter"
  intro L h₁ hL F N
  dsimp only
  refine noExc ?_
  k_fold
  k_steps
  refine call_type_of (Tx := "bytes") rfl (by decide) ?_
  k_steps
  (try dsimp only)
  exact hQ _ _ (Fr.keep (by assumption))
theorem truth (w : World) (mg mb : Str → Option Value) (s : Shared) (dp un : Nat) (fr : Option (List Env)) (gd : Option (List Code)) (hdp : dp < 500) (Q E : Value → Shared → Prop)
    (X0 : (hh.heap_1 w.params).In s.heap) (T0 : TopRead vw ls mg mb s.heap)
    (hQ : ∀ h' tk, Keeps s.heap h' → Q (.bool false) {s with heap := h', toks := tk}) :
    wpAny (model PySem.Challenge.rw_oh0008_01.row.prog w) { handled := none, depth := dp, frames := fr, guards := gd, units := un } (call (.ref 42) [.bool false]) Q E s := by
  revert X0; k_fill; intro X0
  walk_at "mine enter"
  intro L h₁ hL F N
  dsimp only
  refine noExc ?_
  k_fold
  k_steps
  (try dsimp only)
  exact hQ _ _ (Fr.keep (by assumption))
end Mine
namespace Mine
open PySem PySem.W PySem.W.X PyProof.Rows PySem.Calls
set_option maxRecDepth 100000
set_option maxHeartbeats 8000000
theorem stop_in {P : Prop} (h : P) : Stop P := h
theorem forBytes {prog : Program} {w : World} {A : Around} {s : Shared} {env : Env} {h₀ : Heap} {x : Str} {px : Pos} {body : List Stmt} {R : Result → Shared → Prop} {E : Value → Shared → Prop} {m : Str → Option Value} {news : List (Addr × Obj)} {b : Array UInt8} {t : Tok}
    (hh : A.handled = none) (F : Fr h₀ env.locals s.heap m) (N : News h₀ env.locals s.heap news)
    (J : Nat → (Str → Option Value) → List (Addr × Obj) → Prop) (h0 : J 0 m news)
    (step : ∀ i c u m₁ news₁ h₁ tk₁ own, b[i]? = some c → J i m₁ news₁ → (∀ p ∈ news₁, p.1 < s.heap.objs.size) → (∀ p ∈ own, s.heap.objs.size ≤ p.1) → Fr h₀ env.locals h₁ m₁ → News h₀ env.locals h₁ (news₁ ++ own) →
      wpAny (model prog w) A (assign (.Name x px) env (.int (c.toNat : Int) u)) (fun _ s₂ => wpAny (model prog w) A (execs body env)
        (fun f s₃ => match f with
          | .next | .cont => Stop (TEnd s s₃ h₀ env.locals own (fun a => a < s.heap.objs.size) (J (i + 1)))
          | .brk => Stop (R (.ok .next) s₃)
          | .ret v => Stop (R (.ok (.ret v)) s₃)) (fun _ _ => False) s₂) (fun _ _ => False) { s with heap := h₁, toks := tk₁ })
    (hR : ∀ h' tk m' news', Fr h₀ env.locals h' m' → News h₀ env.locals h' news' → J b.size m' news' → R (.ok .next) { s with heap := h', toks := tk }) :
    wpAny (model prog w) A (pyIter (.bytes b t)) (fun it s₂ => codeAny (model prog w) A (.forLoop (.Name x px) it body [] env) R s₂) E s := by
  have hLs : env.locals < s.heap.objs.size := F.ns.lt
  refine KBw.pyIter_bytes ?_
  have hk : Keeps s.heap (s.heap.push { cls := .type "bytes_iterator", data := .fields #[.bytes b t, .int 0 0] }) := fun b o e => Heap.get?_push_of_some _ e
  refine forL (news := news) (KTurns.ofWalks (KBw.walks hh s.heap.objs.size b t) fun _ _ _ _ _ _ q => wpAny_pure q) ?_ ?_ ?_ ?_ (fr_keeps F hk) (news_keeps N hk) (fun i m n => J i m n ∧ ∀ p ∈ n, p.1 < s.heap.objs.size) ⟨h0, fun p hp => Heap.lt_size (N p hp).1⟩ ?_ ?_
  · intro hb; exact Nat.ne_of_lt hLs (List.mem_singleton.mp hb)
  · intro c hb; rw [List.mem_singleton.mp hb]; exact ktu_new F (Nat.le_refl _)
  · intro p hp hb; exact absurd (Heap.lt_size (N p hp).1) (by rw [List.mem_singleton.mp hb]; exact Nat.lt_irrefl _)
  · exact ⟨_, Heap.get?_push_size _ rfl, rfl, rfl⟩
  · rintro i v m₁ news₁ h₁ tk₁ own hi ⟨c, u, hc, rfl⟩ ⟨hJ, hlt⟩ hn hown F₁ N₁
    refine wpAny_mono (step i c u m₁ news₁ h₁ tk₁ own hc hJ hlt (fun p hp => by rw [List.mem_singleton.mp (hown p hp)]; exact Nat.le_refl _) F₁ N₁) (fun _ s₂ q => wpAny_mono q (fun fl s₃ q => ?_) fun _ _ x => x) fun _ _ x => x
    cases fl with
    | next => obtain ⟨h', tk, m', news', rfl, F', N', hn, hJ⟩ := q; exact ⟨h', tk, m', news', rfl, F', N', fun p hp hb => absurd (hn p hp) (by rw [List.mem_singleton.mp hb]; exact Nat.lt_irrefl _), hJ, hn⟩
    | cont => obtain ⟨h', tk, m', news', rfl, F', N', hn, hJ⟩ := q; exact ⟨h', tk, m', news', rfl, F', N', fun p hp hb => absurd (hn p hp) (by rw [List.mem_singleton.mp hb]; exact Nat.lt_irrefl _), hJ, hn⟩
    | brk => exact q
    | ret v => exact q
  · intro h' tk m' news' F' N' _ hJ
    exact hR h' tk m' news' F' N' hJ.1
local macro_rules | `(tactic| walk_at "mine enter") => `(tactic| (
  refine wpAny_call ?_
  k_dflt (refine' enterK ?k1 ?k2 ?k3 ?k4 ?k5 ?k6 ?k7 ?_ ?c2 ?c3 ?c4 ?c5; (case k1 => k_asm); (case k2 => exact TopRead.nolimit (by assumption)); (case k3 => k_is); (case k4 => k_is); (case k5 => (dsimp only [recursionLimit]; lia)); (case k6 => first | exact BindsTo.of_eq rfl | exact binds_K (by k_in) rfl (by k_is) rfl rfl rfl); (case k7 => exact locs rfl); (case c2 => exact rfl); (case c3 => exact rfl); (case c4 => exact rfl); (case c5 => decide); k_whole)))
local macro_rules | `(tactic| walk_at "pyIter bytes") => `(tactic| refine stop_out ?_)
local macro_rules | `(tactic| walk_at "call builtin:list.append") => `(tactic| refine stop_out ?_)
def sg (n : Nat) : Nat := ([65, 66, 67, 68, 69, 70, 71, 72, 73, 74, 75, 76, 77, 78, 79, 80, 81, 82, 83, 84, 85, 86, 87, 88, 89, 90, 97, 98, 99, 100, 101, 102, 103, 104, 105, 106, 107, 108, 109, 110, 111, 112, 113, 114, 115, 116, 117, 118, 119, 120, 121, 122, 48, 49, 50, 51, 52, 53, 54, 55, 56, 57, 43, 47] : List Nat).getD n 0
theorem band (a m : Nat) : Builtin.bitAnd (a : Int) (m : Int) = ((a &&& m : Nat) : Int) := by
  unfold Builtin.bitAnd
  rw [decide_eq_true (Int.natCast_nonneg a), decide_eq_true (Int.natCast_nonneg m)]
  rfl
theorem bor (a c : Nat) : Builtin.bitOr (a : Int) (c : Int) = ((a ||| c : Nat) : Int) := by
  unfold Builtin.bitOr Builtin.bitAnd
  have h1 : decide (0 ≤ Builtin.bitNot (a : Int)) = false := by unfold Builtin.bitNot; simp; lia
  have h2 : decide (0 ≤ Builtin.bitNot (c : Int)) = false := by unfold Builtin.bitNot; simp; lia
  rw [h1, h2]
  have h3 : ∀ x : Int, Builtin.bitNot (Builtin.bitNot x) = x := by intro x; unfold Builtin.bitNot; lia
  simp only [h3]
  rfl
theorem bor8 (n c : Nat) (h : c < 256) : Builtin.bitOr ((n : Int) * 2 ^ Int.toNat 8) (c : Int) = ((n * 256 + c : Nat) : Int) := by
  have e : (n : Int) * 2 ^ Int.toNat 8 = ((n * 256 : Nat) : Int) := by
    show (n : Int) * 256 = _
    lia
  rw [e, bor]
  congr 1
  have := Nat.two_pow_add_eq_or_of_lt (i := 8) (b := c) h n
  rw [Nat.mul_comm n 256]
  exact this.symm
theorem sgAt : ∀ r : Fin 64, (([65, 66, 67, 68, 69, 70, 71, 72, 73, 74, 75, 76, 77, 78, 79, 80, 81, 82, 83, 84, 85, 86, 87, 88, 89, 90, 97, 98, 99, 100, 101, 102, 103, 104, 105, 106, 107, 108, 109, 110, 111, 112, 113, 114, 115, 116, 117, 118, 119, 120, 121, 122, 48, 49, 50, 51, 52, 53, 54, 55, 56, 57, 43, 47] : List UInt8).getD r.val 0).toNat = sg r.val := by decide +kernel
theorem item64 {prog : Program} {w : World} {A : Around} {E : Value → Shared → Prop} {s : Shared} {i : Int} {r : Nat} {t ui : Tok} {value slice : Expr} {Q : Value → Shared → Prop} (hr : r < 64) (e : i = (r : Int))
    (h : Q (.int (sg r : Int) s.toks) { s with toks := s.toks + 1 })
    (hs : ∀ x : Array UInt8, subscripted slice false (.bytes x t) (.int i ui) = operate [.bytes x t, .int i ui] (getItem (.bytes x t) (.int i ui)) := by intro _; with_unfolding_all rfl)
    (ht : ∀ x r, letTemporaryGo value (.bytes x t) r = pure () := by intro _ _; with_unfolding_all rfl) :
    wpAny (model prog w) A (subscriptTail value slice (.bytes #[65, 66, 67, 68, 69, 70, 71, 72, 73, 74, 75, 76, 77, 78, 79, 80, 81, 82, 83, 84, 85, 86, 87, 88, 89, 90, 97, 98, 99, 100, 101, 102, 103, 104, 105, 106, 107, 108, 109, 110, 111, 112, 113, 114, 115, 116, 117, 118, 119, 120, 121, 122, 48, 49, 50, 51, 52, 53, 54, 55, 56, 57, 43, 47] t) (.int i ui)) Q E s := by
  subst e
  refine bytes_item_K (k := (sg r : Int)) (by decide) (Int.natCast_nonneg _) (by simp; lia) ?_ h (hs _) (ht _)
  rw [Int.toNat_natCast]
  exact congrArg Int.ofNat (sgAt ⟨r, hr⟩)
theorem fdiv2 (a : Nat) (k : Int) (n : Nat) (h : k = (n : Int)) : Int.fdiv (a : Int) (2 ^ k.toNat) = ((a / 2 ^ n : Nat) : Int) := by
  subst h
  rw [Int.toNat_natCast]
  have e : (2 : Int) ^ n = ((2 ^ n : Nat) : Int) := by simp
  rw [e, Int.fdiv_eq_ediv_of_nonneg _ (Int.natCast_nonneg _)]
  rfl
theorem lch (n c : Nat) (hc : c < 256) : Builtin.bitAnd (Builtin.bitOr ((n : Int) * 2 ^ Int.toNat 8) (c : Int)) 65535 = (((n * 256 + c) % 65536 : Nat) : Int) := by
  rw [bor8 n c hc, bitAnd_m16]; lia
theorem idx (n c k : Nat) (L : Int) (hc : c < 256) (hL : L = (k : Int)) : Builtin.bitAnd ((Builtin.bitAnd (Builtin.bitOr ((n : Int) * 2 ^ Int.toNat 8) (c : Int)) 65535).fdiv (2 ^ L.toNat)) 63 = (((n * 256 + c) % 65536 / 2 ^ k % 64 : Nat) : Int) := by
  rw [lch n c hc, fdiv2 _ _ k hL, bitAnd_m6]; lia
def b64l (x y z : Nat) : Nat → Nat
  | 0 => 0
  | 1 => x
  | 2 => x * 256 + y
  | _ => y * 256 + z
def b64o (x y z : Nat) : Nat → List Nat
  | 0 => []
  | 1 => [sg (x / 4)]
  | 2 => [sg (x / 4), sg ((x * 256 + y) / 16 % 64)]
  | _ => [sg (x / 4), sg ((x * 256 + y) / 16 % 64), sg ((y * 256 + z) / 64 % 64), sg (z % 64)]
theorem sg_lt (n : Nat) : sg n < 128 := by
  unfold sg
  by_cases h : n < 64
  · exact (by decide +kernel : ∀ r : Fin 64, ([65, 66, 67, 68, 69, 70, 71, 72, 73, 74, 75, 76, 77, 78, 79, 80, 81, 82, 83, 84, 85, 86, 87, 88, 89, 90, 97, 98, 99, 100, 101, 102, 103, 104, 105, 106, 107, 108, 109, 110, 111, 112, 113, 114, 115, 116, 117, 118, 119, 120, 121, 122, 48, 49, 50, 51, 52, 53, 54, 55, 56, 57, 43, 47] : List Nat).getD r.val 0 < 128) ⟨n, h⟩
  · rw [List.getD_eq_getElem?_getD, List.getElem?_eq_none (by simp; lia)]; decide
theorem b64o_lt (x y z i a : Nat) (h : a ∈ b64o x y z i) : a < 128 := by
  unfold b64o at h
  split at h <;> simp only [List.mem_cons, List.not_mem_nil, or_false] at h
  · rw [h]; exact sg_lt _
  · rcases h with rfl | rfl <;> exact sg_lt _
  · rcases h with rfl | rfl | rfl | rfl <;> exact sg_lt _
local macro_rules | `(tactic| walk_at "call type:bytes") => `(tactic| refine stop_out ?_)
inductive B2J (x y z : UInt8) (i : Nat) (m : Str → Option Value) (news : List (Addr × Obj)) : Prop
  | mk (D : Addr) (n : Nat) (ws : List Value) (t1 t2 : Tok) (e : news = [(D, { cls := .type "list", data := .seq ws.toArray n })]) (q : NatsAre ws (b64o x.toNat y.toNat z.toNat i) ∧ m (Str.ofString "out") = some (.ref D) ∧
      m (Str.ofString "leftbits") = some (.int ((2 * i % 6 : Nat) : Int) t1) ∧ m (Str.ofString "leftchar") = some (.int ((b64l x.toNat y.toNat z.toNat i : Nat) : Int) t2) ∧ m (Str.ofString "newline") = some (.bool false))
theorem b2a (w : World) (mg mb : Str → Option Value) (s : Shared) (dp un : Nat) (fr : Option (List Env)) (gd : Option (List Code)) (hdp : dp < 490) (Q E : Value → Shared → Prop)
    (X0 : (hh.heap_1 w.params).In s.heap) (T0 : TopRead vw ls mg mb s.heap) (x y z : UInt8) (t : Tok)
    (hQ : ∀ h' tk t', Keeps s.heap h' → Q (.bytes (byteArr ((b64o x.toNat y.toNat z.toNat 3).map fun (n : Nat) => (n : Int))) t') {s with heap := h', toks := tk}) :
    wpAny (model PySem.Challenge.rw_oh0008_01.row.prog w) { handled := none, depth := dp, frames := fr, guards := gd, units := un } (call (.ref 50) [.bytes #[x, y, z] t] [(Str.ofString "newline", .bool false)]) Q E s := by
  have X1 := X0
  revert X0; k_fill; intro X0
  walk_at "mine enter"
  intro L h₁ hL F N
  dsimp only
  refine noExc ?_
  refine execs_split 5 ?_
  dsimp only [List.take, List.drop]
  k_fold
  k_steps
  (with_reducible rename Fr _ _ _ _ => F'); (with_reducible rename News _ _ _ _ => N')
  refine buffer w mg mb _ (dp + 1) (un + 3) _ _ (by lia) _ _ ?_ ?_ _ _ ?_
  · exact fun a o l => F'.keep _ _ (X1 a o l)
  · exact T0.keeps F'.keep
  intro h2 tk2 k2
  replace F' := fr_keeps F' k2
  replace N' := news_keeps N' k2
  clear k2
  (try dsimp only)
  k_steps
  (with_reducible rename Fr _ _ _ _ => F'); (with_reducible rename News _ _ _ _ => N')
  refine truth w mg mb _ (dp + 1) (un + 3) _ _ (by lia) _ _ ?_ ?_ ?_
  · exact fun a o l => F'.keep _ _ (X1 a o l)
  · exact T0.keeps F'.keep
  intro h2 tk2 k2
  replace F' := fr_keeps F' k2
  replace N' := news_keeps N' k2
  clear k2
  (try dsimp only)
  k_steps
  (with_reducible rename Fr _ _ _ _ => F'); (with_reducible rename News _ _ _ _ => N')
  unfold Stop
  refine wpAny_execs_cons ?_
  refine wpAny_For ?_
  k_fold
  k_steps
  unfold Stop
  refine forBytes rfl F' N' (B2J x y z) ?_ ?_ ?_
  · exact ⟨_, 0, [], _, _, rfl, .nil, rfl, rfl, rfl, rfl⟩
  · rintro i c u m₁ news₁ h₁ tk₁ own hc ⟨D, n, ws, t1, t2, rfl, hws, e1, e2, e3, e4⟩ hlt hown F₁ N₁
    have F := fr_puts [(Str.ofString "out", _), (Str.ofString "leftbits", _), (Str.ofString "leftchar", _), (Str.ofString "newline", _)] F₁ (List.forall_mem_cons.2 ⟨e1, List.forall_mem_cons.2 ⟨e2, List.forall_mem_cons.2 ⟨e3, List.forall_mem_cons.2 ⟨e4, fun _ h => nomatch h⟩⟩⟩⟩)
    dsimp only [putsM, List.foldr] at F
    clear F₁ e1 e2 e3 e4
    have hDlt : D < _ := hlt (D, _) (.head _)
    have hne : ∀ p ∈ own, p.1 ≠ D := fun p hp e => by
      have q := hown p hp
      rw [e] at q; exact absurd (Nat.lt_of_lt_of_le hDlt q) (Nat.lt_irrefl _)
    dsimp only [List.cons_append, List.nil_append] at N₁
    have hc3 := c.toNat_lt
    have hx3 := x.toNat_lt
    have hy3 := y.toNat_lt
    match i, hc with
    | 0, hc =>
      have e : x = c := by simpa using hc
      subst e
      have hwl : ws.length = 0 := by rw [natsAre_len hws]; rfl
      rw [show ((2 * 0 % 6 : Nat) : Int) = 0 from rfl, show ((b64l x.toNat y.toNat z.toNat 0 : Nat) : Int) = 0 from rfl] at F
      (try k_unmd); (try dsimp only); k_fold
      k_steps
      (with_reducible rename Fr _ _ _ _ => F2); (with_reducible rename News _ _ _ _ => N2)
      refine item64 (r := x.toNat / 4) (by lia) ((idx (0) x.toNat 2 _ hc3 rfl).trans ?_) ?_
      · congr 1; simp only [Nat.reducePow]; lia
      k_steps
      (with_reducible rename Fr _ _ _ _ => F3); (with_reducible rename News _ _ _ _ => N3)
      refine stop_in ?_
      refine append_K F3 N3 (Upd.head hne) ?_ (by rw [sizeLine_eq]; simp only [List.size_toArray, List.length_append, List.length_cons, List.length_nil, hwl]; lia)
      intro h4 F4 N4
      k_steps
      refine stop_in ?_
      (with_reducible rename Fr _ _ _ _ => F5); (with_reducible rename News _ _ _ _ => N5)
      replace N5 := news_pushed N5
      have hl : Builtin.bitAnd (Builtin.bitOr ((0 : Int) * 2 ^ Int.toNat 8) (x.toNat : Int)) 65535 = ((b64l x.toNat y.toNat z.toNat (0 + 1) : Nat) : Int) := (lch (0) x.toNat hc3).trans (by congr 1; simp only [b64l]; lia)
      refine ⟨_, _, _, [_], rfl, F5, N5, ?_, D, n + 1, ws ++ [_], _, _, rfl, natsAre_snoc hws _ _, rfl, rfl, congrArg (fun z => some (Value.int z _)) hl, rfl⟩
      · intro p hp; rw [List.mem_singleton.mp hp]; exact hDlt
    | 1, hc =>
      have e : y = c := by simpa using hc
      subst e
      have hwl : ws.length = 1 := by rw [natsAre_len hws]; rfl
      rw [show ((2 * 1 % 6 : Nat) : Int) = 2 from rfl, show ((b64l x.toNat y.toNat z.toNat 1 : Nat) : Int) = ((x.toNat : Nat) : Int) from rfl] at F
      (try k_unmd); (try dsimp only); k_fold
      k_steps
      (with_reducible rename Fr _ _ _ _ => F2); (with_reducible rename News _ _ _ _ => N2)
      refine item64 (r := (x.toNat * 256 + y.toNat) / 16 % 64) (by lia) ((idx (x.toNat) y.toNat 4 _ hc3 rfl).trans ?_) ?_
      · congr 1; simp only [Nat.reducePow]; lia
      k_steps
      (with_reducible rename Fr _ _ _ _ => F3); (with_reducible rename News _ _ _ _ => N3)
      refine stop_in ?_
      refine append_K F3 N3 (Upd.head hne) ?_ (by rw [sizeLine_eq]; simp only [List.size_toArray, List.length_append, List.length_cons, List.length_nil, hwl]; lia)
      intro h4 F4 N4
      k_steps
      refine stop_in ?_
      (with_reducible rename Fr _ _ _ _ => F5); (with_reducible rename News _ _ _ _ => N5)
      replace N5 := news_pushed N5
      have hl : Builtin.bitAnd (Builtin.bitOr (((x.toNat : Nat) : Int) * 2 ^ Int.toNat 8) (y.toNat : Int)) 65535 = ((b64l x.toNat y.toNat z.toNat (1 + 1) : Nat) : Int) := (lch (x.toNat) y.toNat hc3).trans (by congr 1; simp only [b64l]; lia)
      refine ⟨_, _, _, [_], rfl, F5, N5, ?_, D, n + 1, ws ++ [_], _, _, rfl, natsAre_snoc hws _ _, rfl, rfl, congrArg (fun z => some (Value.int z _)) hl, rfl⟩
      · intro p hp; rw [List.mem_singleton.mp hp]; exact hDlt
    | 2, hc =>
      have e : z = c := by simpa using hc
      subst e
      have hwl : ws.length = 2 := by rw [natsAre_len hws]; rfl
      rw [show ((2 * 2 % 6 : Nat) : Int) = 4 from rfl, show ((b64l x.toNat y.toNat z.toNat 2 : Nat) : Int) = ((x.toNat * 256 + y.toNat : Nat) : Int) from rfl] at F
      (try k_unmd); (try dsimp only); k_fold
      k_steps
      (with_reducible rename Fr _ _ _ _ => F2); (with_reducible rename News _ _ _ _ => N2)
      refine item64 (r := (y.toNat * 256 + z.toNat) / 64 % 64) (by lia) ((idx (x.toNat * 256 + y.toNat) z.toNat 6 _ hc3 rfl).trans ?_) ?_
      · congr 1; simp only [Nat.reducePow]; omega
      k_steps
      (with_reducible rename Fr _ _ _ _ => F3); (with_reducible rename News _ _ _ _ => N3)
      refine stop_in ?_
      refine append_K F3 N3 (Upd.head hne) ?_ (by rw [sizeLine_eq]; simp only [List.size_toArray, List.length_append, List.length_cons, List.length_nil, hwl]; lia)
      intro h4 F4 N4
      k_steps
      (with_reducible rename Fr _ _ _ _ => F2); (with_reducible rename News _ _ _ _ => N2)
      refine item64 (r := z.toNat % 64) (by lia) ((idx (x.toNat * 256 + y.toNat) z.toNat 0 _ hc3 rfl).trans ?_) ?_
      · congr 1; simp only [Nat.reducePow]; lia
      k_steps
      (with_reducible rename Fr _ _ _ _ => F3); (with_reducible rename News _ _ _ _ => N3)
      refine stop_in ?_
      refine append_K F3 N3 (Upd.head hne) ?_ (by rw [sizeLine_eq]; simp only [List.size_toArray, List.length_append, List.length_cons, List.length_nil, hwl]; lia)
      intro h4 F4 N4
      k_steps
      refine stop_in ?_
      (with_reducible rename Fr _ _ _ _ => F5); (with_reducible rename News _ _ _ _ => N5)
      replace N5 := news_pushed N5
      have hl : Builtin.bitAnd (Builtin.bitOr (((x.toNat * 256 + y.toNat : Nat) : Int) * 2 ^ Int.toNat 8) (z.toNat : Int)) 65535 = ((b64l x.toNat y.toNat z.toNat (2 + 1) : Nat) : Int) := (lch (x.toNat * 256 + y.toNat) z.toNat hc3).trans (by congr 1; simp only [b64l]; lia)
      refine ⟨_, _, _, [_], rfl, F5, N5, ?_, D, n + 1 + 1, (ws ++ [_]) ++ [_], _, _, rfl, natsAre_snoc (natsAre_snoc hws _ _) _ _, rfl, rfl, congrArg (fun z => some (Value.int z _)) hl, rfl⟩
      · intro p hp; rw [List.mem_singleton.mp hp]; exact hDlt
    | i + 3, hc => simp at hc
  · rintro h' tk m' news' F4 N4 ⟨D, n, ws, t1, t2, rfl, hws, e1, e2, e3, e4⟩
    have F := fr_puts [(Str.ofString "out", _), (Str.ofString "leftbits", _), (Str.ofString "leftchar", _), (Str.ofString "newline", _)] F4 (List.forall_mem_cons.2 ⟨e1, List.forall_mem_cons.2 ⟨e2, List.forall_mem_cons.2 ⟨e3, List.forall_mem_cons.2 ⟨e4, fun _ h => nomatch h⟩⟩⟩⟩)
    dsimp only [putsM, List.foldr] at F
    clear F4 e1 e2 e3 e4
    have e0 : ((2 * (#[x, y, z] : Array UInt8).size % 6 : Nat) : Int) = 0 := by simp
    rw [e0] at F
    (try k_unmd)
    (try dsimp only)
    (try k_unmd)
    (try k_fold)
    k_steps
    (with_reducible rename Fr _ _ _ _ => F5); (with_reducible rename News _ _ _ _ => N5)
    refine stop_in ?_
    refine KBa.make_K F5 N5 rfl (News.isList N5 (.head _)) hws ?_ ?_ ?_
    · intro k hk
      obtain ⟨a, ha, rfl⟩ := List.mem_map.mp hk
      have := b64o_lt x.toNat y.toNat z.toNat _ a ha
      lia
    · rw [List.length_map]; exact (by decide : 4 ≤ 16777216)
    · intro h6 t6 k6 F6 N6 _
      exact hQ _ _ _ F6.keep
end Mine
namespace Mine
open PySem PySem.W PySem.W.X PyProof.Rows PySem.Calls
set_option maxRecDepth 100000
set_option maxHeartbeats 8000000
theorem slot_tr : Slot "bytes" "translate" "bytes.translate" :=
  .of (owner := "bytes") (n := "translate") (by rw [typeLookup_type, builtinLookup_eq_fast]; kernel_rfl) (by decide +kernel) (by decide +kernel) (by decide +kernel)
    (by first | exact .inl (by decide +kernel) | exact .inr (by decide +kernel)) (by rw [isSubtype_type]; kernel_rfl)
theorem type_tr : typeOf (.builtin "bytes.translate") = pure (.type "method_descriptor") := by show builtinType _ = _; rw [builtinType_eq_fast]; kernel_rfl
theorem entry_tr : entryFor table "bytes.translate" = some Builtin.«bytes.translate» := entryFor_of_tree (by kernel_rfl)
theorem args_tr (a b : Value) : argsOk "bytes.translate" ⟨[a, b], []⟩ := by
  unfold argsOk; rw [signature?_of (id := "bytes.translate") (n := ['e', 't', 'a', 'l', 's', 'n', 'a', 'r', 't']) (o := ['s', 'e', 't', 'y', 'b']) (by kernel_rfl) FB.owner_bytes]; kernel_rfl
theorem call_tr {prog : Program} {w : World} {A : Around} {E : Value → Shared → Prop} {s : Shared} {b tb : Array UInt8} {t u : Tok} {Q : Value → Shared → Prop} (h256 : tb.size = 256) (hs : b.size ≤ sizeLine)
    (h : ∀ t' k, Q (.bytes (b.map fun c => tb.getD c.toNat c) t') { s with toks := k }) : wpAny (model prog w) A (call (.builtin "bytes.translate") [.bytes b t, .bytes tb u]) Q E s := by
  refine wpAny_call_entry slot_tr (typeIs_bytes s b t) entry_tr ?_ (args_tr _ _)
  show wpAny _ _ (Builtin.Bytes.translateM .bytes ⟨[.bytes b t, .bytes tb u], []⟩) _ _ _
  unfold Builtin.Bytes.translateM
  simp only [KBd.like_eq, pure_bind, h256]
  rw [if_neg (by simp), if_neg (by simp), if_neg (show ¬ ((Value.bytes tb u == Value.none) = true) from fun h => nomatch (show false = true from h)), if_neg (by simp)]
  show wpAny _ _ (Builtin.Bytes.payload (.bytes b t) >>= _) _ _ _
  refine wpAny_bind ?_
  show wpAny _ _ (pure b) _ _ _
  refine wpAny_pure ?_
  have ef : (Array.filter (fun x => !(#[] : Array UInt8).contains x) b) = b := by simp
  rw [ef]
  split
  · rename_i he
    refine wpAny_bind (wpAny_rule ?_)
    refine wpAny_bind ?_
    show wpAny _ _ (Builtin.Bytes.Kind.same .bytes (.bytes b t)) _ _ _
    unfold Builtin.Bytes.Kind.same
    rw [if_pos (by rfl)]
    clear hs
    repeat wp_step
    have e : Array.map (fun c => tb.getD c.toNat c) b = b := eq_of_beq he
    have q := h t s.toks
    rw [e] at q
    exact ⟨_, rfl, q⟩
  · refine wpAny_bind ?_
    show wpAny _ _ (mkBytes _) _ _ _
    unfold mkBytes
    rw [if_neg (by rw [Array.size_map]; exact Nat.not_lt.mpr hs)]
    clear hs
    repeat wp_step
    exact ⟨_, rfl, h _ _⟩
theorem getMethod_tr {prog : Program} {w : World} {A : Around} {E : Value → Shared → Prop} {s : Shared} {b : Array UInt8} {t : Tok} {pl : Sem Bool} {Q : Value × List Value → Shared → Prop}
    (h : Q (.builtin "bytes.translate", [.bytes b t]) s) : wpAny (model prog w) A (getMethod (.bytes b t) (Str.ofString "translate") pl) Q E s :=
  getMethod_builtin (M := model prog w) (T := "bytes") (id := "bytes.translate") (name := Str.ofString "translate") (v := .bytes b t) (Q := Q) (typeIs_bytes s b t) FB.plainAttrs_bytes slot_tr type_tr (fun _ e => nomatch e) h
end Mine
namespace Mine
open PySem PySem.W PySem.W.X PyProof.Rows PySem.Calls
set_option maxRecDepth 100000
set_option maxHeartbeats 8000000
local macro_rules | `(tactic| walk_at "mine enter") => `(tactic| (
  refine wpAny_call ?_
  k_dflt (refine' enterK ?k1 ?k2 ?k3 ?k4 ?k5 ?k6 ?k7 ?_ ?c2 ?c3 ?c4 ?c5; (case k1 => k_asm); (case k2 => exact TopRead.nolimit (by assumption)); (case k3 => k_is); (case k4 => k_is); (case k5 => (dsimp only [recursionLimit]; lia)); (case k6 => first | exact BindsTo.of_eq rfl | exact binds_K (by k_in) rfl (by k_is) rfl rfl rfl); (case k7 => exact locs rfl); (case c2 => exact rfl); (case c3 => exact rfl); (case c4 => exact rfl); (case c5 => decide); k_whole)))
theorem b64 (w : World) (mg mb : Str → Option Value) (s : Shared) (dp un : Nat) (fr : Option (List Env)) (gd : Option (List Code)) (hdp : dp < 480) (Q E : Value → Shared → Prop)
    (X0 : (hh.heap_1 w.params).In s.heap) (T0 : TopRead vw ls mg mb s.heap) (x y z : UInt8) (t : Tok)
    (hQ : ∀ h' tk t', Keeps s.heap h' → Q (.bytes (byteArr ((b64o x.toNat y.toNat z.toNat 3).map fun (n : Nat) => (n : Int))) t') {s with heap := h', toks := tk}) :
    wpAny (model PySem.Challenge.rw_oh0008_01.row.prog w) { handled := none, depth := dp, frames := fr, guards := gd, units := un } (call (.ref 58) [.bytes #[x, y, z] t]) Q E s := by
  have X1 := X0
  revert X0; k_fill; intro X0
  walk_at "mine enter"
  intro L h₁ hL F N
  dsimp only
  refine noExc ?_
  k_fold
  k_steps
  (with_reducible rename Fr _ _ _ _ => F'); (with_reducible rename News _ _ _ _ => N')
  refine b2a w mg mb _ (dp + 1) (un + 3) _ _ (by lia) _ _ ?_ ?_ _ _ _ _ ?_
  · exact fun a o l => F'.keep _ _ (X1 a o l)
  · exact T0.keeps F'.keep
  intro h2 tk2 t2 k2
  replace F' := fr_keeps F' k2
  replace N' := news_keeps N' k2
  clear k2
  (try dsimp only)
  k_steps
  (try dsimp only)
  exact hQ _ _ _ (Fr.keep (by assumption))
def sgU (n : Nat) : Nat := ([65, 66, 67, 68, 69, 70, 71, 72, 73, 74, 75, 76, 77, 78, 79, 80, 81, 82, 83, 84, 85, 86, 87, 88, 89, 90, 97, 98, 99, 100, 101, 102, 103, 104, 105, 106, 107, 108, 109, 110, 111, 112, 113, 114, 115, 116, 117, 118, 119, 120, 121, 122, 48, 49, 50, 51, 52, 53, 54, 55, 56, 57, 45, 95] : List Nat).getD n 0
def b64i (x y z : Nat) : List Nat := [x / 4, (x * 256 + y) / 16 % 64, (y * 256 + z) / 64 % 64, z % 64]
def safeT : Array UInt8 := ((List.range 256).map fun n => if n = 43 then (45 : UInt8) else if n = 47 then 95 else UInt8.ofNat n).toArray
theorem safeAt : ∀ r : Fin 64, (fun c : UInt8 => safeT.getD c.toNat c) (UInt8.ofNat (Int.toNat ((sg r.val : Nat) : Int))) = UInt8.ofNat (sgU r.val) := by decide +kernel
theorem safe (w : World) (mg mb : Str → Option Value) (s : Shared) (dp un : Nat) (fr : Option (List Env)) (gd : Option (List Code)) (hdp : dp < 470) (Q E : Value → Shared → Prop)
    (X0 : (hh.heap_1 w.params).In s.heap) (T0 : TopRead vw ls mg mb s.heap) (x y z : UInt8) (t : Tok)
    (hQ : ∀ h' tk t', Keeps s.heap h' → Q (.bytes ((b64i x.toNat y.toNat z.toNat).map fun r => UInt8.ofNat (sgU r)).toArray t') {s with heap := h', toks := tk}) :
    wpAny (model PySem.Challenge.rw_oh0008_01.row.prog w) { handled := none, depth := dp, frames := fr, guards := gd, units := un } (call (.ref 65) [.bytes #[x, y, z] t]) Q E s := by
  have X1 := X0
  revert X0; k_fill; intro X0
  walk_at "mine enter"
  intro L h₁ hL F N
  dsimp only
  refine noExc ?_
  k_fold
  k_steps
  (with_reducible rename Fr _ _ _ _ => F'); (with_reducible rename News _ _ _ _ => N')
  refine b64 w mg mb _ (dp + 1) (un + 3) _ _ (by lia) _ _ ?_ ?_ _ _ _ _ ?_
  · exact fun a o l => F'.keep _ _ (X1 a o l)
  · exact T0.keeps F'.keep
  intro h2 tk2 t2 k2
  replace F' := fr_keeps F' k2
  replace N' := news_keeps N' k2
  clear k2
  (try dsimp only)
  k_steps
  refine getMethod_tr ?_
  k_steps
  (with_reducible rename Fr _ _ _ _ => F5)
  refine call_tr rfl (show 4 ≤ sizeLine by rw [sizeLine_eq]; lia) ?_
  intro t' k
  have hx3 := x.toNat_lt
  have key : ∀ r : Nat, r < 64 → (fun c : UInt8 => safeT.getD c.toNat c) (UInt8.ofNat (Int.toNat ((sg r : Nat) : Int))) = UInt8.ofNat (sgU r) := fun r hr => safeAt ⟨r, hr⟩
  have e : Array.map (fun c : UInt8 => safeT.getD c.toNat c) (byteArr ((b64o x.toNat y.toNat z.toNat 3).map fun (n : Nat) => (n : Int))) = ((b64i x.toNat y.toNat z.toNat).map fun r => UInt8.ofNat (sgU r)).toArray := by
    have e1 : byteArr ((b64o x.toNat y.toNat z.toNat 3).map fun (n : Nat) => (n : Int)) = ((b64i x.toNat y.toNat z.toNat).map fun r => UInt8.ofNat (Int.toNat ((sg r : Nat) : Int))).toArray := rfl
    rw [e1, List.map_toArray, List.map_map]
    congr 1
    refine List.map_congr_left fun r hr => key r ?_
    simp only [b64i, List.mem_cons, List.not_mem_nil, or_false] at hr
    lia
  have q := hQ h2 k t' F5.keep
  rw [← e] at q
  exact q
end Mine
namespace Mine
open PySem PySem.W PySem.W.X PyProof.Rows PySem.Calls
set_option maxRecDepth 100000
set_option maxHeartbeats 8000000
def wdF : Nat → Nat → List UInt8
  | 0, _ => []
  | k + 1, n => if n = 0 then [] else wdF k (n / 16) ++ [UInt8.ofNat (65 + n % 16)]
theorem wdF_zero : ∀ k, wdF k 0 = []
  | 0 => rfl
  | _ + 1 => rfl
theorem wdF_len : ∀ k n, (wdF k n).length ≤ k
  | 0, _ => Nat.le_refl _
  | k + 1, n => by
    unfold wdF
    split
    · simp
    · have := wdF_len k (n / 16); simp; lia
theorem picked16 : ∀ r : Fin 16, KBy.picked #[65, 66, 67, 68, 69, 70, 71, 72, 73, 74, 75, 76, 77, 78, 79, 80] (some ((r.val : Int))) (some ((r.val : Int) + 1)) = #[UInt8.ofNat (65 + r.val)] := by decide +kernel
theorem fdiv16 (a : Nat) : Int.fdiv (a : Int) 16 = ((a / 16 : Nat) : Int) := by
  rw [Int.fdiv_eq_ediv_of_nonneg _ (by decide)]; lia
theorem fmod16 (a : Nat) : Int.fmod (a : Int) 16 = ((a % 16 : Nat) : Int) := by
  rw [Int.fmod_eq_emod_of_nonneg _ (by decide)]; lia
inductive ApJ (s : Shared) (L : Addr) (n k : Nat) (s' : Shared) : Prop
  | mk (a : Nat) (v : Array UInt8) (h : Heap) (tk : Nat) (m : Str → Option Value) (tA tn tv : Tok) (e : s' = {s with heap := h, toks := tk}) (q : Fr s.heap L h m ∧ m (Str.ofString "num") = some (.int ((a : Nat) : Int) tn) ∧ m (Str.ofString "val") = some (.bytes v tv) ∧
    m (Str.ofString "AP") = some (.bytes #[65, 66, 67, 68, 69, 70, 71, 72, 73, 74, 75, 76, 77, 78, 79, 80] tA) ∧ a < 16 ^ k ∧ wdF k a ++ v.toList = wdF 6 n)
theorem int2ap (w : World) (mg mb : Str → Option Value) (s : Shared) (dp un : Nat) (fr : Option (List Env)) (gd : Option (List Code)) (hd : dp < 500) (Q E : Value → Shared → Prop)
    (X0 : (hh.heap_1 w.params).In s.heap) (T0 : TopRead vw ls mg mb s.heap) (x : Int) (n : Nat) (t : Tok) (hx : (if x < 0 then -x else x) = (n : Int)) (h1 : n < 16777216)
    (hQ : ∀ h' tk t', Keeps s.heap h' → Q (.bytes (wdF 6 n).toArray t') {s with heap := h', toks := tk}) :
    wpAny (model PySem.Challenge.rw_oh0008_01.row.prog w) { handled := none, depth := dp, frames := fr, guards := gd, units := un } (call (.ref 28) [.int x t]) Q E s := by
  revert X0; k_fill; intro X0
  refine wpAny_call ?_
  k_dflt (refine' enterK ?k1 ?k2 ?k3 ?k4 ?k5 ?k6 ?k7 ?_ ?c2 ?c3 ?c4 ?c5; (case k1 => k_asm); (case k2 => exact T0.nolimit); (case k3 => k_is); (case k4 => k_is); (case k5 => (show dp < 1000; lia)); (case k6 => exact BindsTo.of_eq rfl); (case k7 => exact locs rfl); (case c2 => exact rfl); (case c3 => exact rfl); (case c4 => exact rfl); (case c5 => decide); k_whole)
  intro L h₁ hL F N
  dsimp only
  refine noExc ?_
  refine execs_split 3 ?_
  dsimp only [List.take, List.drop]
  k_fold
  k_steps
  unfold Stop
  refine wpAny_execs_cons ?_
  refine while_inv (ApJ s L n) 6 ?_ ?_
  · rw [hx] at *
    exact ⟨n, #[], _, _, _, _, _, _, rfl, by assumption, rfl, rfl, rfl, h1, List.append_nil _⟩
  · rintro k s' ⟨a, v, h, tk, m, tA, tn, tv, rfl, F0, e1, e2, e3, ha, hw⟩
    have F := fr_puts [(_, _), (_, _), (_, _)] F0 (List.forall_mem_cons.2 ⟨e1, List.forall_mem_cons.2 ⟨e2, List.forall_mem_cons.2 ⟨e3, fun _ h => nomatch h⟩⟩⟩)
    dsimp only [putsM, List.foldr] at F
    have N : News s.heap L h [] := News.nil
    clear F0 e1 e2 e3
    (try k_unmd)
    dsimp only
    k_fold
    k_steps
    · (with_reducible rename Fr _ _ _ _ => F'); (with_reducible rename News _ _ _ _ => N')
      dsimp only
      dsimp only at F' N'
      refine KBc.slice_K (s := ⟨_, _, _, _, _⟩) F' N' (ks := [65, 66, 67, 68, 69, 70, 71, 72, 73, 74, 75, 76, 77, 78, 79, 80]) rfl (by constructor) (by constructor) (by decide) ?_
      intro h2 t2 k2 F2 N2 _
      rw [fmod16, picked16 ⟨a % 16, Nat.mod_lt _ (by decide)⟩]
      have hl : v.size ≤ 6 := by
        have := congrArg List.length hw
        have := wdF_len 6 n
        simp at *; lia
      k_steps
      refine KBy.add_bytes ?hs ?_
      (case hs => (show 1 + v.size ≤ 16777216; lia))
      intro t3 k3
      k_steps
      unfold Stop
      match k, ha, hw with
      | 0, ha, hw => exact absurd ha (by lia)
      | k + 1, ha, hw =>
        rw [fdiv16] at *
        refine ⟨k, Nat.lt_succ_self k, a / 16, _, _, _, _, _, _, _, rfl, by assumption, rfl, rfl, rfl, ?_, ?_⟩
        · rw [Nat.pow_succ] at ha; lia
        · rw [← hw, wdF, if_neg (by lia)]
          simp
    · have ha0 : a = 0 := by lia
      subst ha0
      rw [wdF_zero, List.nil_append] at hw
      unfold Stop
      (try dsimp only)
      (try k_fold)
      k_steps
      (try unfold Stop)
      (try dsimp only)
      have hv : v = (wdF 6 n).toArray := by rw [← hw]
      rw [hv]
      exact hQ _ _ _ (Fr.keep (by assumption))
end Mine
namespace Mine
open PySem PySem.W PyProof.Rows
theorem split_le (ns : List Nat) (i : Nat) : ∀ o : List Nat, o.Pairwise (fun a b => ns.getD a 0 ≤ ns.getD b 0) →
    (∀ k ∈ o.take (cntF ns o i), ns.getD k 0 ≤ ns.getD i 0) ∧ (∀ k ∈ o.drop (cntF ns o i), ns.getD i 0 < ns.getD k 0)
  | [], _ => ⟨fun _ h => by simp at h, fun _ h => by simp at h⟩
  | a :: r, p => by
    have p' := List.pairwise_cons.mp p
    obtain ⟨h1, h2⟩ := split_le ns i r p'.2
    by_cases e : ns.getD a 0 ≤ ns.getD i 0
    · have ec : cntF ns (a :: r) i = cntF ns r i + 1 := by
        unfold cntF; rw [List.filter_cons, if_pos (by simpa using e), List.length_cons]
      rw [ec, List.take_succ_cons, List.drop_succ_cons]
      refine ⟨fun k hk => ?_, h2⟩
      rcases List.mem_cons.mp hk with rfl | hk
      · exact e
      · exact h1 k hk
    · have ec : cntF ns (a :: r) i = 0 := by
        unfold cntF
        rw [List.length_eq_zero_iff, List.filter_eq_nil_iff]
        intro k hk
        rcases List.mem_cons.mp hk with rfl | hk
        · simpa using e
        · have := p'.1 k hk
          simp only [decide_eq_true_eq]; lia
      rw [ec, List.take_zero, List.drop_zero]
      refine ⟨fun _ h => (nomatch h), fun k hk => ?_⟩
      rcases List.mem_cons.mp hk with rfl | hk
      · lia
      · have := p'.1 k hk; lia
theorem ordF_perm (ns : List Nat) : ∀ i, (ordF ns i).Perm (List.range i)
  | 0 => List.Perm.refl _
  | i + 1 => by
    show (List.take _ _ ++ i :: List.drop _ _).Perm _
    refine List.perm_middle.trans ?_
    rw [List.take_append_drop, List.range_succ]
    exact ((ordF_perm ns i).cons i).trans (List.perm_append_singleton i (List.range i)).symm
theorem ordF_srt (ns : List Nat) : ∀ i, (ordF ns i).Pairwise (lexR ns)
  | 0 => List.Pairwise.nil
  | i + 1 => by
    have ih := ordF_srt ns i
    obtain ⟨h1, h2⟩ := split_le ns i (ordF ns i) (ih.imp fun h => by rcases h with h | h <;> lia)
    have hs : ((ordF ns i).take (cntF ns (ordF ns i) i) ++ (ordF ns i).drop (cntF ns (ordF ns i) i)).Pairwise (lexR ns) := by rw [List.take_append_drop]; exact ih
    obtain ⟨q1, q2, q3⟩ := List.pairwise_append.mp hs
    show (List.take _ _ ++ i :: List.drop _ _).Pairwise _
    refine List.pairwise_append.mpr ⟨q1, List.pairwise_cons.mpr ⟨fun b hb => .inl (h2 b hb), q2⟩, fun a ha b hb => ?_⟩
    rcases List.mem_cons.mp hb with rfl | hb
    · have := h1 a ha
      have := ordF_lt ns b a (List.mem_of_mem_take ha)
      rcases Nat.lt_or_eq_of_le (h1 a ha) with q | q
      · exact .inl q
      · exact .inr ⟨q, this⟩
    · exact q3 a ha b hb
def plc (c : UInt8) : Nat := alph.findIdx (· == c)
theorem plc_sg : ∀ r : Fin 64, plc (UInt8.ofNat (sgU r.val)) = r.val ∧ (((UInt8.ofNat (sgU r.val)).toNat : Nat) : Int) = alphN r.val := by decide +kernel
theorem sg_hex : ∀ r : Fin 16, UInt8.ofNat (65 + r.val) = UInt8.ofNat (sgU r.val) := by decide +kernel
theorem dg_zeros (b : Nat) : ∀ k, dg b k 0 = List.replicate k 0
  | 0 => rfl
  | k + 1 => by
    show 0 % b :: dg b k (0 / b) = _
    rw [Nat.zero_mod, Nat.zero_div, dg_zeros b k]; rfl
theorem row_hex : ∀ k n, ((wdF k n).map plc).reverse ++ List.replicate (k - (wdF k n).length) 0 = dg 16 k n
  | 0, _ => rfl
  | k + 1, n => by
    unfold wdF
    by_cases e : n = 0
    · subst e
      rw [if_pos rfl, dg_zeros]; rfl
    · rw [if_neg e, List.map_append, List.reverse_append, List.length_append, List.map_singleton, List.length_singleton, Nat.add_sub_add_right]
      have h16 := Nat.mod_lt n (show 0 < 16 by decide)
      rw [sg_hex ⟨n % 16, h16⟩, (plc_sg ⟨n % 16, by lia⟩).1]
      show n % 16 :: (((wdF k (n / 16)).map plc).reverse ++ List.replicate (k - (wdF k (n / 16)).length) 0) = n % 16 :: dg 16 k (n / 16)
      rw [row_hex k (n / 16)]
theorem wd_mem : ∀ k n c, c ∈ wdF k n → ∃ r, r < 64 ∧ c = UInt8.ofNat (sgU r)
  | 0, _, _, h => nomatch h
  | k + 1, n, c, h => by
    unfold wdF at h
    split at h
    · nomatch h
    · rcases List.mem_append.mp h with q | q
      · exact wd_mem k _ c q
      · have h16 := Nat.mod_lt n (show 0 < 16 by decide)
        rw [List.mem_singleton.mp q]
        exact ⟨n % 16, by lia, sg_hex ⟨n % 16, h16⟩⟩
def sgn64 (n : Nat) : List UInt8 := (b64i (n / 65536) (n / 256 % 256) (n % 256)).map fun r => UInt8.ofNat (sgU r)
theorem row_64 (n : Nat) (h : n < 16777216) : ((sgn64 n).map plc).reverse ++ List.replicate (6 - (sgn64 n).length) 0 = dg 64 6 n := by
  have e : (sgn64 n).map plc = b64i (n / 65536) (n / 256 % 256) (n % 256) := by
    unfold sgn64
    rw [List.map_map]
    refine (List.map_congr_left fun r hr => ?_).trans (List.map_id _)
    have : r < 64 := by
      simp only [b64i, List.mem_cons, List.not_mem_nil, or_false] at hr
      lia
    exact (plc_sg ⟨r, this⟩).1
  rw [e]
  show [n % 256 % 64, (n / 256 % 256 * 256 + n % 256) / 64 % 64, (n / 65536 * 256 + n / 256 % 256) / 16 % 64, n / 65536 / 4, 0, 0] = [n % 64, n / 64 % 64, n / 64 / 64 % 64, n / 64 / 64 / 64 % 64, n / 64 / 64 / 64 / 64 % 64, n / 64 / 64 / 64 / 64 / 64 % 64]
  congr 1
  · lia
  congr 1
  · omega
  congr 1
  · omega
  congr 1
  · omega
  congr 1
  · lia
  congr 1
  lia
theorem sg_mem (n : Nat) (h : n < 16777216) (c : UInt8) (hc : c ∈ sgn64 n) : ∃ r, r < 64 ∧ c = UInt8.ofNat (sgU r) := by
  obtain ⟨r, hr, rfl⟩ := List.mem_map.mp hc
  refine ⟨r, ?_, rfl⟩
  simp only [b64i, List.mem_cons, List.not_mem_nil, or_false] at hr
  lia
theorem nums_sum (is : List Int) : (numsS is).sum < 16777216 := by
  have h : ∀ l : List Int, (l.map modN).sum ≤ l.length * 1048575 := by
    intro l
    induction l with
    | nil => simp
    | cons a r ih => rw [List.map_cons, List.sum_cons, List.length_cons]; have := modN_lt a; lia
  unfold numsS
  rw [List.sum_append]
  have := h (is.take 4)
  have : (is.take 4).length ≤ 4 := by rw [List.length_take]; lia
  have e : ([1048575, 1, 61680, 4095, 65] : List Nat).sum = 1114416 := rfl
  lia
theorem nums_len (is : List Int) : 5 ≤ (numsS is).length ∧ (numsS is).length ≤ 9 := by
  unfold numsS
  rw [List.length_append, List.length_map, List.length_take]
  show 5 ≤ min 4 is.length + 5 ∧ min 4 is.length + 5 ≤ 9
  lia
end Mine
namespace Mine
open PySem PySem.W PySem.W.X PyProof.Rows PySem.Calls
set_option maxRecDepth 100000
set_option maxHeartbeats 400000
section
variable {w : World} {mg mb : Str → Option Value} {s : Shared} {dp un : Nat} {fr : Option (List Env)} {gd : Option (List Code)} {Q : Flow → Shared → Prop} {E : Value → Shared → Prop} {L f : Addr} {cd : Value} {hb : Heap} {m : Str → Option Value}
theorem lw5 (hdp : dp < 480) (F : Fr hb L s.heap m) (O : Okk w mg mb hb) (b67 : hb.get? 67 = none) (b123 : hb.get? 123 = none) (h67 : s.heap.get? 67 = some (tabObj #[])) (h123 : s.heap.get? 123 = some (tabObj #[])) (BM : s.heap.BuiltinsAt mg 67)
    (hQ : ∀ C ce h' tk, Fr hb L h' (fun z => if z = Str.ofString "key" then some (.ref C) else m z) → Off [L, 67] s.heap h' → KCls (hideAll h' [L, 123]) C ce → (∃ qs, h'.get? 67 = some (tabObj qs)) → Q .next { s with heap := h', toks := tk }) :
    wpAny (model pr w) (oA dp un fr gd) (exec (lX 5) (lE L f cd)) Q E s := by
  have Oh : Okk w mg mb s.heap := O.keeps F.keep
  refine wpAny_Assign_Name (Call_ (nmG Oh (gg_ctk _) rfl rfl rfl ?_))
  refine callG Oh (fn_ctk _) (args_cons (nmG Oh (gg_gap _) rfl rfl rfl (args_nil ⟨Oh, ?_⟩)))
  refine ctk w mg mb s dp un fr gd (by lia) _ _ Oh.X Oh.T h67 BM fun h' tk' C ce k KC g67 => ?_
  obtain ⟨oL, es, ep, eL, dL, rL⟩ := id F.ns
  have nL : L ≠ 67 := by rintro rfl; rw [h67] at eL; cases eL; cases dL
  have eL' := k _ _ nL eL
  have F1 : Fr hb L h' m := ⟨⟨oL, es, ep, eL', dL, rL⟩, fun b o e => k b o (fun q => by rw [q, b67] at e; cases e) (F.keep b o e), F.above⟩
  have h123' := k _ _ (by decide) h123
  have KC1 : KCls (hideAll h' [L, 123]) C ce := by
    refine KC.hide fun a ha => ?_
    simp only [List.mem_cons, List.not_mem_nil, or_false] at ha
    rcases ha with rfl | rfl
    · refine ⟨nL, ⟨oL, eL⟩, fun o e => ?_⟩
      rw [eL'] at e; cases e
      exact ⟨fun fd q => (by rw [dL] at q; cases q), fun vs q => (by rw [dL] at q; cases q)⟩
    · refine ⟨by decide, ⟨_, h123⟩, fun o e => ?_⟩
      rw [h123'] at e; cases e
      exact ⟨fun fd q => (by cases q), fun vs q => (by cases q; intro q t z; cases z)⟩
  refine wpAny_storeName_local rfl F1.ns (fun h2 n2 sb => ?_) rfl
  have B1 := (Bs.anew [L, 123] h').step (Off.same sb (.head _))
  exact hQ C ce h2 _ (fr_store F1 n2 sb) ((Off.ext (L := 67) k (.tail _ (.head _))).trans (Off.same sb (.head _))) (KC1.keeps (B1.up fun _ h => h)) (let ⟨qs, g⟩ := g67; ⟨qs, (sb.2 67 (Ne.symm nL)).trans g⟩)
theorem keeps_butL {h₁ h : Heap} (F : Fr hb L h₁ m) (k : KeepsBut L h₁ h) : Keeps hb h := fun b o e => k b o (fun q => by rw [q, Heap.get?_none_of_le F.above] at e; cases e) (F.keep b o e)
theorem iterE {Q : Value → Shared → Prop} {ln : Addr} {nv : List Value} {ns : List Nat} {p1 p2 p3 p4 p5 p6 p7 : Pos} {k5 : Nat} (F : Fr hb L s.heap m) (O : Okk w mg mb hb) (cN : s.heap.IsCell (L + 1 + 1 + 1 + 1) (some (.ref ln))) (hn : s.heap.IsList ln nv.toArray) (hni : NatsAre nv ns) (n60 : ns.length < 60)
    (hQ : ∀ D h' tk zs, Fr hb L h' m → KeepsBut L s.heap h' → h'.IsList D (List.toArray zs) → NatsAre zs (ns ++ [ns.sum, 0]) → Q (.ref D) { s with heap := h', toks := tk }) :
    wpAny (model pr w) (oA dp un fr gd) (eval (.BinOp (.Name (Str.ofString "numbers") p1) .Add (.List [.Call (.Name (Str.ofString "sum") p2) [.Name (Str.ofString "numbers") p3] [] p4, .Constant (.int 0) k5 p5] p6) p7) (lE L f cd)) Q E s := by
  have Oh : Okk w mg mb s.heap := O.keeps F.keep
  obtain ⟨oN, eN, dN⟩ := id cN
  obtain ⟨oL, es, ep, eL, dL, rL⟩ := id F.ns
  have nN : L + 1 + 1 + 1 + 1 ≠ L := Nat.ne_of_gt (Nat.lt_succ_of_lt (Nat.lt_succ_of_lt (Nat.lt_succ_of_lt (Nat.lt_succ_self L))))
  have nn : ln ≠ L := by rintro rfl; obtain ⟨o, e, _, c, hd⟩ := hn; change s.heap.get? ln = _ at eL; rw [e] at eL; cases eL; rw [hd] at dL; cases dL
  refine wpAny_BinOp (wpAny_Name (wpAny_loadName_cell rfl rfl rfl cN ?_))
  refine listE (args_cons (Call_ (nmB Oh bb_sum (nn_sum _) rfl rfl rfl rfl ?_)))
  refine callWith_builtin1 (args_cons (wpAny_Name (wpAny_loadName_cell rfl rfl rfl cN (args_nil (sumE F rfl hn hni fun h1 tk1 t1 F1 k1 => ?_)))))
  rw [sum_cast]
  refine args_cons (wpAny_Constant_int (args_nil ⟨by rw [sizeLine_eq]; exact (by decide : 2 ≤ 16777216), fun D2 h2 k2 n2 g2 => ?_⟩))
  have F2 := fr_keeps F1 k2
  have hn2 : h2.IsList ln nv.toArray := by
    obtain ⟨o, e, r⟩ := hn
    exact ⟨o, k2 _ _ (k1 _ _ nn e), r⟩
  refine addL F2 hn2 ⟨_, g2, rfl, _, rfl⟩ hni (ms := [((ns.sum : Nat) : Int), 0]) (.cons _ _ (.cons _ _ .nil)) (by rw [List.length_map, sizeLine_eq]; simp; lia) fun D3 h3 F3 k3 n3 g3 => ?_
  refine hQ D3 h3 _ _ F3 (fun b o n e => k3 b o n (k2 _ _ (k1 b o n e))) ⟨_, g3, rfl, _, rfl⟩ ?_
  unfold NatsAre
  rw [List.map_append]
  exact IntsAre.append hni (.cons _ _ (.cons _ _ .nil))
def BytesAt (ys : List Value) (fn : Nat → List UInt8) (Ns : List Nat) : Prop := ∀ (j : Nat) v N, ys[j]? = some v → Ns[j]? = some N → ∃ t, v = .bytes (fn N).toArray t
theorem bytesAt_snoc {ys : List Value} {fn : Nat → List UInt8} {Ns : List Nat} {N : Nat} {t : Tok} (h : BytesAt ys fn Ns) (hN : Ns[ys.length]? = some N) : BytesAt (ys ++ [.bytes (fn N).toArray t]) fn Ns := by
  intro j v M e1 e2
  rcases Nat.lt_or_ge j ys.length with q | q
  · rw [List.getElem?_append_left q] at e1; exact h j v M e1 e2
  · rw [List.getElem?_append_right q] at e1
    have : j = ys.length := by
      have := (List.getElem?_eq_some_iff.mp e1).1
      simp at this; lia
    subst this
    rw [Nat.sub_self] at e1
    rw [hN] at e2
    cases e1; cases e2
    exact ⟨t, rfl⟩
theorem lw6 {ln : Addr} {nv : List Value} {ns : List Nat} (hdp : dp < 480) (F : Fr hb L s.heap m) (O : Okk w mg mb hb) (cN : s.heap.IsCell (L + 1 + 1 + 1 + 1) (some (.ref ln))) (hn : s.heap.IsList ln nv.toArray) (hni : NatsAre nv ns) (n60 : ns.length < 60) (hsum : ns.sum < 16777216)
    (hQ : ∀ W h' tk ys, Fr hb L h' (fun z => if z = Str.ofString "words" then some (.ref W) else m z) → KeepsBut L s.heap h' → h'.IsList W (List.toArray ys) → ys.length = ns.length + 2 → BytesAt ys (wdF 6) (ns ++ [ns.sum, 0]) → Q .next { s with heap := h', toks := tk }) :
    wpAny (model pr w) (oA dp un fr gd) (exec (lX 6) (lE L f cd)) Q E s := by
  refine compA rfl F rfl rfl rfl (by decide) rfl (by decide) rfl rfl rfl ?_
  refine iterE F O cN hn hni n60 fun D h1 tk1 zs F1 k1 hD hz => .inl ⟨D, zs.toArray, rfl, F1, hD, by rw [List.size_toArray, sizeLine_eq, natsAre_len hz]; simp; lia, ?_⟩
  have hzl : zs.length = ns.length + 2 := by rw [natsAre_len hz]; simp
  refine ⟨fun i ys new => ys.length = i ∧ BytesAt ys (wdF 6) (ns ++ [ns.sum, 0]), ⟨rfl, fun j v N e => by cases e⟩, ?_, ?_⟩
  · rintro i ys new v C' m₂ h tk E' hi ⟨hyl, hJ⟩ hP hNs hx kB hnsL hnew
    have Oh2 : Okk w mg mb h := O.keeps (keeps_butL F1 kB)
    obtain ⟨N, u, rfl, hN⟩ := natsAre_get hz (by simpa using hP)
    have hNb : N < 16777216 := by
      rcases List.mem_append.mp (List.mem_of_getElem? hN) with q | q
      · exact Nat.lt_of_le_of_lt (le_sum q) hsum
      · simp only [List.mem_cons, List.not_mem_nil, or_false] at q
        lia
    refine Call_ (nmG Oh2 (gg_ap _) rfl rfl rfl ?_)
    refine callG Oh2 (fn_ap _) (args_cons (wpAny_BinOp (wpAny_Constant_int (wpAny_Name (wpAny_loadName_local rfl rfl hNs hx (subE (c := -(N : Int)) (by lia) (args_nil ⟨Oh2, ?_⟩)))))))
    refine int2ap w mg mb _ dp un _ _ (by lia) _ _ Oh2.X Oh2.T _ N _ (by split <;> lia) hNb fun h' tk' t' k' => ?_
    refine ⟨h', _, [], rfl, k', fun _ h => (nomatch h), by rw [List.length_append, hyl]; rfl, ?_⟩
    exact bytesAt_snoc hJ (by rw [hyl]; exact hN)
  · rintro ys new ⟨hyl, hJ⟩ D' h' tk kB F2 nD gD gN
    rw [List.size_toArray, hzl] at hyl
    exact hQ D' h' tk ys F2 (fun b o n e => kB b o n (k1 b o n e)) ⟨_, gD, rfl, _, rfl⟩ hyl hJ
end
end Mine
namespace Mine
open PySem PySem.W PySem.W.X PyProof.Rows PySem.Calls
set_option maxRecDepth 100000
set_option maxHeartbeats 8000000
local macro_rules | `(tactic| walk_at "mine enter") => `(tactic| (
  refine wpAny_call ?_
  k_dflt (refine' enterK ?k1 ?k2 ?k3 ?k4 ?k5 ?k6 ?k7 ?_ ?c2 ?c3 ?c4 ?c5; (case k1 => k_asm); (case k2 => exact TopRead.nolimit (by assumption)); (case k3 => k_is); (case k4 => k_is); (case k5 => (dsimp only [recursionLimit]; lia)); (case k6 => exact BindsTo.of_eq rfl); (case k7 => exact locs rfl); (case c2 => exact rfl); (case c3 => exact rfl); (case c4 => exact rfl); (case c5 => decide); k_whole)))
theorem octets (w : World) (mg mb : Str → Option Value) (s : Shared) (dp un : Nat) (fr : Option (List Env)) (gd : Option (List Code)) (hdp : dp < 500) (Q E : Value → Shared → Prop)
    (X0 : (hh.heap_1 w.params).In s.heap) (T0 : TopRead vw ls mg mb s.heap) (n : Nat) (t2 : Tok) (h1 : n < 16777216)
    (hQ : ∀ h' tk t', Keeps s.heap h' → Q (.bytes #[UInt8.ofNat (n / 65536), UInt8.ofNat (n / 256 % 256), UInt8.ofNat (n % 256)] t') {s with heap := h', toks := tk}) :
    wpAny (model PySem.Challenge.rw_oh0008_01.row.prog w) { handled := none, depth := dp, frames := fr, guards := gd, units := un } (call (.ref 88) [.int (n : Int) t2]) Q E s := by
  revert X0; k_fill; intro X0
  walk_at "mine enter"
  intro L h₁ hL F N
  dsimp only
  refine noExc ?_
  k_fold
  k_steps
  (with_reducible rename Fr _ _ _ _ => F'); (with_reducible rename News _ _ _ _ => N')
  (try dsimp only)
  refine KBa.make_K (ns := [Int.fdiv (n : Int) 65536, Int.fmod (Int.fdiv (n : Int) 256) 256, Int.fmod (n : Int) 256]) F' N' rfl (News.isList N' (.head _)) (.cons _ _ (.cons _ _ (.cons _ _ .nil))) ?_ (show 3 ≤ 16777216 by decide) ?_
  · have e1 : Int.fdiv (n : Int) 65536 = ((n / 65536 : Nat) : Int) := fdivN n 65536
    have e2 : Int.fdiv (n : Int) 256 = ((n / 256 : Nat) : Int) := fdivN n 256
    have e3 : Int.fmod (n : Int) 256 = ((n % 256 : Nat) : Int) := fmodN n 256
    have e4 : Int.fmod ((n / 256 : Nat) : Int) 256 = ((n / 256 % 256 : Nat) : Int) := fmodN (n / 256) 256
    rw [e1, e2, e3, e4]
    intro x hx
    simp only [List.mem_cons, List.not_mem_nil, or_false] at hx
    lia
  · intro h' t' k F2 N2 _
    have e : byteArr [Int.fdiv (n : Int) 65536, Int.fmod (Int.fdiv (n : Int) 256) 256, Int.fmod (n : Int) 256] = #[UInt8.ofNat (n / 65536), UInt8.ofNat (n / 256 % 256), UInt8.ofNat (n % 256)] := by
      have e1 : Int.fdiv (n : Int) 65536 = ((n / 65536 : Nat) : Int) := fdivN n 65536
      have e2 : Int.fdiv (n : Int) 256 = ((n / 256 : Nat) : Int) := fdivN n 256
      have e3 : Int.fmod (n : Int) 256 = ((n % 256 : Nat) : Int) := fmodN n 256
      have e4 : Int.fmod ((n / 256 : Nat) : Int) 256 = ((n / 256 % 256 : Nat) : Int) := fmodN (n / 256) 256
      rw [e1, e2, e3, e4]
      rfl
    rw [e]
    exact hQ _ _ _ F2.keep
end Mine
namespace Mine
open PySem PySem.W PySem.W.X PyProof.Rows PySem.Calls
set_option maxRecDepth 100000
set_option maxHeartbeats 8000000
local macro_rules | `(tactic| walk_at "mine enterC") => `(tactic| (
  refine wpAny_call ?_
  k_dflt (refine' enterKC ?k1 ?k2 ?k3 ?k4 ?k5 ?k6 ?k7 ?k8 ?k9 ?k10 ?_ ?c2 ?c3 ?c4; (case k1 => k_asm); (case k2 => exact TopRead.nolimit (by assumption)); (case k3 => k_is); (case k4 => k_is); (case k5 => (dsimp only [recursionLimit]; lia)); (case k6 => exact BindsTo.of_eq rfl); (case k7 => exact rfl); (case k8 => decide +kernel); (case k9 => exact fun _ _ e => e); (case k10 => exact Nat.le_refl _); (case c2 => exact rfl); (case c3 => exact rfl); (case c4 => exact rfl); k_whole)))
local macro_rules | `(tactic| walk_at "call builtin:dict.get") => `(tactic| refine stop_out ?_)
local macro_rules | `(tactic| walk_at "getMethod ref") => `(tactic| refine stop_out ?_)
theorem lrow (w : World) (mg mb : Str → Option Value) (s : Shared) (dp un : Nat) (fr : Option (List Env)) (gd : Option (List Code)) (hdp : dp < 500) (Q E : Value → Shared → Prop)
    (X0 : (hh.heap_1 w.params).In s.heap) (T0 : TopRead vw ls mg mb s.heap) (P : Addr) (f : Int → Option Value) (hP : s.heap.MapOf (intKind PySem.Challenge.rw_oh0008_01.row.prog w) P f) (hPs : (P == sysModules) = false) (pl : UInt8 → Nat) (wr : Array UInt8) (t : Tok) (hw : wr.size ≤ 6)
    (hf : ∀ (i : Nat) (c : UInt8), wr[i]? = some c → ∃ u, f (c.toNat : Int) = some (.int (pl c : Int) u))
    (hQ : ∀ h' tk r n ws, Keeps s.heap h' → s.heap.get? r = none → h'.get? r = some { cls := .type "list", data := .seq ws.toArray n } → NatsAre ws ((wr.toList.map pl).reverse ++ List.replicate (6 - wr.size) 0) → Q (.ref r) {s with heap := h', toks := tk}) :
    wpAny (model PySem.Challenge.rw_oh0008_01.row.prog w) { handled := none, depth := dp, frames := fr, guards := gd, units := un } (call (.ref 93) [.ref P, .bytes wr t]) Q E s := by
  revert X0; k_fill; intro X0
  walk_at "mine enterC"
  intro L h₁ tk cells hL F N Y hk
  k_cells Y
  (try simp only [List.cons_append, List.nil_append] at N)
  dsimp only
  refine noExc ?_
  refine wpAny_execs_cons ?_
  refine assign_comp_bytes F rfl rfl rfl (by decide) rfl (by decide) rfl rfl rfl ?_ (by intro _; rfl)
  (try k_unmd); (try dsimp only); k_fold
  k_steps
  unfold Stop
  refine ⟨wr, t, _, rfl, rfl, F, N, by rw [sizeLine_eq]; lia, ?_⟩
  rintro s₂ ⟨g, rfl⟩
  refine compRest_inv (n := wr.size) (fun i ys news => news = [(L + 1, _)] ∧ NatsAre ys ((wr.toList.take i).map pl)) ?_ ?_ wr.size 0 [] _ rfl ⟨rfl, .nil⟩
  · rintro i ys news v I oI C oC D m₂ h tk E' hi ⟨rfl, hys⟩ ⟨c, u, hc, rfl⟩ hC hx F1 N1 off ne
    (try k_unmd); (try dsimp only); k_fold
    k_steps
    unfold Stop
    refine getMethod_map (mapOf_keeps hP F1.keep) ?_
    k_steps
    unfold Stop
    refine get_map (mapOf_keeps hP F1.keep) hPs ?_
    obtain ⟨u2, hfc⟩ := hf i c hc
    rw [hfc]
    refine LCg.CompEnd.intro F1 N1 _ (fun p hp => hp) off trivial ⟨rfl, ?_⟩
    have hit : wr.toList.take (i + 1) = wr.toList.take i ++ [c] := by
      rw [List.take_add_one]; congr 1; rw [Array.getElem?_toList, hc]; rfl
    rw [hit, List.map_append]
    exact natsAre_snoc hys _ _
  · rintro ys news ⟨rfl, hys⟩
    intro D h tk F1 N1 off
    have htk : wr.toList.take wr.size = wr.toList := List.take_of_length_le (by simp)
    rw [htk] at hys
    have hyl : ys.length = wr.size := by have := natsAre_len hys; simpa using this
    (try k_unmd); (try dsimp only); (try k_unmd); (try k_fold)
    k_steps
    (with_reducible rename Fr _ _ _ _ => F2); (with_reducible rename News _ _ _ _ => N2)
    refine len_list (News.isList N2 (by k_mem)) (by rw [List.size_toArray, hyl]; lia) ?_
    rw [List.size_toArray, hyl]
    k_steps
    (with_reducible rename Fr _ _ _ _ => F3); (with_reducible rename News _ _ _ _ => N3)
    (with_reducible rename IntsAre (List.flatten _) _ => i1); (with_reducible rename IntsAre _ (List.reverse _) => i0)
    have l1 := IntsAre.length i1
    have l0 := IntsAre.length i0
    have en : (6 - (wr.size : Int)).toNat = 6 - wr.size := by lia
    have ef : (List.replicate (6 - (wr.size : Int)).toNat [(0 : Int)]).flatten = List.replicate (6 - wr.size) (0 : Int) := by
      rw [en]; induction (6 - wr.size) with
      | zero => rfl
      | succ k ih => rw [List.replicate_succ, List.flatten_cons, ih]; rfl
    rw [ef] at i1
    refine add_arrays_ints F3 N3 (News.isList N3 (by k_mem)) (News.isList N3 (by k_mem)) i0 i1 ?_ ?_
    · intro h4 F4 N4 I4
      have q := N4 _ (.head _)
      refine hQ _ _ _ _ _ F4.keep q.2.2 q.1 ?_
      have e : (List.map (fun (n : Nat) => (n : Int)) (List.map pl wr.toList)).reverse ++ List.replicate (6 - wr.size) (0 : Int) = ((wr.toList.map pl).reverse ++ List.replicate (6 - wr.size) 0).map fun (n : Nat) => (n : Int) := by
        rw [List.map_append, List.map_reverse, List.map_replicate]; rfl
      rw [e] at I4
      exact I4
    · simp [sizeLine_eq]; lia
end Mine
namespace Mine
open PySem PySem.W PySem.W.X PyProof.Rows PySem.Calls
set_option maxRecDepth 100000
set_option maxHeartbeats 400000
theorem u8 {k : Nat} (h : k < 256) : (UInt8.ofNat k).toNat = k := by
  rw [UInt8.toNat_ofNat']; exact Nat.mod_eq_of_lt h
section
variable {w : World} {mg mb : Str → Option Value} {s : Shared} {dp un : Nat} {fr : Option (List Env)} {gd : Option (List Code)} {Q : Flow → Shared → Prop} {E : Value → Shared → Prop} {L f : Addr} {cd : Value} {hb hb₂ : Heap} {m : Str → Option Value}
theorem lw8 {ln : Addr} {nv : List Value} {ns : List Nat} (hdp : dp < 460) (F : Fr hb L s.heap m) (O : Okk w mg mb hb) (cN : s.heap.IsCell (L + 1 + 1 + 1 + 1) (some (.ref ln))) (hn : s.heap.IsList ln nv.toArray) (hni : NatsAre nv ns) (n60 : ns.length < 60) (hsum : ns.sum < 16777216)
    (hQ : ∀ W h' tk ys, Fr hb L h' (fun z => if z = Str.ofString "signs" then some (.ref W) else m z) → KeepsBut L s.heap h' → h'.IsList W (List.toArray ys) → ys.length = ns.length + 2 → BytesAt ys sgn64 (ns ++ [ns.sum, 0]) → Q .next { s with heap := h', toks := tk }) :
    wpAny (model pr w) (oA dp un fr gd) (exec (lX 8) (lE L f cd)) Q E s := by
  refine compA rfl F rfl rfl rfl (by decide) rfl (by decide) rfl rfl rfl ?_
  refine iterE F O cN hn hni n60 fun D h1 tk1 zs F1 k1 hD hz => .inl ⟨D, zs.toArray, rfl, F1, hD, by rw [List.size_toArray, sizeLine_eq, natsAre_len hz]; simp; lia, ?_⟩
  have hzl : zs.length = ns.length + 2 := by rw [natsAre_len hz]; simp
  refine ⟨fun i ys new => ys.length = i ∧ BytesAt ys sgn64 (ns ++ [ns.sum, 0]), ⟨rfl, fun j v N e => by cases e⟩, ?_, ?_⟩
  · rintro i ys new v C' m₂ h tk E' hi ⟨hyl, hJ⟩ hP hNs hx kB hnsL hnew
    have Oh2 : Okk w mg mb h := O.keeps (keeps_butL F1 kB)
    obtain ⟨N, u, rfl, hN⟩ := natsAre_get hz (by simpa using hP)
    have hNb : N < 16777216 := by
      rcases List.mem_append.mp (List.mem_of_getElem? hN) with q | q
      · exact Nat.lt_of_le_of_lt (le_sum q) hsum
      · simp only [List.mem_cons, List.not_mem_nil, or_false] at q
        lia
    refine Call_ (nmG Oh2 (gg_safe _) rfl rfl rfl ?_)
    refine callG Oh2 (fn_safe _) (args_cons (Call_ (nmG Oh2 (gg_oct _) rfl rfl rfl ?_)))
    refine callG Oh2 (fn_oct _) (args_cons (wpAny_Name (wpAny_loadName_local rfl rfl hNs hx (args_nil ⟨Oh2, ?_⟩))))
    refine octets w mg mb _ dp un _ _ (by lia) _ _ Oh2.X Oh2.T N _ hNb fun h2 tk2 t2 k2 => ?_
    have O3 : Okk w mg mb h2 := Oh2.keeps k2
    refine args_nil ⟨O3, ?_⟩
    refine safe w mg mb _ dp un _ _ (by lia) _ _ O3.X O3.T _ _ _ _ fun h3 tk3 t3 k3 => ?_
    rw [u8 (by lia), u8 (by lia), u8 (by lia)]
    refine ⟨h3, _, [], rfl, fun b o e => k3 _ _ (k2 _ _ e), fun _ h => (nomatch h), by rw [List.length_append, hyl]; rfl, ?_⟩
    exact bytesAt_snoc (fn := sgn64) hJ (by rw [hyl]; exact hN)
  · rintro ys new ⟨hyl, hJ⟩ D' h' tk kB F2 nD gD gN
    rw [List.size_toArray, hzl] at hyl
    exact hQ D' h' tk ys F2 (fun b o n e => kB b o n (k1 b o n e)) ⟨_, gD, rfl, _, rfl⟩ hyl hJ
structure FnOk (f : Int → Option Value) (fn : Nat → List UInt8) (b : Nat) (Ns : List Nat) : Prop where
  len : ∀ N ∈ Ns, (fn N).length ≤ 6
  at' : ∀ N ∈ Ns, ∀ (i : Nat) c, (fn N).toArray[i]? = some c → ∃ u, f (c.toNat : Int) = some (.int (plc c : Int) u)
  row : ∀ N ∈ Ns, ((fn N).map plc).reverse ++ List.replicate (6 - (fn N).length) 0 = dg b 6 N
theorem often_word {C ce P ln lo W : Addr} {nv ov ys : List Value} {ns : List Nat} {f' : Int → Option Value} {fn : Nat → List UInt8} {b : Nat} {Q : Value → Shared → Prop} {p1 p2 p3 p4 p5 p6 p7 p8 p9 p10 p11 p12 p13 : Pos} {kb : Nat} (hdp : dp < 380) (hun : un < 8800) (F : Fr hb L s.heap m) (b123 : hb.get? 123 = none) (O : Okk w mg mb hb) (BM : hb.BuiltinsAt mg 123) (CH : CodeHd hb 125 123) (TB : Tab s.heap qLam)
    (B : Bs [L, 123] hb₂ s.heap) (KC : KCls hb₂ C ce) (cN : hb₂.IsCell (L + 1 + 1 + 1 + 1) (some (.ref ln))) (cP : hb₂.IsCell (L + 1 + 1 + 1) (some (.ref P))) (hP : hb₂.MapOf (intKind pr w) P f') (nP : (P == sysModules) = false) (hn : hb₂.IsList ln nv.toArray) (hni : NatsAre nv ns) (n2 : 2 ≤ ns.length) (n60 : ns.length < 60)
    (mo : m (Str.ofString "order") = some (.ref lo)) (mk : m (Str.ofString "key") = some (.ref C)) (mw : m (Str.ofString "words") = some (.ref W)) (ho : hb₂.IsList lo ov.toArray) (hoi : NatsAre ov (ordF ns ns.length)) (hW : hb₂.IsList W ys.toArray) (hyl : ys.length = ns.length + 2) (hB : BytesAt ys fn (ns ++ [ns.sum, 0])) (ok : FnOk f' fn b (ns ++ [ns.sum, 0]))
    (hb1 : 2 ≤ b) (hb2 : b ≤ 64) (hlt : ns.sum < b ^ 6) (hsum : ns.sum < 16777216)
    (hQ : ∀ h' tk, Fr hb L h' m → Off [L, 123] s.heap h' → Tab h' qLam → Q (.bool true) { s with heap := h', toks := tk }) :
    wpAny (model pr w) (oA dp un fr gd) (eval (.Call (.Name (Str.ofString "_law_as_often") p1) [.Constant (.int (b : Int)) kb p2, .Name (Str.ofString "numbers") p3, .Name (Str.ofString "order") p4, .Name (Str.ofString "key") p5,
      .ListComp (.Call (.Name (Str.ofString "_law_row") p6) [.Name (Str.ofString "places") p7, .Name (Str.ofString "word") p8] [] p9) [⟨.Name (Str.ofString "word") p10, .Name (Str.ofString "words") p11, [], 0⟩]
        { kind := .function, names := [(Str.ofString ".0", .local), (Str.ofString "word", .local), (Str.ofString "_law_row", .globalImplicit), (Str.ofString "places", .free)], isGenerator := false, isCoroutine := false, more := [] } p12] [] p13) (lE L f cd)) Q E s := by
  have inL : L ∈ [L, 123] := .head _
  have inT : 123 ∈ [L, 123] := .tail _ (.head _)
  have Oh : Okk w mg mb s.heap := O.keeps F.keep
  refine Call_ (nmG Oh (gg_often _) rfl rfl rfl ?_)
  refine callG Oh (fn_often _) (args_cons (wpAny_Constant_int (args_cons (wpAny_Name (wpAny_loadName_cell rfl rfl rfl (cN.keeps B.k) ?_)))))
  refine args_cons (nmL F (v := .ref lo) mo (args_cons (nmL F (v := .ref C) mk ?_)))
  refine args_cons (compE rfl F rfl (by decide) rfl (by decide) rfl ?_)
  refine nmL F (v := .ref W) mw (.inl ⟨W, ys.toArray, rfl, F, isList_keeps hW B.k, by rw [List.size_toArray, sizeLine_eq]; lia, ?_⟩)
  refine ⟨fun i rs new => rs.length = i ∧ ∀ (j : Nat) v N, rs[j]? = some v → (ns ++ [ns.sum, 0])[j]? = some N → ∃ r us n, v = .ref r ∧ (r, ({ cls := .type "list", data := .seq (List.toArray us) n } : Obj)) ∈ new ∧ NatsAre us (dg b 6 N), ⟨rfl, fun j v N e => by cases e⟩, ?_, ?_⟩
  · rintro i rs new v C' m₂ h tk E' hi ⟨hrl, hJ⟩ hP' hNs hx kB hnsL hnew
    have Bh := B.step (Off.but kB inL)
    have Oh2 : Okk w mg mb h := O.keeps (keeps_butL F kB)
    have hv : ys[i]? = some v := by simpa using hP'
    have hi2 : i < (ns ++ [ns.sum, 0]).length := by
      have := (List.getElem?_eq_some_iff.mp hv).1
      rw [List.length_append]; show i < ns.length + 2; lia
    obtain ⟨N, hN⟩ : ∃ N, (ns ++ [ns.sum, 0])[i]? = some N := ⟨_, List.getElem?_eq_getElem hi2⟩
    obtain ⟨t, rfl⟩ := hB i v N hv hN
    have hNm := List.mem_of_getElem? hN
    refine Call_ (nmG Oh2 (gg_row _) rfl rfl rfl ?_)
    refine callG Oh2 (fn_row _) (args_cons (wpAny_Name (wpAny_loadName_cell rfl rfl rfl (cP.keeps Bh.k) ?_)))
    refine args_cons (wpAny_Name (wpAny_loadName_local rfl rfl hNs hx (args_nil ⟨Oh2, ?_⟩)))
    refine lrow w mg mb _ dp un _ _ (by lia) _ _ Oh2.X Oh2.T P f' (mapOf_keeps hP Bh.k) nP plc (fn N).toArray t (by rw [List.size_toArray]; exact ok.len N hNm) (ok.at' N hNm) ?_
    intro h' tk' r n ws k' nr gr hws
    have e : ((fn N).toArray.toList.map plc).reverse ++ List.replicate (6 - (fn N).toArray.size) 0 = dg b 6 N := by rw [List.size_toArray]; exact ok.row N hNm
    rw [e] at hws
    refine ⟨h', _, [(r, { cls := .type "list", data := .seq ws.toArray n })], rfl, k', ?_, by rw [List.length_append, hrl]; rfl, fun j v M e1 e2 => ?_⟩
    · intro p hp; rw [List.mem_singleton.mp hp]; exact ⟨nr, gr⟩
    · rcases Nat.lt_or_ge j rs.length with q | q
      · rw [List.getElem?_append_left q] at e1
        obtain ⟨r', us, n', z1, z2, z3⟩ := hJ j v M e1 e2
        exact ⟨r', us, n', z1, List.mem_append_right _ z2, z3⟩
      · rw [List.getElem?_append_right q] at e1
        have : j = i := by
          have := (List.getElem?_eq_some_iff.mp e1).1
          simp at this; lia
        subst this
        rw [hN] at e2; cases e2
        rw [← hrl, Nat.sub_self] at e1
        cases e1
        exact ⟨r, ws, n, rfl, .head _, hws⟩
  · rintro rs new ⟨hrl, hJ⟩ D h1 tk1 k1 F1 n1 g1 gN
    rw [List.size_toArray, hyl] at hrl
    have B1 := B.step (Off.but k1 inL)
    have T1 := TB.but F.ns k1
    obtain ⟨ps, g123, _⟩ := T1.it
    have nS : NoSeq [123] h1 := noSeq_cons (noSeq_tab g123) noSeq_nil
    have up : Keeps hb₂ (hideAll h1 [123]) := B1.up (fun a ha => by rw [List.mem_singleton.mp ha]; exact inT)
    have upb : Keeps hb (hideAll h1 [123]) := fun a o e => hideAll_get _ (F1.keep a o e) (fun q => by rw [List.mem_singleton.mp q, b123] at e; cases e)
    refine args_nil ⟨O.keeps F1.keep, ?_⟩
    refine often w mg mb _ dp un _ _ (by lia) (by lia) _ _ (hideAll h1 [123]) (fun _ _ e => of_hideAll _ e) (Nat.le_of_eq (hideAll_size _ _)) (hideAll_none _ (.head _)) (O.keeps upb) (BM.keeps upb) (CH.keeps upb) T1 b hb1 hb2 _ ln lo D C ce (KC.keeps up) nv ov rs ns (ordF ns ns.length)
      (isList_keeps hn up) hni n2 n60 (isList_keeps ho up) hoi (isList_hide ⟨_, g1, rfl, _, rfl⟩ nS) hrl (fun j N e => ?_) (ordF_perm ns _) (ordF_srt ns _) hlt hsum fun h2 tk2 k2 T2 => ?_
    · have hj := (List.getElem?_eq_some_iff.mp e).1
      rw [List.length_append] at hj
      obtain ⟨v, hv⟩ : ∃ v, rs[j]? = some v := ⟨_, List.getElem?_eq_getElem (by rw [hrl]; exact hj)⟩
      obtain ⟨r, us, n, rfl, z2, z3⟩ := hJ j v N hv e
      exact ⟨r, us, hv, isList_hide ⟨_, (gN _ z2).1, rfl, _, rfl⟩ nS, z3⟩
    · obtain ⟨oL, es, ep, eL, dL, rL⟩ := F1.ns
      have nL : L ≠ 123 := by
        rintro rfl
        change h1.get? 123 = _ at eL
        rw [g123] at eL; cases eL; cases dL
      have F2 : Fr hb L h2 m := ⟨⟨oL, es, ep, k2 _ _ nL eL, dL, rL⟩, fun a o e => k2 a o (fun q => by rw [q, b123] at e; cases e) (F1.keep a o e), F1.above⟩
      exact hQ h2 _ F2 ((Off.but k1 inL).trans (Off.ext (L := 123) k2 inT)) T2
theorem often_written {C ce P ln lo W : Addr} {nv ov ys : List Value} {ns : List Nat} {f' : Int → Option Value} {fn : Nat → List UInt8} {b : Nat} {Q : Value → Shared → Prop} {p1 p2 p3 p4 p5 p6 p7 p8 p9 p10 p11 p12 p13 : Pos} {kb : Nat} (hdp : dp < 380) (hun : un < 8800) (F : Fr hb L s.heap m) (b123 : hb.get? 123 = none) (O : Okk w mg mb hb) (BM : hb.BuiltinsAt mg 123) (CH : CodeHd hb 125 123) (TB : Tab s.heap qLam)
    (B : Bs [L, 123] hb₂ s.heap) (KC : KCls hb₂ C ce) (cN : hb₂.IsCell (L + 1 + 1 + 1 + 1) (some (.ref ln))) (cP : hb₂.IsCell (L + 1 + 1 + 1) (some (.ref P))) (hP : hb₂.MapOf (intKind pr w) P f') (nP : (P == sysModules) = false) (hn : hb₂.IsList ln nv.toArray) (hni : NatsAre nv ns) (n2 : 2 ≤ ns.length) (n60 : ns.length < 60)
    (mo : m (Str.ofString "order") = some (.ref lo)) (mk : m (Str.ofString "key") = some (.ref C)) (mw : m (Str.ofString "signs") = some (.ref W)) (ho : hb₂.IsList lo ov.toArray) (hoi : NatsAre ov (ordF ns ns.length)) (hW : hb₂.IsList W ys.toArray) (hyl : ys.length = ns.length + 2) (hB : BytesAt ys fn (ns ++ [ns.sum, 0])) (ok : FnOk f' fn b (ns ++ [ns.sum, 0]))
    (hb1 : 2 ≤ b) (hb2 : b ≤ 64) (hlt : ns.sum < b ^ 6) (hsum : ns.sum < 16777216)
    (hQ : ∀ h' tk, Fr hb L h' m → Off [L, 123] s.heap h' → Tab h' qLam → Q (.bool true) { s with heap := h', toks := tk }) :
    wpAny (model pr w) (oA dp un fr gd) (eval (.Call (.Name (Str.ofString "_law_as_often") p1) [.Constant (.int (b : Int)) kb p2, .Name (Str.ofString "numbers") p3, .Name (Str.ofString "order") p4, .Name (Str.ofString "key") p5,
      .ListComp (.Call (.Name (Str.ofString "_law_row") p6) [.Name (Str.ofString "places") p7, .Name (Str.ofString "written") p8] [] p9) [⟨.Name (Str.ofString "written") p10, .Name (Str.ofString "signs") p11, [], 0⟩]
        { kind := .function, names := [(Str.ofString ".0", .local), (Str.ofString "written", .local), (Str.ofString "_law_row", .globalImplicit), (Str.ofString "places", .free)], isGenerator := false, isCoroutine := false, more := [] } p12] [] p13) (lE L f cd)) Q E s := by
  have inL : L ∈ [L, 123] := .head _
  have inT : 123 ∈ [L, 123] := .tail _ (.head _)
  have Oh : Okk w mg mb s.heap := O.keeps F.keep
  refine Call_ (nmG Oh (gg_often _) rfl rfl rfl ?_)
  refine callG Oh (fn_often _) (args_cons (wpAny_Constant_int (args_cons (wpAny_Name (wpAny_loadName_cell rfl rfl rfl (cN.keeps B.k) ?_)))))
  refine args_cons (nmL F (v := .ref lo) mo (args_cons (nmL F (v := .ref C) mk ?_)))
  refine args_cons (compE rfl F rfl (by decide) rfl (by decide) rfl ?_)
  refine nmL F (v := .ref W) mw (.inl ⟨W, ys.toArray, rfl, F, isList_keeps hW B.k, by rw [List.size_toArray, sizeLine_eq]; lia, ?_⟩)
  refine ⟨fun i rs new => rs.length = i ∧ ∀ (j : Nat) v N, rs[j]? = some v → (ns ++ [ns.sum, 0])[j]? = some N → ∃ r us n, v = .ref r ∧ (r, ({ cls := .type "list", data := .seq (List.toArray us) n } : Obj)) ∈ new ∧ NatsAre us (dg b 6 N), ⟨rfl, fun j v N e => by cases e⟩, ?_, ?_⟩
  · rintro i rs new v C' m₂ h tk E' hi ⟨hrl, hJ⟩ hP' hNs hx kB hnsL hnew
    have Bh := B.step (Off.but kB inL)
    have Oh2 : Okk w mg mb h := O.keeps (keeps_butL F kB)
    have hv : ys[i]? = some v := by simpa using hP'
    have hi2 : i < (ns ++ [ns.sum, 0]).length := by
      have := (List.getElem?_eq_some_iff.mp hv).1
      rw [List.length_append]; show i < ns.length + 2; lia
    obtain ⟨N, hN⟩ : ∃ N, (ns ++ [ns.sum, 0])[i]? = some N := ⟨_, List.getElem?_eq_getElem hi2⟩
    obtain ⟨t, rfl⟩ := hB i v N hv hN
    have hNm := List.mem_of_getElem? hN
    refine Call_ (nmG Oh2 (gg_row _) rfl rfl rfl ?_)
    refine callG Oh2 (fn_row _) (args_cons (wpAny_Name (wpAny_loadName_cell rfl rfl rfl (cP.keeps Bh.k) ?_)))
    refine args_cons (wpAny_Name (wpAny_loadName_local rfl rfl hNs hx (args_nil ⟨Oh2, ?_⟩)))
    refine lrow w mg mb _ dp un _ _ (by lia) _ _ Oh2.X Oh2.T P f' (mapOf_keeps hP Bh.k) nP plc (fn N).toArray t (by rw [List.size_toArray]; exact ok.len N hNm) (ok.at' N hNm) ?_
    intro h' tk' r n ws k' nr gr hws
    have e : ((fn N).toArray.toList.map plc).reverse ++ List.replicate (6 - (fn N).toArray.size) 0 = dg b 6 N := by rw [List.size_toArray]; exact ok.row N hNm
    rw [e] at hws
    refine ⟨h', _, [(r, { cls := .type "list", data := .seq ws.toArray n })], rfl, k', ?_, by rw [List.length_append, hrl]; rfl, fun j v M e1 e2 => ?_⟩
    · intro p hp; rw [List.mem_singleton.mp hp]; exact ⟨nr, gr⟩
    · rcases Nat.lt_or_ge j rs.length with q | q
      · rw [List.getElem?_append_left q] at e1
        obtain ⟨r', us, n', z1, z2, z3⟩ := hJ j v M e1 e2
        exact ⟨r', us, n', z1, List.mem_append_right _ z2, z3⟩
      · rw [List.getElem?_append_right q] at e1
        have : j = i := by
          have := (List.getElem?_eq_some_iff.mp e1).1
          simp at this; lia
        subst this
        rw [hN] at e2; cases e2
        rw [← hrl, Nat.sub_self] at e1
        cases e1
        exact ⟨r, ws, n, rfl, .head _, hws⟩
  · rintro rs new ⟨hrl, hJ⟩ D h1 tk1 k1 F1 n1 g1 gN
    rw [List.size_toArray, hyl] at hrl
    have B1 := B.step (Off.but k1 inL)
    have T1 := TB.but F.ns k1
    obtain ⟨ps, g123, _⟩ := T1.it
    have nS : NoSeq [123] h1 := noSeq_cons (noSeq_tab g123) noSeq_nil
    have up : Keeps hb₂ (hideAll h1 [123]) := B1.up (fun a ha => by rw [List.mem_singleton.mp ha]; exact inT)
    have upb : Keeps hb (hideAll h1 [123]) := fun a o e => hideAll_get _ (F1.keep a o e) (fun q => by rw [List.mem_singleton.mp q, b123] at e; cases e)
    refine args_nil ⟨O.keeps F1.keep, ?_⟩
    refine often w mg mb _ dp un _ _ (by lia) (by lia) _ _ (hideAll h1 [123]) (fun _ _ e => of_hideAll _ e) (Nat.le_of_eq (hideAll_size _ _)) (hideAll_none _ (.head _)) (O.keeps upb) (BM.keeps upb) (CH.keeps upb) T1 b hb1 hb2 _ ln lo D C ce (KC.keeps up) nv ov rs ns (ordF ns ns.length)
      (isList_keeps hn up) hni n2 n60 (isList_keeps ho up) hoi (isList_hide ⟨_, g1, rfl, _, rfl⟩ nS) hrl (fun j N e => ?_) (ordF_perm ns _) (ordF_srt ns _) hlt hsum fun h2 tk2 k2 T2 => ?_
    · have hj := (List.getElem?_eq_some_iff.mp e).1
      rw [List.length_append] at hj
      obtain ⟨v, hv⟩ : ∃ v, rs[j]? = some v := ⟨_, List.getElem?_eq_getElem (by rw [hrl]; exact hj)⟩
      obtain ⟨r, us, n, rfl, z2, z3⟩ := hJ j v N hv e
      exact ⟨r, us, hv, isList_hide ⟨_, (gN _ z2).1, rfl, _, rfl⟩ nS, z3⟩
    · obtain ⟨oL, es, ep, eL, dL, rL⟩ := F1.ns
      have nL : L ≠ 123 := by
        rintro rfl
        change h1.get? 123 = _ at eL
        rw [g123] at eL; cases eL; cases dL
      have F2 : Fr hb L h2 m := ⟨⟨oL, es, ep, k2 _ _ nL eL, dL, rL⟩, fun a o e => k2 a o (fun q => by rw [q, b123] at e; cases e) (F1.keep a o e), F1.above⟩
      exact hQ h2 _ F2 ((Off.but k1 inL).trans (Off.ext (L := 123) k2 inT)) T2
end
end Mine
namespace Mine
open PySem PySem.W PySem.W.X PyProof.Rows PySem.Calls
set_option maxRecDepth 100000
set_option maxHeartbeats 400000
theorem sg_at {f : Int → Option Value} (hf : ∀ j, j < 64 → ∃ t, f (alphN j) = some (.int (j : Int) t)) {c : UInt8} (h : ∃ r, r < 64 ∧ c = UInt8.ofNat (sgU r)) : ∃ u, f (c.toNat : Int) = some (.int (plc c : Int) u) := by
  obtain ⟨r, hr, rfl⟩ := h
  obtain ⟨e1, e2⟩ := plc_sg ⟨r, hr⟩
  obtain ⟨t, e⟩ := hf r hr
  refine ⟨t, ?_⟩
  rw [show (((UInt8.ofNat (sgU r)).toNat : Nat) : Int) = alphN r from e2, show plc (UInt8.ofNat (sgU r)) = r from e1]
  exact e
theorem fnOk_16 {f : Int → Option Value} (hf : ∀ j, j < 64 → ∃ t, f (alphN j) = some (.int (j : Int) t)) (Ns : List Nat) : FnOk f (wdF 6) 16 Ns where
  len := fun N _ => wdF_len 6 N
  at' := fun N _ i c hc => sg_at hf (wd_mem 6 N c (by simpa using List.mem_of_getElem? (by simpa using hc)))
  row := fun N _ => row_hex 6 N
theorem fnOk_64 {f : Int → Option Value} (hf : ∀ j, j < 64 → ∃ t, f (alphN j) = some (.int (j : Int) t)) (Ns : List Nat) (h : ∀ N ∈ Ns, N < 16777216) : FnOk f sgn64 64 Ns where
  len := fun N _ => by show 4 ≤ 6; decide
  at' := fun N hN i c hc => sg_at hf (sg_mem N (h N hN) c (by simpa using List.mem_of_getElem? (by simpa using hc)))
  row := fun N hN => row_64 N (h N hN)
theorem ns_lt {ns : List Nat} (h : ns.sum < 16777216) : ∀ N ∈ ns ++ [ns.sum, 0], N < 16777216 := fun N hN => by
  rcases List.mem_append.mp hN with q | q
  · exact Nat.lt_of_le_of_lt (le_sum q) h
  · simp only [List.mem_cons, List.not_mem_nil, or_false] at q
    lia
section
variable {w : World} {mg mb : Str → Option Value} {s : Shared} {dp un : Nat} {fr : Option (List Env)} {gd : Option (List Code)} {Q : Flow → Shared → Prop} {E : Value → Shared → Prop} {L f : Addr} {cd : Value} {hb hb₂ : Heap} {m : Str → Option Value}
theorem lawTail {C ce P ln lo : Addr} {nv ov : List Value} {ns : List Nat} {f' : Int → Option Value} (hdp : dp < 380) (hun : un < 8800) (F : Fr hb L s.heap m) (b123 : hb.get? 123 = none) (O : Okk w mg mb hb) (BM : hb.BuiltinsAt mg 123) (CH : CodeHd hb 125 123) (TB : Tab s.heap qLam)
    (B : Bs [L, 123] hb₂ s.heap) (KC : KCls hb₂ C ce) (cN : hb₂.IsCell (L + 1 + 1 + 1 + 1) (some (.ref ln))) (cP : hb₂.IsCell (L + 1 + 1 + 1) (some (.ref P))) (hP : hb₂.MapOf (intKind pr w) P f') (nP : (P == sysModules) = false) (hf : ∀ j, j < 64 → ∃ t, f' (alphN j) = some (.int (j : Int) t)) (hn : hb₂.IsList ln nv.toArray) (hni : NatsAre nv ns) (n2 : 2 ≤ ns.length) (n60 : ns.length < 60)
    (mo : m (Str.ofString "order") = some (.ref lo)) (mk : m (Str.ofString "key") = some (.ref C)) (ho : hb₂.IsList lo ov.toArray) (hoi : NatsAre ov (ordF ns ns.length)) (hsum : ns.sum < 16777216)
    (hQ : ∀ h' tk m', Fr hb L h' m' → Off [L, 123] s.heap h' → (∃ ps, h'.get? 123 = some (tabObj ps)) → Q (.ret (.bool true)) { s with heap := h', toks := tk }) :
    wpAny (model pr w) (oA dp un fr gd) (execs [lX 6, lX 7, lX 8, lX 9] (lE L f cd)) Q E s := by
  have inL : L ∈ [L, 123] := .head _
  refine wpAny_execs_cons (lw6 (by lia) F O (cN.keeps B.k) (isList_keeps hn B.k) hni n60 hsum fun W h1 tk1 ys F1 k1 hW hyl hB => ?_)
  have B1 := B.step (Off.but k1 inL)
  have T1 := TB.but F.ns k1
  have nS1 := noS F1.ns T1
  obtain ⟨hb₃, up3, B3, hW⟩ : ∃ hb₃, Keeps hb₂ hb₃ ∧ Bs [L, 123] hb₃ h1 ∧ hb₃.IsList W ys.toArray := ⟨hideAll h1 [L, 123], B1.up (fun _ h => h), Bs.anew _ _, isList_hide hW nS1⟩
  refine wpAny_execs_cons (wpAny_If (isTrue_not (isTrue_plain ?_)))
  refine often_word (s := ⟨h1, s.gens, s.drawn, tk1, s.os⟩) (b := 16) hdp hun F1 b123 O BM CH T1 B3 (KC.keeps up3) (cN.keeps up3) (cP.keeps up3) (mapOf_keeps hP up3) nP (isList_keeps hn up3) hni n2 n60 (by rw [if_neg (by decide)]; exact mo) (by rw [if_neg (by decide)]; exact mk) rfl (isList_keeps ho up3) hoi hW hyl hB (fnOk_16 hf _) (by decide) (by decide) hsum hsum ?_
  intro h2 tk2 F2 k2 T2
  refine wpAny_truthy_bool ?_
  rw [if_neg (by decide)]
  refine wpAny_execs_nil ?_
  have B2 := B3.step k2
  have nS2 := noS F2.ns T2
  dsimp only
  refine wpAny_execs_cons (lw8 (by lia) F2 O ((cN.keeps up3).keeps B2.k) (isList_keeps (isList_keeps hn up3) B2.k) hni n60 hsum fun V h3 tk3 zs F3 k3 hV hzl hBV => ?_)
  have B3' := B2.step (Off.but k3 inL)
  have T3 := T2.but F2.ns k3
  have nS3 := noS F3.ns T3
  obtain ⟨hb₄, up4, B4, hV⟩ : ∃ hb₄, Keeps hb₃ hb₄ ∧ Bs [L, 123] hb₄ h3 ∧ hb₄.IsList V zs.toArray := ⟨hideAll h3 [L, 123], B3'.up (fun _ h => h), Bs.anew _ _, isList_hide hV nS3⟩
  have up : Keeps hb₂ hb₄ := fun b o e => up4 _ _ (up3 _ _ e)
  refine wpAny_execs_cons (wpAny_Return_some ?_)
  refine often_written (s := ⟨h3, s.gens, s.drawn, tk3, s.os⟩) (b := 64) hdp hun F3 b123 O BM CH T3 B4 (KC.keeps up) (cN.keeps up) (cP.keeps up) (mapOf_keeps hP up) nP (isList_keeps hn up) hni n2 n60 (by rw [if_neg (by decide), if_neg (by decide)]; exact mo) (by rw [if_neg (by decide), if_neg (by decide)]; exact mk) rfl (isList_keeps ho up) hoi hV hzl hBV (fnOk_64 hf _ (ns_lt hsum)) (by decide) (by decide) (Nat.lt_of_lt_of_le hsum (by decide)) hsum ?_
  intro h4 tk4 F4 k4 T4
  obtain ⟨ps, g, _⟩ := T4.it
  exact hQ h4 tk4 _ F4 ((((Off.but k1 inL).trans k2).trans (Off.but k3 inL)).trans k4) ⟨ps, g⟩
end
end Mine
namespace Mine
open PySem PySem.W PySem.W.X PyProof.Rows PySem.Calls
set_option maxRecDepth 100000
set_option maxHeartbeats 400000
theorem cne (L i j : Nat) (h : i ≠ j) : L + i ≠ L + j := by lia
theorem fr_ext {hb h h' : Heap} {L c : Addr} {m : Str → Option Value} (F : Fr hb L h m) (k : Heap.ExtBut c h h') (n : L ≠ c) (nc : hb.get? c = none) : Fr hb L h' m := by
  obtain ⟨oL, es, ep, eL, r⟩ := F.ns
  exact ⟨⟨oL, es, ep, k _ _ n eL, r⟩, fun b o e => k b o (fun q => by rw [q, nc] at e; cases e) (F.keep b o e), F.above⟩
theorem cell_off1 {h h' : Heap} {c a : Addr} {v : Option Value} (x : h.IsCell c v) (k : Heap.ExtBut a h h') (n : c ≠ a) : h'.IsCell c v := by
  obtain ⟨o, e, hd⟩ := x
  exact ⟨o, k _ _ n e, hd⟩
section
variable {w : World} {mg mb : Str → Option Value} {s : Shared} {dp un : Nat} {fr : Option (List Env)} {gd : Option (List Code)} {Q : Flow → Shared → Prop} {E : Value → Shared → Prop} {L f : Addr} {cd : Value} {hb : Heap} {m : Str → Option Value}
theorem lawAll {lsc : Addr} {vs : List Value} {is : List Int} (hdp : dp < 380) (hun : un < 8800) (F : Fr hb L s.heap m) (O : Okk w mg mb hb) (l131 : (131 : Nat) < L) (b67 : hb.get? 67 = none) (b123 : hb.get? 123 = none) (BM67 : hb.BuiltinsAt mg 67) (BM : hb.BuiltinsAt mg 123) (CH : CodeHd hb 125 123)
    (h67 : s.heap.get? 67 = some (tabObj #[])) (h123 : s.heap.get? 123 = some (tabObj #[])) (c1 : s.heap.IsCell (L + 1) none) (c2 : s.heap.IsCell (L + 1 + 1) none) (c3 : s.heap.IsCell (L + 1 + 1 + 1) none) (c4 : s.heap.IsCell (L + 1 + 1 + 1 + 1) none)
    (ms : m (Str.ofString "script") = some (.ref lsc)) (hl : hb.IsList lsc vs.toArray) (hi : IntsAre vs is) (hlen : vs.length ≤ 63)
    (hQ : ∀ h' tk m', Fr hb L h' m' → (∃ qs, h'.get? 67 = some (tabObj qs)) → (∃ qs, h'.get? 123 = some (tabObj qs)) → Q (.ret (.bool true)) { s with heap := h', toks := tk }) :
    wpAny (model pr w) (oA dp un fr gd) (execs lB (lE L f cd)) Q E s := by
  have z1 : hb.get? (L + 1) = none := Heap.get?_none_of_le (Nat.le_trans F.above (Nat.le_succ _))
  have z2 : hb.get? (L + 1 + 1) = none := Heap.get?_none_of_le (Nat.le_trans F.above (Nat.le_add_right L 2))
  have z3 : hb.get? (L + 1 + 1 + 1) = none := Heap.get?_none_of_le (Nat.le_trans F.above (Nat.le_add_right L 3))
  have z4 : hb.get? (L + 1 + 1 + 1 + 1) = none := Heap.get?_none_of_le (Nat.le_trans F.above (Nat.le_add_right L 4))
  have q67 : ∀ k : Nat, (67 : Nat) ≠ L + k := fun k => by lia
  have q123 : ∀ k : Nat, (123 : Nat) ≠ L + k := fun k => by lia
  have n01 : L ≠ L + 1 := cne L 0 1 (by decide)
  have n03 : L ≠ L + 1 + 1 + 1 := cne L 0 3 (by decide)
  show wpAny _ _ (execs [lX 0, lX 1, lX 2, lX 3, lX 4, lX 5, lX 6, lX 7, lX 8, lX 9] _) _ _ _
  -- alphabet
  refine wpAny_execs_cons (lw0 c1 fun h1 tk1 t1 a1 sb1 => ?_)
  have F1 : Fr hb L h1 m := F.change sb1 (Ne.symm n01) z1
  have x1 := sb1.extBut
  replace c2 := cell_off1 c2 x1 (cne L 2 1 (by decide))
  replace c3 := cell_off1 c3 x1 (cne L 3 1 (by decide))
  replace c4 := cell_off1 c4 x1 (cne L 4 1 (by decide))
  replace h67 := x1 _ _ (q67 1) h67
  replace h123 := x1 _ _ (q123 1) h123
  clear x1 sb1 c1
  -- places
  refine wpAny_execs_cons (lw1 (s := ⟨h1, s.gens, s.drawn, tk1, s.os⟩) (O.keeps F1.keep) a1 c3 fun P h2 tk2 f' nP sP mP hf cP x2 => ?_)
  have F2 : Fr hb L h2 m := fr_ext F1 x2 n03 z3
  have pres : ∀ {b o}, h1.get? b = some o → b ≠ P := fun {b o} e q => by
    change h1.get? P = none at nP
    rw [q, nP] at e; cases e
  obtain ⟨oL, _, _, eL, _⟩ := id F1.ns
  have P0 : L ≠ P := pres eL
  have P2 : L + 1 + 1 ≠ P := by obtain ⟨_, e, _⟩ := c2; exact pres e
  have P4 : L + 1 + 1 + 1 + 1 ≠ P := by obtain ⟨_, e, _⟩ := c4; exact pres e
  have P123 : 123 ≠ P := pres h123
  have P67 : 67 ≠ P := pres h67
  replace c2 := cell_off1 c2 x2 (cne L 2 3 (by decide))
  replace c4 := cell_off1 c4 x2 (cne L 4 3 (by decide))
  replace h67 := x2 _ _ (q67 3) h67
  replace h123 := x2 _ _ (q123 3) h123
  clear x2 c3 a1 pres eL F1 nP
  -- numbers
  refine wpAny_execs_cons (lw2 (s := ⟨h2, s.gens, s.drawn, tk2, s.os⟩) F2 ms (isList_keeps hl F2.keep) hi hlen c4 z4 fun ln h3 tk3 nv F3 hn hni nn cN o3 => ?_)
  have pres : ∀ {b o}, h2.get? b = some o → b ≠ ln := fun {b o} e q => by
    change h2.get? ln = none at nn
    rw [q, nn] at e; cases e
  have out3 : ∀ {a : Nat}, a ≠ L → a ≠ L + 1 + 1 + 1 + 1 → a ∉ [L, L + 1 + 1 + 1 + 1] := fun h h' q => by
    simp only [List.mem_cons, List.not_mem_nil, or_false] at q
    rcases q with q | q
    · exact h q
    · exact h' q
  replace c2 := isCell_off c2 (out3 (cne L 2 0 (by decide)) (cne L 2 4 (by decide))) o3
  replace cP := isCell_off cP (out3 (cne L 3 0 (by decide)) (cne L 3 4 (by decide))) o3
  replace mP := mapOf_off2 mP (out3 (Ne.symm P0) (Ne.symm P4)) o3
  replace h67 := o3 _ _ (out3 (q67 0) (q67 4)) h67
  replace h123 := o3 _ _ (out3 (q123 0) (q123 4)) h123
  clear o3 c4 pres F2 nn
  -- order
  refine wpAny_execs_cons (lw3 (s := ⟨h3, s.gens, s.drawn, tk3, s.os⟩) F3 fun lo h4 tk4 F4 gO nO k4 => ?_)
  have pres : ∀ {b o}, h3.get? b = some o → b ≠ lo := fun {b o} e q => by
    change h3.get? lo = none at nO
    rw [q, nO] at e; cases e
  have lnL : ln ≠ L := by
    rintro rfl
    obtain ⟨o, e, _, c, hd⟩ := hn
    obtain ⟨o', _, _, e', hd', _⟩ := F3.ns
    change h3.get? ln = _ at e'
    rw [e] at e'; cases e'; rw [hd] at hd'; cases hd'
  have lnO : ln ≠ lo := by obtain ⟨o, e, _⟩ := hn; exact pres e
  have PO : P ≠ lo := by obtain ⟨o, _, _, e, _⟩ := mP; exact pres e
  have cNO : L + 1 + 1 + 1 + 1 ≠ lo := by obtain ⟨_, e, _⟩ := cN; exact pres e
  have cPO : L + 1 + 1 + 1 ≠ lo := by obtain ⟨_, e, _⟩ := cP; exact pres e
  have O67 : 67 ≠ lo := pres h67
  have O123 : 123 ≠ lo := pres h123
  have hbO : hb.get? lo = none := by
    cases q : hb.get? lo with
    | none => rfl
    | some o => exact absurd rfl (pres (F3.keep _ _ q))
  have o4 : Off [L] h3 h4 := Off.but k4 (.head _)
  have out4 : ∀ {a : Nat}, a ≠ L → a ∉ [L] := fun h q => h (List.mem_singleton.mp q)
  replace c2 := isCell_off c2 (out4 (cne L 2 0 (by decide))) o4
  replace cP := isCell_off cP (out4 (cne L 3 0 (by decide))) o4
  replace cN := isCell_off cN (out4 (cne L 4 0 (by decide))) o4
  replace mP := mapOf_off2 mP (out4 (Ne.symm P0)) o4
  replace hn : h4.IsList ln nv.toArray := let ⟨o, e, r⟩ := hn; ⟨o, k4 _ _ lnL e, r⟩
  replace h67 := k4 _ _ (q67 0) h67
  replace h123 := k4 _ _ (q123 0) h123
  clear o4 k4 pres F3 nO
  have nl := nums_len is
  have nsum := nums_sum is
  generalize numsS is = ns at *
  -- the loop
  refine wpAny_execs_cons (lw4 (s := ⟨h4, s.gens, s.drawn, tk4, s.os⟩) F4 O rfl gO hbO (by lia) (by lia) cN hn hni lnO c2 z2 fun h5 tk5 ov F5 hO hoi o5 => ?_)
  have out5 : ∀ {a : Nat}, a ≠ lo → a ≠ L + 1 + 1 → a ∉ [lo, L + 1 + 1] := fun h h' q => by
    simp only [List.mem_cons, List.not_mem_nil, or_false] at q
    rcases q with q | q
    · exact h q
    · exact h' q
  have ln2 : ln ≠ L + 1 + 1 := by
    rintro rfl
    obtain ⟨o, e, _, c, hd⟩ := hn
    obtain ⟨o', e', hd'⟩ := c2
    rw [e] at e'; cases e'; rw [hd] at hd'; cases hd'
  replace cP := isCell_off cP (out5 cPO (cne L 3 2 (by decide))) o5
  replace cN := isCell_off cN (out5 cNO (cne L 4 2 (by decide))) o5
  replace mP := mapOf_off2 mP (out5 PO (Ne.symm P2)) o5
  replace hn : h5.IsList ln nv.toArray := let ⟨o, e, r⟩ := hn; ⟨o, o5 _ _ (out5 lnO ln2) e, r⟩
  replace h67 := o5 _ _ (out5 O67 (q67 2)) h67
  replace h123 := o5 _ _ (out5 O123 (q123 2)) h123
  clear o5 c2 F4 gO
  -- key
  refine wpAny_execs_cons (lw5 (s := ⟨h5, s.gens, s.drawn, tk5, s.os⟩) (by lia) F5 O b67 b123 h67 h123 (BM67.keeps F5.keep) fun C ce h6 tk6 F6 o6 KC g67 => ?_)
  have out6 : ∀ {a : Nat}, a ≠ L → a ≠ 67 → a ∉ [L, 67] := fun h h' q => by
    simp only [List.mem_cons, List.not_mem_nil, or_false] at q
    rcases q with q | q
    · exact h q
    · exact h' q
  have nS5 : NoSeq [L, 67] h5 := noSeq_cons (noSeq_ns F5.ns) (noSeq_cons (noSeq_tab h67) noSeq_nil)
  replace cP := isCell_off cP (out6 (cne L 3 0 (by decide)) (Ne.symm (q67 3))) o6
  replace cN := isCell_off cN (out6 (cne L 4 0 (by decide)) (Ne.symm (q67 4))) o6
  replace mP := mapOf_off2 mP (out6 (Ne.symm P0) (Ne.symm P67)) o6
  replace hn := isList_off hn nS5 o6
  replace hO := isList_off hO nS5 o6
  replace h123 := o6 _ _ (out6 (q123 0) (by decide)) h123
  clear o6 nS5 h67
  have TB : Tab h6 qLam := ⟨#[], h123, trivial, fun pos cv e => by cases e⟩
  have nS6 := noS F6.ns TB
  have out7 : ∀ {a : Nat}, a ≠ L → a ≠ 123 → a ∉ [L, 123] := fun h h' q => by
    simp only [List.mem_cons, List.not_mem_nil, or_false] at q
    rcases q with q | q
    · exact h q
    · exact h' q
  have mP' : (hideAll h6 [L, 123]).MapOf (intKind pr w) P f' := by
    obtain ⟨o, es, ep, e, r⟩ := mP
    exact ⟨o, es, ep, hideAll_get _ e (out7 (Ne.symm P0) (Ne.symm P123)), r⟩
  refine lawTail (s := ⟨h6, s.gens, s.drawn, tk6, s.os⟩) hdp hun F6 b123 O BM CH TB (Bs.anew _ _) KC (isCell_hide cN (out7 (cne L 4 0 (by decide)) (Ne.symm (q123 4)))) (isCell_hide cP (out7 (cne L 3 0 (by decide)) (Ne.symm (q123 3)))) mP' sP hf (isList_hide hn nS6) hni (by lia) (by lia)
    (lo := lo) rfl rfl (isList_hide hO nS6) hoi nsum fun h' tk' m' F' o' g => ?_
  obtain ⟨qs, g67⟩ := g67
  exact hQ h' tk' m' F' ⟨qs, o' _ _ (out7 (q67 0) (by decide)) g67⟩ g
end
end Mine
namespace Mine
open PySem PySem.W PySem.W.X PyProof.Rows PySem.Calls
set_option maxRecDepth 100000
set_option maxHeartbeats 4000000
local macro_rules | `(tactic| walk_at "mine enterC0") => `(tactic| (
  k_dflt (refine' enterKC ?k1 ?k2 ?k3 ?k4 ?k5 ?k6 ?k7 ?k8 ?k9 ?k10 ?_ ?c2 ?c3 ?c4; (case k1 => k_asm); (case k2 => exact TopRead.nolimit (by assumption)); (case k3 => k_is); (case k4 => k_is); (case k5 => decide); (case k6 => exact BindsTo.of_eq rfl); (case k7 => exact rfl); (case k8 => decide +kernel); (case k9 => k_asm); (case k10 => k_asm); (case c2 => exact rfl); (case c3 => exact rfl); (case c4 => exact rfl); k_whole)))
abbrev tabs : List (Addr × Addr) := [(125, 123), (71, 67)]
theorem gg_law (P : Params) : nsIn (hh.heap_1 P) mainGlobals (Str.ofString "law") = some (some (.ref 131)) := by kernel_rfl
theorem lawC (w : World) (s : Shared) (mg mb : Str → Option Value) (X : (hh.heap_1 w.params).In s.heap) (T : TopRead vw ls mg mb s.heap) (hT : TabsAt tabs s.heap)
    (bmain : ∃ bm ob, mg "__builtins__" = some (.ref bm) ∧ bm ≠ builtinsNs ∧ s.heap.get? bm = some ob ∧ ob.cls = .type "module" ∧ ob.dict = some builtinsNs ∧ ob.data = .plain)
    (lsc : Addr) (vs : List Value) (is : List Int) (hl : s.heap.IsList lsc vs.toArray) (hi : IntsAre vs is) (hlen : vs.length ≤ 63) {R : Result → Shared → Prop}
    (hR : ∀ L h' tk m', Fr (ghostOf s.heap tabs) L h' m' → GrownAll tabs h' → R (.ok (.ret (.bool true))) { s with heap := h', toks := tk }) :
    codeAny (model PySem.Challenge.rw_oh0008_01.row.prog w) callerA (.call (.ref 131) ⟨[.ref lsc], []⟩) R s := by
  have XG : (hh.heap_1 w.params).In (ghostOf s.heap tabs) := ghost_K hT X (by kernel_rfl)
  have TG : TopRead vw ls mg mb (ghostOf s.heap tabs) := ⟨ghost_ns hT T.g, ghost_ns hT T.b, let ⟨mc, a, r⟩ := T.nolimit; ⟨mc, ghost_ns hT a, r⟩, T.builtins, T.free⟩
  have O : Okk w mg mb (ghostOf s.heap tabs) := ⟨XG, TG⟩
  have CH : CodeHd (ghostOf s.heap tabs) 125 123 := (ghost_code hT).1
  have g123 : s.heap.get? 123 = some (tabObj #[]) := (hT _ (.head _)).2
  have g67 : s.heap.get? 67 = some (tabObj #[]) := (hT _ (.tail _ (.head _))).2
  have BMs : ∀ P, s.heap.get? P = some (tabObj #[]) → (ghostOf s.heap tabs).BuiltinsAt mg P := fun P gP => by
    obtain ⟨bm, ob, b1, b2, b3, b4, b5, b6⟩ := bmain
    refine ⟨bm, ob, b1, b2, ?_, ?_, ghost_get hT b3 (fun q => by rw [q] at b4; cases b4), b4, b5, b6⟩
    · rintro rfl
      obtain ⟨o, es, ep, e, hd, _⟩ := T.g
      rw [e] at b3; cases b3; rw [hd] at b6; cases b6
    · rintro rfl
      rw [gP] at b3; cases b3; cases b4
  have kb : ∀ b o, (ghostOf s.heap tabs).get? b = some o → s.heap.get? b = some o := fun _ _ e => of_hideAll _ e
  have szb : (ghostOf s.heap tabs).objs.size ≤ s.heap.objs.size := Nat.le_of_eq (hideAll_size _ _)
  have BM67 := BMs 67 g67
  have BM123 := BMs 123 g123
  have b67 : (ghostOf s.heap tabs).get? 67 = none := hideAll_none _ (.tail _ (.head _))
  have b123 : (ghostOf s.heap tabs).get? 123 = none := hideAll_none _ (.head _)
  have hlG : (ghostOf s.heap tabs).IsList lsc vs.toArray := ghost_list hT hl
  revert X; k_fill; intro X
  generalize ghostOf s.heap tabs = hb at *
  walk_at "mine enterC0"
  intro L h₁ tk cells hL F N Y hk
  k_cells Y
  rename_i o4 o3 o2 o1 d4 d3 d2 d1
  have l131 : (131 : Nat) < L := by rw [hL]; exact Heap.lt_size (X 131 _ rfl)
  refine lawAll (s := ⟨h₁, s.gens, s.drawn, tk, s.os⟩) (show callerA.depth + 1 < 380 by decide) (show callerA.units + 3 < 8800 by decide) F O l131 b67 b123 BM67 BM123 CH (hk _ _ g67) (hk _ _ g123)
    ⟨_, (N _ (.tail _ (.tail _ (.tail _ (.head _))))).1, d1⟩ ⟨_, (N _ (.tail _ (.tail _ (.head _)))).1, d2⟩ ⟨_, (N _ (.tail _ (.head _))).1, d3⟩ ⟨_, (N _ (.head _)).1, d4⟩ rfl hlG hi hlen fun h' tk' m' F' g67' g123' => ?_
  exact hR L h' tk' m' F' ⟨g123', g67', trivial⟩
end Mine
namespace Mine
open PySem PySem.W PySem.W.X PyProof.Rows PySem.Calls
set_option maxRecDepth 100000
set_option maxHeartbeats 4000000
theorem fin1 : PySem.Challenge.rw_oh0008_01.Holds := tp (by
  intro w s₀ s₁ mg mb G Y fa o pm cd doc dV kV ho hd hcd hD hmg hg args vals as hpre hlay hrd hwl hlo
  have KX : (hh.heap_1 w.params).In s₁.heap := kks_eq w.params ▸ km_in_of Y
  revert KX; k_fill; intro KX
  km_tabs Y
  refine Ground.open G ?_
  intro T B D TE TW
  have he : mg (Str.ofString "law") = some (.ref fa) := hmg
  rw [mg_of KX T.g (gg_law w.params)] at he
  cases he
  km_lay T hmg ho hd cd
  wrow_args hpre hlay hrd hwl hlo
  rename_i is hs1 h01 hL1 hr1 hl2 as1 as2 lsc vs as3 hl ra w1 r0 hi hr2 hc1 hc2
  refine enter_call ?_
  refine kn_post hT9 (fun _ _ => rfl) ?_
  have hlen := IntsAre.length hi
  refine lawC w s₁ mg mb KX (topRead_of T) hT9 T.bmain lsc vs is hl hi (by lia) ?_
  intro L h' tk m' F gr
  refine ⟨?_, gr⟩
  refine goodW_bool (s₁ := { s₁ with heap := ghostOf s₁.heap tabs }) F hg (fun _ => rfl) ?_
  first | (kc_post; done) | (wrow_post; done))
end Mine
theorem PySem.Challenge.cw_oh0008_01_holds : PySem.Challenge.rw_oh0008_01.Holds :=
  Mine.fin1
