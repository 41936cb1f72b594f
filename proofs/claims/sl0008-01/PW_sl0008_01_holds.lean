import PyProof.Rows.All
import Wide.All
import OpenK.AllK
import Wide.FinOn
import PySem.Challenge.RW_sl0008_01
set_option Elab.async false
set_option linter.unusedVariables false
set_option compiler.extract_closed false
set_option genInjectivity false
set_option genSizeOf false
set_option maxRecDepth 100000
set_option maxHeartbeats 0
namespace Mine
local macro_rules | `(tactic| walk_at "om") => `(tactic| first | assumption | exact Nat.le_refl _ | exact Nat.zero_le _ | decide | exact Nat.lt_of_lt_of_le (by assumption) (by decide) | exact Nat.lt_of_lt_of_le (Nat.add_lt_add_right (by assumption) _) (by decide) | exact Nat.le_trans (by assumption) (by decide) | exact Nat.le_of_lt (by assumption) | lia | omega)
open PySem PySem.W PyProof.Rows
section
/-- the text's statements -/
def stmtAt (i : Nat) : Stmt := PySem.Challenge.pw_sl0008_01.main.body.getD i (.Pass default)
def inClass (s : Stmt) (i : Nat) : Stmt := match s with
  | .ClassDef _ _ _ body _ _ _ _ _ _ _ => body.getD i (.Pass default)
  | _ => .Pass default
def bodyOf (s : Stmt) : List Stmt := match s with
  | .FunctionDef _ _ body _ _ _ _ _ _ _ => body
  | _ => []
def scOf (s : Stmt) : Scope := match s with
  | .FunctionDef _ _ _ _ _ _ scope _ _ _ => scope
  | _ => default
def parOf (s : Stmt) : Arguments := match s with
  | .FunctionDef _ args _ _ _ _ _ _ _ _ => args
  | _ => default
def nameOf (s : Stmt) : Str := match s with
  | .FunctionDef name _ _ _ _ _ _ _ _ _ => name
  | _ => Str.empty
noncomputable def kT (t : Nat) : Obj := { cls := .type "tuple", data := .seq #[.int 0 t, .none] }
noncomputable def kE (P : Params) (x : Str) (t : Nat) (v : Value) : DictEntry := { hash := PyData.keyHash P x, key := .str x t, val := v }
noncomputable def kD (P : Params) (t : Nat) : Obj := { cls := .type "dict", data := .dict #[kE P "key" t .none] 1 }
noncomputable def kC (a q : Str) (t : Nat) (l n1 n2 : Int) (r0 : Addr) (v w : Value) (r2 : Addr) (t4 : Nat) : Obj :=
  { cls := .type "code", data := .fields #[.str a t, .str q (t + 1), .str "/claim/cut.py" (t + 2), .int l 0, .int n1 0, .int 0 0, .int n2 0, .int 3 0, .ref r0, .bool true, .int 181 0, .ref (r0 + 1), .none, v, w, .ref r2, .int t4 0, .int l 0, .str "/claim/cut.py" (t4 + 1)] }
noncomputable def kF (s : Stmt) (q : Str) (dV kV : Value) (m : Str) (t : Nat) (c : Addr) : Obj :=
  { cls := .type "function", data := .func { name := nameOf s, qualname := q, params := parOf s, body := .stmts (bodyOf s), scope := scOf s, globals := 3, closure := [], defaults := dV, kwdefaults := kV, pyModule := .str m t, code := .ref c } }
noncomputable def k3 (P : Params) : Obj := { cls := .type "dict", data := .dict #[kE P "__name__" 165 (.str "law_sl0008_01" 301), kE P "__doc__" 166 .none, kE P "__package__" 167 .none, kE P "__loader__" 168 (.builtin "__main__.__loader__#opaque"), kE P "__spec__" 169 .none, kE P "__annotations__" 170 (.ref 6), kE P "__builtins__" 171 (.ref 4), kE P "__file__" 173 (.str "/claim/cut.py" 172), kE P "__cached__" 174 .none, kE P "insort_right" 201 (.ref 23), kE P "bisect_right" 215 (.ref 32), kE P "bisect_left" 229 (.ref 41), kE P "_parse_varint" 240 (.ref 48), kE P "_netrclex" 300 (.ref 86), kE P "_law_octets" 308 (.ref 95), kE P "_law_number" 314 (.ref 100), kE P "_law_spelled" 320 (.ref 105), kE P "_law_lexer" 329 (.ref 112), kE P "_law_put_back" 335 (.ref 117), kE P "law" 341 (.ref 122)] 20 }
noncomputable def k85 (P : Params) : Obj := { cls := .type "dict", data := .dict #[kE P "__module__" 250 (.str "cpy313.netrc" 241), kE P "__firstlineno__" 254 (.int 58 253), kE P "__init__" 262 (.ref 62), kE P "_read_char" 270 (.ref 69), kE P "get_token" 280 (.ref 76), kE P "push_token" 288 (.ref 83), kE P "__static_attributes__" 293 (.ref 84), kE P "__dict__" 295 (.ref 87), kE P "__weakref__" 297 (.ref 88), kE P "__doc__" 298 .none] 4 }
noncomputable def k86 : Obj := { cls := .type "type", data := .cls { name := "_netrclex", bases := [.type "object"], mro := [.ref 86, .type "object"], ns := 85, qualname := "_netrclex" }, slots := #[none, none, some (.str "_netrclex" 243), some (.str "_netrclex" 251), some (.builtin "object.__new__"), some (.bool true)] }
noncomputable def kFB (i : Nat) (q : Str) (T d c : Addr) : Obj := kF (stmtAt i) q (.ref T) (.ref d) "cpy313.bisect" 187 c
noncomputable def kFN (i : Nat) (q : Str) (c : Addr) : Obj := kF (inClass (stmtAt 7) i) q .none .none "cpy313.netrc" 241 c
noncomputable def kFL (i : Nat) (q : Str) (c : Addr) : Obj := kF (stmtAt i) q .none .none "law_sl0008_01" 301 c
noncomputable def KK (P : Params) : Frag :=
  (nat_lit 2, { cls := .none, data := .dict #[] }) ::
  (nat_lit 3, k3 P) ::
  (nat_lit 15, kT 189) ::
  (nat_lit 16, kD P 190) ::
  (nat_lit 22, kC "insort_right" "insort_right" 191 2 4 1 17 (.ref 19) (.ref 20) 21 199) ::
  (nat_lit 23, kFB 1 "insort_right" 15 16 22) ::
  (nat_lit 24, kT 202) ::
  (nat_lit 25, kD P 203) ::
  (nat_lit 31, kC "bisect_right" "bisect_right" 204 8 4 1 26 (.ref 28) (.ref 29) 30 213) ::
  (nat_lit 32, kFB 2 "bisect_right" 24 25 31) ::
  (nat_lit 33, kT 216) ::
  (nat_lit 34, kD P 217) ::
  (nat_lit 40, kC "bisect_left" "bisect_left" 218 28 4 1 35 (.ref 37) (.ref 38) 39 227) ::
  (nat_lit 41, kFB 3 "bisect_left" 33 34 40) ::
  (nat_lit 47, kC "_parse_varint" "_parse_varint" 232 49 1 0 42 (.ref 44) (.ref 45) 46 238) ::
  (nat_lit 48, kF (stmtAt 5) "_parse_varint" .none .none "cpy313.dis" 230 47) ::
  (nat_lit 61, kC "__init__" "_netrclex.__init__" 255 60 2 0 56 (.ref 58) (.ref 59) 60 260) ::
  (nat_lit 62, kFN 0 "_netrclex.__init__" 61) ::
  (nat_lit 68, kC "_read_char" "_netrclex._read_char" 263 66 1 0 63 (.ref 65) (.ref 66) 67 268) ::
  (nat_lit 69, kFN 1 "_netrclex._read_char" 68) ::
  (nat_lit 75, kC "get_token" "_netrclex.get_token" 271 72 1 0 70 (.ref 72) (.ref 73) 74 278) ::
  (nat_lit 76, kFN 2 "_netrclex.get_token" 75) ::
  (nat_lit 82, kC "push_token" "_netrclex.push_token" 281 99 2 0 77 (.ref 79) (.ref 80) 81 286) ::
  (nat_lit 83, kFN 3 "_netrclex.push_token" 82) ::
  (nat_lit 85, k85 P) ::
  (nat_lit 86, k86) ::
  (nat_lit 94, kC "_law_octets" "_law_octets" 303 102 1 0 91 .none .none 93 306) ::
  (nat_lit 95, kFL 9 "_law_octets" 94) ::
  (nat_lit 99, kC "_law_number" "_law_number" 309 108 1 0 96 .none .none 98 312) ::
  (nat_lit 100, kFL 10 "_law_number" 99) ::
  (nat_lit 104, kC "_law_spelled" "_law_spelled" 315 110 2 0 101 .none .none 103 318) ::
  (nat_lit 105, kFL 11 "_law_spelled" 104) ::
  (nat_lit 111, kC "_law_lexer" "_law_lexer" 321 116 1 0 106 (.ref 108) (.ref 109) 110 327) ::
  (nat_lit 112, kFL 12 "_law_lexer" 111) ::
  (nat_lit 116, kC "_law_put_back" "_law_put_back" 330 122 3 0 113 .none .none 115 333) ::
  (nat_lit 117, kFL 13 "_law_put_back" 116) ::
  (nat_lit 121, kC "law" "law" 336 147 1 0 118 .none .none 120 339) ::
  (nat_lit 122, kFL 14 "law" 121) :: []
noncomputable def asl : List Addr := [2, 3, 15, 16, 22, 23, 24, 25, 31, 32, 33, 34, 40, 41, 47, 48, 61, 62, 68, 69, 75, 76, 82, 83, 85, 86, 94, 95, 99, 100, 104, 105, 111, 112, 116, 117, 121, 122]
noncomputable def qq : Program := { PySem.Challenge.pw_sl0008_01 with main := { PySem.Challenge.pw_sl0008_01.main with body := [stmtAt 5, stmtAt 7, stmtAt 9, stmtAt 10, stmtAt 11, stmtAt 12, stmtAt 13, stmtAt 14] } }
noncomputable def lse : List Str := ["insort_right", "bisect_right", "bisect_left"]
noncomputable def XT (s : Shared) : Bool := xlAt qq [] s && recOk (RowW.records PySem.Challenge.rw_sl0008_01.row.toRowW) s
noncomputable def ob (s : Shared) : List (Option Obj) × List (Option Obj) := (asl.map s.heap.get?, ([114, 107] : List Addr).map s.heap.get?)
noncomputable def va (w : World) : List (Option Obj) × List (Option Obj) := ((KK w.params).map fun p => some p.2, ([114, 107] : List Addr).map fun _ => some (tabObj #[]))
noncomputable def lhs (w : World) := (openEnds treeTable PySem.Challenge.pw_sl0008_01 w 1472).map (fun s => (openSeen qq lse (importedModules PySem.Challenge.pw_sl0008_01.main.body) XT true s, ob s))
noncomputable def rhs (w : World) := some (openGood qq lse, va w)
noncomputable def seen2 {α β : Type} (_ : World → α) (_ : World → β) : Bool := true
theorem seen2_ok : seen2 lhs rhs = true := by k_qdec
theorem left0 : ∀ w, PySem.W.Fast.tw14720033549999066060 w = PySem.W.Fast.tw1938990355778164159 w := fun w => by kernel_rfl
theorem left : ∀ w, lhs w = rhs w := fun w => (congrFun PySem.W.Fast.te14720033549999066060 w).trans ((left0 w).trans (congrFun PySem.W.Fast.te1938990355778164159 w).symm)
def dd : DefRec := { name := "law", params := parOf (stmtAt 14), body := bodyOf (stmtAt 14), scope := scOf (stmtAt 14), pos := { line := 147, col := 0, endLine := 186, endCol := 79 } }
theorem keysKK : ∀ P, asl = (KK P).map (·.1) := fun _ => by kernel_rfl
theorem hd (walk : WalkO qq lse (XL qq []) (kmHook KK asl keysKK [114, 107]).says PySem.Challenge.rw_sl0008_01.row.toRowW dd [] (fun f vs => call f vs)) : PySem.Challenge.rw_sl0008_01.Holds := by
  w_on
  o_law
  refine holds_open (q := qq) (loose := lse) (Xt := XT) (XP := XL qq []) (Yf := Hook.obs (kmHook KK asl keysKK [114, 107])) (Ya := Hook.val (kmHook KK asl keysKK [114, 107])) (YP := Hook.says (kmHook KK asl keysKK [114, 107])) (N := 1472) ?hl (Hook.of _) (Hook.keeps _) (fun s e => xl_of s (Bool.and_eq_true_iff.mp e).1) XL.keeps ?d1 ?d2 ?d3 (fun s e => recFacts_of (Bool.and_eq_true_iff.mp e).2) ?d4 ?d5 ?d6 ⟨rfl, rfl, rfl, rfl, rfl, by decide +kernel⟩ ?hw walk
  case hl => exact left
  case d1 => kernel_rfl
  case d2 => kernel_rfl
  case d3 => kernel_rfl
  case d4 => kernel_rfl
  case d5 => first | assumption | decide +kernel
  case d6 => decide +kernel
  case hw => w_witness2
end
open PySem.Calls
section
/-- the model -/
noncomputable abbrev MM (w : World) : Model := model PySem.Challenge.rw_sl0008_01.prog w
/-- around, at level k: nothing is known but the room -/
noncomputable def AL (k : Nat) : Around := { handled := none, depth := 310 + 10 * k, frames := none, guards := none, units := 10 + 100 * k }
theorem ctx_up {k : Nat} {A : Around} {Γ : Ctx} (hh : A.handled = none) (hd : A.depth ≤ 310 + 10 * k) (hu : A.units ≤ 10 + 100 * k) (h : Γ.In A) : Γ.In (AL k) :=
  ⟨h.1.trans hh, Nat.le_trans h.2.1 hd, fun l hl => by simp [AL] at hl, fun l hl => by simp [AL] at hl, Nat.le_trans h.2.2.2.2 hu⟩
theorem ctx_upB {k : Nat} {A : Around} {Γ : Ctx} (hh : A.handled = none) (hd : A.depth ≤ 310 + 10 * k) (hu : A.units ≤ 10 + 100 * k) (h : Γ.Below A) : Γ.Below (AL k) :=
  ⟨h.1.trans hh, Nat.le_trans h.2.1 hd, fun l hl => by simp [AL] at hl, fun l hl => by simp [AL] at hl, Nat.le_trans h.2.2.2.2 hu⟩
theorem any_up {α : Type} {M : Model} {k : Nat} {A : Around} {t : Sem α} {Q : α → Shared → Prop} {E : Value → Shared → Prop} {s : Shared}
    (hh : A.handled = none) (hd : A.depth ≤ 310 + 10 * k) (hu : A.units ≤ 10 + 100 * k) (h : wpAny M (AL k) t Q E s) : wpAny M A t Q E s :=
  fun Γ p hΓ => h Γ p (ctx_up hh hd hu hΓ)
theorem code_up {M : Model} {k : Nat} {A : Around} {c : Code} {R : Result → Shared → Prop} {s : Shared}
    (hh : A.handled = none) (hd : A.depth ≤ 310 + 10 * k) (hu : A.units ≤ 10 + 100 * k) (h : codeAny M (AL k) c R s) : codeAny M A c R s :=
  fun Γ p hc hΓ => h Γ p hc (ctx_upB hh hd hu hΓ)
/-- what an object is -/
noncomputable abbrev Cl := Addr × (Obj → Prop)
/-- the heap: the standing part g, and the cells -/
structure St (g : Heap) (cs : List Cl) (h : Heap) : Prop where
  keep : ∀ b o, g.get? b = some o → h.get? b = some o
  nd : (cs.map Prod.fst).Nodup
  off : ∀ c ∈ cs, g.get? c.1 = none
  has : ∀ c ∈ cs, ∃ o, h.get? c.1 = some o ∧ c.2 o
/-- what stands through the whole run -/
structure XX where
  w : World
  gens : Array GenState
  d : Drawn
  os : OsState
  g : Heap
  mg : Str → Option Value
  mb : Str → Option Value
noncomputable abbrev XX.S (X : XX) (h : Heap) (tk : Nat) : Shared := ⟨h, X.gens, X.d, tk, X.os⟩
noncomputable def XX.post (X : XX) {α : Type} (Q : α → List Cl → Prop) (a : α) (s' : Shared) : Prop := ∃ cs h tk, s' = X.S h tk ∧ St X.g cs h ∧ Q a cs
noncomputable abbrev NoE : Value → Shared → Prop := fun _ _ => False
/-- the logic: from cells cs the tree t comes to Q -/
structure W (X : XX) (k : Nat) {α : Type} (t : Sem α) (cs : List Cl) (Q : α → List Cl → Prop) : Prop where
  run : ∀ h tk, St X.g cs h → wpAny (MM X.w) (AL k) t (X.post Q) NoE (X.S h tk)
noncomputable def RQ (X : XX) (R : Flow → List Cl → Prop) (r : Result) (s' : Shared) : Prop := match r with
  | .ok f => X.post R f s'
  | .error _ => False
structure WC (X : XX) (k : Nat) (c : Code) (cs : List Cl) (R : Flow → List Cl → Prop) : Prop where
  run : ∀ h tk, St X.g cs h → codeAny (MM X.w) (AL k) c (RQ X R) (X.S h tk)
section
variable {X : XX} {k : Nat} {α β : Type} {cs cs' : List Cl}
theorem XX.post.mk {Q : α → List Cl → Prop} {a : α} {h : Heap} {tk : Nat} (s : St X.g cs h) (q : Q a cs) : X.post Q a (X.S h tk) := ⟨cs, h, tk, rfl, s, q⟩
theorem W.pure {Q : α → List Cl → Prop} {a : α} (q : Q a cs) : W X k (pure a) cs Q := .mk fun _ _ s => wpAny_pure (.mk s q)
theorem W.mono {t : Sem α} {Q Q' : α → List Cl → Prop} (h : W X k t cs Q) (q : ∀ a cs, Q a cs → Q' a cs) : W X k t cs Q' :=
  .mk fun hp tk s => wpAny_mono (h.run hp tk s) (fun _ _ ⟨c, h', tk', e, s', x⟩ => ⟨c, h', tk', e, s', q _ _ x⟩) fun _ _ x => x
theorem W.bind {m : Sem α} {f : α → Sem β} {Q : β → List Cl → Prop} (h : W X k m cs (fun a c => W X k (f a) c Q)) : W X k (m >>= f) cs Q :=
  .mk fun hp tk s => wpAny_bind (wpAny_mono (h.run hp tk s) (fun _ _ ⟨_, h', tk', e, s', x⟩ => by subst e; exact x.run h' tk' s') fun _ _ x => x.elim)
theorem W.hold {vs : List Value} {m : Sem α} {Q : α → List Cl → Prop} (h : W X k m cs Q) : W X k (holding vs m) cs Q :=
  .mk fun hp tk s => wpAny_holding (h.run hp tk s)
theorem W.keep {vs : List Value} {m : Sem α} {Q : α → List Cl → Prop} (h : W X k m cs Q) : W X k (m.keep vs) cs Q :=
  .mk fun hp tk s => Calls.wpAny_keep (h.run hp tk s)
theorem W.stand {pos : Pos} {Q : Unit → List Cl → Prop} (h : Q () cs) : W X k (standAt pos) cs Q := .mk fun _ _ s => wpAny_standAt (.mk s h)
theorem W.rule {tag : String} {Q : Unit → List Cl → Prop} (h : Q () cs) : W X k (rule tag) cs Q := .mk fun _ _ s => wpAny_rule (.mk s h)
theorem W.point {Q : Unit → List Cl → Prop} (h : Q () cs) : W X k point cs Q := .mk fun _ _ s => wpAny_point (.mk s h)
theorem W.call {f : Value} {pos : List Value} {kw : List (Str × Value)} {Q : Value → List Cl → Prop}
    (h : WC X k (.call f ⟨pos, kw⟩) cs fun fl c => ∃ v, fl = .ret v ∧ Q v c) : W X k (call f pos kw) cs Q := .mk fun hp tk s =>
  wpAny_call (codeAny_mono (h.run hp tk s) fun r s' x => by
    cases r with
    | error e => exact x.elim
    | ok f => obtain ⟨c, h', tk', e, st, v, rfl, q⟩ := x; exact ⟨c, h', tk', e, st, q⟩)
theorem WC.mono {c : Code} {R R' : Flow → List Cl → Prop} (h : WC X k c cs R) (q : ∀ a cs, R a cs → R' a cs) : WC X k c cs R' :=
  .mk fun hp tk s => codeAny_mono (h.run hp tk s) fun r s' x => by
    cases r with
    | error e => exact x
    | ok f => obtain ⟨c, h', tk', e, st, y⟩ := x; exact ⟨c, h', tk', e, st, q _ _ y⟩
/-- deeper levels stand for less deep ones -/
theorem W.up {j : Nat} {t : Sem α} {Q : α → List Cl → Prop} (h : W X j t cs Q) (hj : k ≤ j) : W X k t cs Q :=
  .mk fun hp tk s => any_up rfl (by show 310 + 10 * k ≤ _; omega) (by show 10 + 100 * k ≤ _; omega) (h.run hp tk s)
/-- what follows of cells -/
noncomputable def Ent (cs cs' : List Cl) : Prop := ∀ g h, St g cs h → St g cs' h
theorem Ent.rfl : Ent cs cs := fun _ _ s => s
theorem Ent.trans {a b c : List Cl} (x : Ent a b) (y : Ent b c) : Ent a c := fun g h s => y g h (x g h s)
theorem W.weak {t : Sem α} {Q : α → List Cl → Prop} (e : Ent cs cs') (h : W X k t cs' Q) : W X k t cs Q := .mk fun hp tk s => h.run hp tk (e _ _ s)
theorem WC.weak {c : Code} {R : Flow → List Cl → Prop} (e : Ent cs cs') (h : WC X k c cs' R) : WC X k c cs R := .mk fun hp tk s => h.run hp tk (e _ _ s)
theorem Ent.of {cs cs' : List Cl} (hn : (cs.map Prod.fst).Nodup → (cs'.map Prod.fst).Nodup) (hm : ∀ c ∈ cs', ∃ d ∈ cs, d.1 = c.1 ∧ ∀ o, d.2 o → c.2 o) : Ent cs cs' := fun g h s =>
  ⟨s.keep, hn s.nd, fun c hc => by obtain ⟨d, hd, e, _⟩ := hm c hc; rw [← e]; exact s.off d hd,
   fun c hc => by obtain ⟨d, hd, e, i⟩ := hm c hc; obtain ⟨o, ho, q⟩ := s.has d hd; exact ⟨o, e ▸ ho, i o q⟩⟩
/-- one cell taken out -/
inductive Pick : Cl → List Cl → List Cl → Prop where
  | head {c : Cl} {r : List Cl} : Pick c (c :: r) r
  | tail {c d : Cl} {r r' : List Cl} : Pick c r r' → Pick c (d :: r) (d :: r')
theorem Pick.perm {c : Cl} : ∀ {l r : List Cl}, Pick c l r → l.Perm (c :: r)
  | _, _, .head => .refl _
  | _, _, .tail p => (List.Perm.cons _ p.perm).trans (.swap ..)
/-- cells laid anew -/
inductive Lay : List Cl → List Cl → Prop where
  | refl {r : List Cl} : Lay r r
  | nil {r : List Cl} : Lay r []
  | skip {c : Cl} {r t : List Cl} : Lay r t → Lay (c :: r) t
  | cons {c : Cl} {l r t : List Cl} : Pick c l r → Lay r t → Lay l (c :: t)
theorem Lay.keys : ∀ {l t : List Cl}, Lay l t → (l.map Prod.fst).Nodup → (t.map Prod.fst).Nodup ∧ ∀ c ∈ t, c ∈ l := by
  intro l t p
  induction p with
  | refl => exact fun n => ⟨n, fun _ h => h⟩
  | nil => exact fun _ => ⟨List.nodup_nil, fun _ h => nomatch h⟩
  | skip p ih =>
      intro n
      have := ih (List.nodup_cons.mp n).2
      exact ⟨this.1, fun c hc => .tail _ (this.2 c hc)⟩
  | cons p q ih =>
      intro n
      rename_i c l r t
      have hp := p.perm
      have n' := (hp.map Prod.fst).nodup_iff.mp n
      have hn := List.nodup_cons.mp n'
      have := ih hn.2
      refine ⟨List.nodup_cons.mpr ⟨fun hm => ?_, this.1⟩, fun d hd => ?_⟩
      · obtain ⟨d, hd, e⟩ := List.mem_map.mp hm
        exact hn.1 (List.mem_map.mpr ⟨d, this.2 d hd, e⟩)
      · rcases List.mem_cons.mp hd with rfl | hd
        · exact hp.symm.subset (.head _)
        · exact hp.symm.subset (.tail _ (this.2 d hd))
theorem Lay.ent {l t : List Cl} (p : Lay l t) : Ent l t := fun _ _ s =>
  have n := p.keys s.nd
  ⟨s.keep, n.1, fun c hc => s.off c (n.2 c hc), fun c hc => s.has c (n.2 c hc)⟩
/-- a cell turned -/
inductive Put (a : Addr) (P P' : Obj → Prop) : List Cl → List Cl → Prop where
  | head {r : List Cl} : Put a P P' ((a, P) :: r) ((a, P') :: r)
  | tail {c : Cl} {r r' : List Cl} : Put a P P' r r' → Put a P P' (c :: r) (c :: r')
theorem Put.split {a : Addr} {P P' : Obj → Prop} : ∀ {l l' : List Cl}, Put a P P' l l' → ∃ u v, l = u ++ (a, P) :: v ∧ l' = u ++ (a, P') :: v
  | _, _, .head => ⟨[], _, rfl, rfl⟩
  | _, _, .tail (c := c) p => let ⟨u, v, e, e'⟩ := p.split; ⟨c :: u, v, by rw [e]; rfl, by rw [e']; rfl⟩
theorem St.get {g h : Heap} (s : St g cs h) {a : Addr} {P : Obj → Prop} (m : (a, P) ∈ cs) : ∃ o, h.get? a = some o ∧ P o := s.has _ m
theorem St.put {g h h' : Heap} {a : Addr} {P P' : Obj → Prop} (s : St g cs h) (p : Put a P P' cs cs') (hs : ∀ b o, b ≠ a → h.get? b = some o → h'.get? b = some o) (hn : ∃ o, h'.get? a = some o ∧ P' o) : St g cs' h' := by
  obtain ⟨u, v, rfl, rfl⟩ := p.split
  have hnd := s.nd
  rw [List.map_append, List.map_cons] at hnd
  have key : ∀ c : Cl, c ∈ u ∨ c ∈ v → c.1 ≠ a := fun c hc e => by
    have h1 := List.nodup_append.mp hnd
    rcases hc with hc | hc
    · exact h1.2.2 _ (List.mem_map_of_mem hc) a (List.mem_cons_self) e
    · exact (List.nodup_cons.mp h1.2.1).1 (List.mem_map.mpr ⟨c, hc, e⟩)
  refine ⟨fun b o e => hs b o (fun q => ?_) (s.keep b o e), ?_, fun c hc => ?_, fun c hc => ?_⟩
  · have := s.off (a, P) (by simp); rw [q] at e; rw [e] at this; cases this
  · rw [List.map_append, List.map_cons]; exact hnd
  · rcases List.mem_append.mp hc with hc | hc
    · exact s.off c (by simp [hc])
    · rcases List.mem_cons.mp hc with rfl | hc
      · exact s.off (a, P) (by simp)
      · exact s.off c (by simp [hc])
  · rcases List.mem_append.mp hc with hc | hc
    · obtain ⟨o, ho, q⟩ := s.has c (by simp [hc]); exact ⟨o, hs _ _ (key c (.inl hc)) ho, q⟩
    · rcases List.mem_cons.mp hc with rfl | hc
      · exact hn
      · obtain ⟨o, ho, q⟩ := s.has c (by simp [hc]); exact ⟨o, hs _ _ (key c (.inr hc)) ho, q⟩
theorem Put.mem {a : Addr} {P P' : Obj → Prop} {l l' : List Cl} (p : Put a P P' l l') : (a, P) ∈ l := by
  obtain ⟨u, v, rfl, _⟩ := p.split; simp
theorem St.putB {g h h' : Heap} {a : Addr} {P P' : Obj → Prop} (s : St g cs h) (p : Put a P P' cs cs') (hs : Heap.SameBut a h h') (hn : ∃ o, h'.get? a = some o ∧ P' o) : St g cs' h' :=
  s.put p (fun b _ hb e => (hs.2 b hb).trans e) hn
theorem St.lt {g h : Heap} (s : St g cs h) {c : Cl} (m : c ∈ cs) : c.1 < h.objs.size := by
  obtain ⟨o, ho, _⟩ := s.has c m; exact Heap.lt_size ho
/-- the heap grown: the cells stand -/
theorem St.grow {g h h' : Heap} (s : St g cs h) (hk : ∀ b o, h.get? b = some o → h'.get? b = some o) : St g cs h' :=
  ⟨fun b o e => hk _ _ (s.keep b o e), s.nd, s.off, fun c hc => by obtain ⟨o, ho, q⟩ := s.has c hc; exact ⟨o, hk _ _ ho, q⟩⟩
/-- a new cell, above all others -/
theorem St.new {g h h' : Heap} (s : St g cs h) {a : Addr} {P : Obj → Prop} (hk : ∀ b o, h.get? b = some o → h'.get? b = some o) (ha : h.objs.size ≤ a) (hn : ∃ o, h'.get? a = some o ∧ P o) : St g ((a, P) :: cs) h' := by
  have t := s.grow hk
  refine ⟨t.keep, ?_, fun c hc => ?_, fun c hc => ?_⟩
  · rw [List.map_cons, List.nodup_cons]
    refine ⟨fun hm => ?_, t.nd⟩
    obtain ⟨c, hc, e⟩ := List.mem_map.mp hm
    have := s.lt hc
    exact Nat.ne_of_lt (Nat.lt_of_lt_of_le this ha) e
  · rcases List.mem_cons.mp hc with rfl | hc
    · show g.get? a = none
      cases q : g.get? a with
      | none => rfl
      | some o => exact absurd ha (Nat.not_le_of_lt (Heap.lt_size (s.keep _ _ q)))
    · exact t.off c hc
  · rcases List.mem_cons.mp hc with rfl | hc
    · exact hn
    · exact t.has c hc
theorem St.push {g h : Heap} (s : St g cs h) {o : Obj} {P : Obj → Prop} (ho : o.isFreed = false) (hp : P o) : St g ((h.objs.size, P) :: cs) (h.push o) :=
  s.new (fun _ _ e => Heap.get?_push_of_some _ e) (Nat.le_refl _) ⟨o, Heap.get?_push_size _ ho, hp⟩
theorem W.alloc {o : Obj} {P : Obj → Prop} {Q : Addr → List Cl → Prop} (ho : o.isFreed = false) (hp : P o) (h : ∀ a, Q a ((a, P) :: cs)) : W X k (alloc o) cs Q :=
  .mk fun _ _ s => wpAny_alloc (.mk (s.push ho hp) (h _))
theorem W.of_pure {t : Sem α} {a : α} {Q : α → List Cl → Prop} (e : t = Pure.pure a) (q : Q a cs) : W X k t cs Q := e ▸ W.pure q
end
end
section
/-- a frame's locals: what l says of them -/
noncomputable def NsL (l : List (Str × Value)) (o : Obj) : Prop := ∃ es ep, o.data = .dict es ep ∧ StrKeys es ∧ ∀ p ∈ l, nsFind es p.1 = some p.2
noncomputable def LsL (xs : List Value) (o : Obj) : Prop := ∃ n, o = ⟨.type "list", none, .seq xs.toArray n, #[]⟩
noncomputable def CellV (v : Value) (o : Obj) : Prop := o.data = .cell (some v)
noncomputable def CellN (o : Obj) : Prop := ∃ v, o.data = .cell v
theorem NsL.ns {X : XX} {cs : List Cl} {h : Heap} {L : Addr} {l : List (Str × Value)} (s : St X.g cs h) (hm : (L, NsL l) ∈ cs) : ∃ m, h.Ns L m ∧ ∀ p ∈ l, m p.1 = some p.2 := by
  obtain ⟨o, ho, es, ep, hd, hk, hf⟩ := s.get hm
  exact ⟨nsFind es, ⟨o, es, ep, ho, hd, hk, fun _ => rfl⟩, hf⟩
theorem St.lsl {g : Heap} {cs : List Cl} {h : Heap} {a : Addr} {xs : List Value} (s : St g cs h) (hm : (a, LsL xs) ∈ cs) : ∃ n, IsL h a xs.toArray n := by
  obtain ⟨o, ho, n, e⟩ := s.get hm
  exact ⟨n, by rw [e] at ho; exact ho⟩
theorem St.isList {g : Heap} {cs : List Cl} {h : Heap} {a : Addr} {xs : List Value} (s : St g cs h) (hm : (a, LsL xs) ∈ cs) : h.IsList a xs.toArray := by
  obtain ⟨n, e⟩ := s.lsl hm
  exact e.isList
/-- a name set anew in what is known -/
inductive NSet (x : Str) (v : Value) : List (Str × Value) → List (Str × Value) → Prop where
  | new : NSet x v [] [(x, v)]
  | here {u : Value} {r : List (Str × Value)} : NSet x v ((x, u) :: r) ((x, v) :: r)
  | tail {p : Str × Value} {r r' : List (Str × Value)} : NSet x v r r' → NSet x v (p :: r) (p :: r')
theorem NSet.sound {x : Str} {v : Value} {m m' : Str → Option Value} (hx : m' x = some v) (ho : ∀ y, y ≠ x → m' y = m y) : ∀ {l l' : List (Str × Value)}, NSet x v l l' → ((l'.map Prod.fst).filter (· == x)).length = 1 → (∀ p ∈ l, m p.1 = some p.2) → ∀ p ∈ l', m' p.1 = some p.2
  | _, _, .new, _, _ => fun p hp => by rcases List.mem_cons.mp hp with rfl | hp; exact hx; cases hp
  | _, _, .here (r := r), e, h => fun p hp => by
    rcases List.mem_cons.mp hp with rfl | hp
    · exact hx
    · have hne : p.1 ≠ x := fun q => by
        have hm : p.1 ∈ (r.map Prod.fst).filter (· == x) := List.mem_filter.mpr ⟨List.mem_map_of_mem hp, by simp [q]⟩
        simp only [List.map_cons, List.filter_cons, beq_self_eq_true, if_true, List.length_cons] at e
        have := List.length_pos_of_mem hm
        walk_at "om"
      rw [ho _ hne]; exact h p (.tail _ hp)
  | _, _, .tail (p := q) (r := r) (r' := r') n, e, h => fun p hp => by
    have hin : ∀ {r r' : List (Str × Value)}, NSet x v r r' → x ∈ (r'.map Prod.fst).filter (· == x) := by
      intro r r' n
      induction n with
      | new => simp
      | here => simp
      | tail _ ih => exact List.mem_filter.mpr ⟨List.mem_cons_of_mem _ (List.mem_filter.mp ih).1, by simp⟩
    have hl := List.length_pos_of_mem (hin n)
    have hq : q.1 ≠ x := fun z => by
      simp only [List.map_cons, List.filter_cons, z, beq_self_eq_true, if_true, List.length_cons] at e
      walk_at "om"
    have e' : ((r'.map Prod.fst).filter (· == x)).length = 1 := by
      have : (q.1 == x) = false := by simpa using hq
      simpa only [List.map_cons, List.filter_cons, this, Bool.false_eq_true, if_false] using e
    rcases List.mem_cons.mp hp with rfl | hp
    · rw [ho _ hq]; exact h _ (.head _)
    · exact n.sound hx ho e' (fun p hp => h p (.tail _ hp)) p hp
section
variable {X : XX} {k : Nat} {α β : Type} {cs cs' : List Cl} {env : Env}
theorem W.chain {t : Sem α} {Q₁ : α → List Cl → Prop} {P : α → Shared → Prop} (h : W X k t cs Q₁) (q : ∀ a c h tk, St X.g c h → Q₁ a c → P a (X.S h tk)) {hp : Heap} {tk : Nat} (s : St X.g cs hp) :
    wpAny (MM X.w) (AL k) t P NoE (X.S hp tk) :=
  wpAny_mono (h.run hp tk s) (fun _ _ ⟨_, _, _, e, s', x⟩ => e ▸ q _ _ _ _ s' x) fun _ _ x => x
-- names
theorem w_nameL {l : List (Str × Value)} {x : Str} {pos : Pos} {v : Value} {Q : Value → List Cl → Prop} (hm : (env.locals, NsL l) ∈ cs) (hv : (x, v) ∈ l) (q : Q v cs)
    (hx : (env.kindOf x, env.scope.kind, x == ("__debug__" : Str)) = (some .local, .function, false) := by kernel_rfl) : W X k (eval (.Name x pos) env) cs Q := .mk fun hp tk s => by
  obtain ⟨m, hn, hf⟩ := NsL.ns s hm
  simp only [Prod.mk.injEq] at hx
  exact wpAny_Name (wpAny_loadName_local hx.2.1 hx.1 hn (hf _ hv) (.mk s q)) hx.2.2
theorem w_loadL {l : List (Str × Value)} {x : Str} {v : Value} {Q : Value → List Cl → Prop} (hm : (env.locals, NsL l) ∈ cs) (hv : (x, v) ∈ l) (q : Q v cs)
    (hx : (env.kindOf x, env.scope.kind) = (some .local, .function) := by kernel_rfl) : W X k (loadName env x) cs Q := .mk fun hp tk s => by
  obtain ⟨m, hn, hf⟩ := NsL.ns s hm
  simp only [Prod.mk.injEq] at hx
  exact wpAny_loadName_local hx.2 hx.1 hn (hf _ hv) (.mk s q)
theorem w_nameC {c : Addr} {x : Str} {pos : Pos} {v : Value} {Q : Value → List Cl → Prop} (hc : env.cells.lookup x = some c) (hm : (c, CellV v) ∈ cs) (q : Q v cs)
    (hx : (env.kindOf x, env.scope.kind, x == ("__debug__" : Str)) = (some .cell, .function, false) := by kernel_rfl) : W X k (eval (.Name x pos) env) cs Q := .mk fun hp tk s => by
  obtain ⟨o, ho, hd⟩ := s.get hm
  simp only [Prod.mk.injEq] at hx
  exact wpAny_Name (wpAny_loadName_cell hx.2.1 hx.1 hc ⟨o, ho, hd⟩ (.mk s q)) hx.2.2
theorem w_nameF {c : Addr} {x : Str} {pos : Pos} {v : Value} {Q : Value → List Cl → Prop} (hc : env.cells.lookup x = some c) (hm : (c, CellV v) ∈ cs) (q : Q v cs)
    (hx : (env.kindOf x, env.scope.kind, x == ("__debug__" : Str), x == ("__classdict__" : Str)) = (some .free, .function, false, false) := by kernel_rfl) : W X k (eval (.Name x pos) env) cs Q := .mk fun hp tk s => by
  obtain ⟨o, ho, hd⟩ := s.get hm
  simp only [Prod.mk.injEq] at hx
  exact wpAny_Name (wpAny_loadName_free hx.2.1 hx.1 hc ⟨o, ho, hd⟩ (.mk s q) hx.2.2.2) hx.2.2.1
theorem w_nameG {x : Str} {pos : Pos} {v : Value} {Q : Value → List Cl → Prop} (G : X.g.Ns mainGlobals X.mg) (hv : X.mg x = some v) (q : Q v cs)
    (hx : (env.kindOf x, env.scope.kind, x == ("__debug__" : Str), env.globals) = (some .globalImplicit, .function, false, mainGlobals) := by kernel_rfl) : W X k (eval (.Name x pos) env) cs Q := .mk fun hp tk s => by
  simp only [Prod.mk.injEq] at hx
  exact Name_function_global hx.2.1 hx.1 (loadGlobal_global (hx.2.2.2 ▸ G.keeps s.keep) hv (.mk s q)) hx.2.2.1
theorem w_nameB {x : Str} {pos : Pos} {v : Value} {Q : Value → List Cl → Prop} (G : X.g.Ns mainGlobals X.mg) (B : X.g.Ns builtinsNs X.mb) (hn : X.mg x = none ∧ X.mb x = some v) (q : Q v cs)
    (hx : (env.kindOf x, env.scope.kind, x == ("__debug__" : Str), env.globals, env.builtins) = (some .globalImplicit, .function, false, mainGlobals, builtinsNs) := by kernel_rfl) : W X k (eval (.Name x pos) env) cs Q := .mk fun hp tk s => by
  simp only [Prod.mk.injEq] at hx
  exact Name_function_global hx.2.1 hx.1 (loadGlobal_builtin (hx.2.2.2.1 ▸ G.keeps s.keep) hn.1 (hx.2.2.2.2 ▸ B.keeps s.keep) hn.2 (.mk s q)) hx.2.2.1
theorem w_storeL {l l' : List (Str × Value)} {x : Str} {v : Value} {Q : Unit → List Cl → Prop} (p : Put env.locals (NsL l) (NsL l') cs cs') (n : NSet x v l l') (e : ((l'.map Prod.fst).filter (· == x)).length = 1)
    (q : Q () cs') (hx : (env.kindOf x, env.scope.kind) = (some .local, .function) := by kernel_rfl) : W X k (storeName env x v) cs Q := .mk fun hp tk s => by
  obtain ⟨m, hn, hf⟩ := NsL.ns s p.mem
  simp only [Prod.mk.injEq] at hx
  refine wpAny_storeName_local hx.1 hn (fun h' hn' hs => .mk (s.putB p hs ?_) q) (by rw [hx.2]; rfl)
  obtain ⟨o, es, ep, ho, hd, hk, hm⟩ := hn'
  exact ⟨o, ho, es, ep, hd, hk, fun p hp => (hm p.1).trans (n.sound (m := m) (m' := fun y => if y = x then some v else m y) (by simp) (fun y hy => by simp [hy]) e hf p hp)⟩
theorem w_storeC {c : Addr} {P : Obj → Prop} {x : Str} {v : Value} {Q : Unit → List Cl → Prop} (hc : env.cells.lookup x = some c) (p : Put c P (CellV v) cs cs') (hP : ∀ o, P o → CellN o)
    (q : Q () cs') (hx : (env.kindOf x, env.scope.kind) = (some .cell, .function) := by kernel_rfl) : W X k (storeName env x v) cs Q := .mk fun hp tk s => by
  obtain ⟨o, ho, hq⟩ := s.get p.mem
  obtain ⟨v₀, hd⟩ := hP o hq
  simp only [Prod.mk.injEq] at hx
  exact wpAny_storeName_cell hx.2 hx.1 hc ⟨o, ho, hd⟩ fun h' hn hs => .mk (s.putB p hs hn) q
theorem CellN.v {v : Value} : ∀ o, CellV v o → CellN o := fun _ h => ⟨_, h⟩
theorem CellN.id : ∀ o, CellN o → CellN o := fun _ h => h
-- constants
theorem w_int {i : Int} {u : Nat} {pos : Pos} {Q : Value → List Cl → Prop} (q : ∀ t, Q (.int i t) cs) : W X k (eval (.Constant (.int i) u pos) env) cs Q := .mk fun hp tk s => wpAny_Constant_int (.mk s (q _))
theorem w_none {u : Nat} {pos : Pos} {Q : Value → List Cl → Prop} (q : Q .none cs) : W X k (eval (.Constant .none u pos) env) cs Q := .mk fun hp tk s => wpAny_Constant_none (.mk s q)
theorem w_bool {b : Bool} {u : Nat} {pos : Pos} {Q : Value → List Cl → Prop} (q : Q (.bool b) cs) : W X k (eval (.Constant (.bool b) u pos) env) cs Q := .mk fun hp tk s => wpAny_Constant_bool (.mk s q)
theorem w_str {x : Str} {u : Nat} {pos : Pos} {Q : Value → List Cl → Prop} (q : ∀ t, Q (.str x t) cs) : W X k (eval (.Constant (.str x) u pos) env) cs Q := .mk fun hp tk s => Constant_str (.mk s (q _))
-- statements
noncomputable def WExecs (X : XX) (k : Nat) (env : Env) (rest : List Stmt) (Q : Flow → List Cl → Prop) (f : Flow) (c : List Cl) : Prop := match f with
  | .next => W X k (execs rest env) c Q
  | f => Q f c
theorem w_execs {st : Stmt} {rest : List Stmt} {Q : Flow → List Cl → Prop} (h : W X k (exec st env) cs (WExecs X k env rest Q)) : W X k (execs (st :: rest) env) cs Q := .mk fun hp tk s =>
  wpAny_execs_cons (h.chain (fun f c h tk s x => by cases f <;> first | exact x.run h tk s | exact .mk s x) s)
theorem w_execs_nil {Q : Flow → List Cl → Prop} (h : Q .next cs) : W X k (execs [] env) cs Q := .mk fun hp tk s => wpAny_execs_nil (.mk s h)
theorem w_ret {e : Expr} {pos : Pos} {Q : Flow → List Cl → Prop} (h : W X k (eval e env) cs (fun v => Q (.ret v))) : W X k (exec (.Return (some e) pos) env) cs Q := .mk fun hp tk s =>
  wpAny_Return_some (h.chain (fun _ _ _ _ s x => .mk s x) s)
theorem w_assign {x : Str} {pos' pos : Pos} {value : Expr} {Q : Flow → List Cl → Prop} (h : W X k (eval value env) cs (fun v c => W X k (storeName env x v) c (fun _ => Q .next)))
    (hs : swapsWith value (some (.Name x pos')) pos.line env = pure false) : W X k (exec (.Assign [.Name x pos'] value pos) env) cs Q := .mk fun hp tk s =>
  wpAny_Assign_Name (h.chain (fun _ _ _ _ s x => x.chain (fun _ _ _ _ s x => .mk s x) s) s) hs
theorem w_aug {x : Str} {pos' pos : Pos} {op : Operator} {value : Expr} {Q : Flow → List Cl → Prop}
    (h : W X k (loadName env x) cs (fun old c => W X k (eval value env) c (fun v c => W X k (inplaceOp op old v) c (fun r c => W X k (storeName env x r) c (fun _ => Q .next))))) :
    W X k (exec (.AugAssign (.Name x pos') op value pos) env) cs Q := .mk fun hp tk s =>
  wpAny_AugAssign_Name (h.chain (fun _ _ _ _ s x => x.chain (fun _ _ _ _ s x => x.chain (fun _ _ _ _ s x => x.chain (fun _ _ _ _ s x => .mk s x) s) s) s) s)
theorem w_augA {o value : Expr} {attr : Str} {tpos pos : Pos} {op : Operator} {Q : Flow → List Cl → Prop}
    (h : W X k (eval o env) cs (fun ov c => W X k (getAttr ov attr true) c (fun old c => W X k (eval value env) c (fun v c => W X k (inplaceOp op old v) c (fun new c => W X k (setAttr ov attr new) c (fun _ => Q .next)))))) :
    W X k (exec (.AugAssign (.Attribute o attr tpos) op value pos) env) cs Q := .mk fun hp tk s =>
  wpAny_AugAssign_AttributeAny (h.chain (fun _ _ _ _ s x => x.chain (fun _ _ _ _ s x => x.chain (fun _ _ _ _ s x => x.chain (fun _ _ _ _ s x => x.chain (fun _ _ _ _ s x => .mk s x) s) s) s) s) s)
theorem w_ifs {test : Expr} {body orelse : List Stmt} {pos : Pos} {Q : Flow → List Cl → Prop} (h : W X k (isTrue test env (eval test env)) cs (fun b c => if b then W X k (execs body env) c Q else W X k (execs orelse env) c Q)) :
    W X k (exec (.If test body orelse pos) env) cs Q := .mk fun hp tk s =>
  wpAny_If (h.chain (fun b c h tk s x => by cases b <;> exact x.run h tk s) s)
theorem w_expr {e : Expr} {pos : Pos} {Q : Flow → List Cl → Prop} (h : W X k (eval e env) cs (fun v c => match v with | .ref _ => False | _ => Q .next c))
    (hi : interactive env = false) (hs : swapsWith e Option.none pos.line env = pure false) : W X k (exec (.Expr e pos) env) cs Q := .mk fun hp tk s =>
  wpAny_Expr (h.chain (fun v c h tk s x => by cases v <;> first | exact x | exact .mk s x) s) hi hs
-- expressions
theorem w_binop {l r : Expr} {op : Operator} {pos : Pos} {Q : Value → List Cl → Prop} (h : W X k (eval l env) cs (fun a c => W X k (eval r env) c (fun b c => W X k (binaryOp op a b) c Q))) : W X k (eval (.BinOp l op r pos) env) cs Q := .mk fun hp tk s =>
  wpAny_BinOp (h.chain (fun _ _ _ _ s x => x.chain (fun _ _ _ _ s x => x.chain (fun _ _ _ _ s x => .mk s x) s) s) s)
theorem w_compare {l r : Expr} {op : CmpOp} {pos : Pos} {Q : Value → List Cl → Prop} (h : W X k (eval l env) cs (fun a c => W X k (eval r env) c (fun b c => W X k (compareOp op a b) c Q))) (hm : behindInMarks op r = false) : W X k (eval (.Compare l [op] [r] pos) env) cs Q := .mk fun hp tk s =>
  wpAny_Compare1 (h.chain (fun _ _ _ _ s x => x.chain (fun _ _ _ _ s x => x.chain (fun _ _ _ _ s x => .mk s x) s) s) s) hm
theorem w_tcompare {l r : Expr} {op : CmpOp} {pos : Pos} {whole : Sem Value} {Q : Bool → List Cl → Prop} (h : W X k (eval l env) cs (fun a c => W X k (eval r env) c (fun b c => W X k (compareOp op a b) c (fun v c => W X k (truthy v) c Q)))) (hm : behindInMarks op r = false) :
    W X k (isTrue (.Compare l [op] [r] pos) env whole) cs Q := .mk fun hp tk s =>
  wpAny_isTrue_Compare1 (h.chain (fun _ _ _ _ s x => x.chain (fun _ _ _ _ s x => x.chain (fun _ _ _ _ s x => x.chain (fun _ _ _ _ s x => .mk s x) s) s) s) s) hm
theorem w_tnot {x : Expr} {pos : Pos} {whole : Sem Value} {Q : Bool → List Cl → Prop} (h : W X k (isTrue x env (eval x env)) cs (fun b => Q (!b))) : W X k (isTrue (.UnaryOp .Not x pos) env whole) cs Q := .mk fun hp tk s =>
  wpAny_isTrue_Not (h.chain (fun _ _ _ _ s x => .mk s x) s)
theorem w_tval {e : Expr} {whole : Sem Value} {Q : Bool → List Cl → Prop} (h : W X k whole cs (fun v c => W X k (truthy v) c Q)) (he : isTrue e env whole = (do let v ← whole; standAt e.pos; holding [v] (truthy v)) := by rfl) : W X k (isTrue e env whole) cs Q := .mk fun hp tk s =>
  wpAny_isTrue_value (h.chain (fun _ _ _ _ s x => x.chain (fun _ _ _ _ s x => .mk s x) s) s) he
theorem w_ifexp {test body orelse : Expr} {pos : Pos} {Q : Value → List Cl → Prop} (h : W X k (isTrue test env (eval test env)) cs (fun b c => if b then W X k (eval body env) c Q else W X k (eval orelse env) c Q)) : W X k (eval (.IfExp test body orelse pos) env) cs Q := .mk fun hp tk s =>
  wpAny_IfExp (h.chain (fun b c h tk s x => by cases b <;> exact x.run h tk s) s)
theorem w_bindName {x : Str} {v : Value} {Q : Unit → List Cl → Prop} (h : W X k (storeName env x v) cs Q) : W X k (bindName env x v) cs Q := .mk fun hp tk s => wpAny_bindName (h.run hp tk s)
theorem w_assignN {x : Str} {pos : Pos} {v : Value} {Q : Unit → List Cl → Prop} (h : W X k (storeName env x v) cs Q) : W X k (PySem.assign (.Name x pos) env v) cs Q := .mk fun hp tk s => wpAny_assign_Name (h.run hp tk s)
end
end
section
section
variable {X : XX} {k : Nat} {α β : Type} {cs cs' : List Cl} {env : Env}
/-- the machine's look at a callee: plain -/
noncomputable def Kp (X : XX) (f : Value) (c : List Cl) : Prop := ∃ kp, (kp = Keeper.frame ∨ kp = Keeper.machine ∨ kp = Keeper.boundFrame) ∧ ∀ h, St X.g c h → Looks (MM X.w) h (keeperOf f) kp
theorem Kp.builtin {id : String} : Kp X (.builtin id) cs := ⟨_, .inr (.inl rfl), fun h _ => .of_pure rfl⟩
theorem Kp.type {id : String} : Kp X (.type id) cs := ⟨_, .inr (.inl rfl), fun h _ => .of_pure rfl⟩
theorem Kp.fn {a : Addr} {o : Obj} {fd : FuncData} (e : ∀ h, St X.g cs h → h.get? a = some o) (hd : o.data = .func fd) : Kp X (.ref a) cs :=
  ⟨.frame, .inl rfl, fun h s => (Looks.ld (part := none) (e h s)).andThen (by rw [hd]; exact .now)⟩
theorem w_callWith {pos : Pos} {f : Value} {first : List Value} {args : List (Bool × Sem Value)} {keywords : List (Option Str × Sem Value)} {Q : Value → List Cl → Prop}
    (h : W X k (evalArgs f true args keywords) cs (fun a c => Kp X f c ∧ W X k (call f (first ++ a.pos) a.kw) c Q)) (hplain : (args.any (·.1) || keywords.any (·.1.isNone)) = false) :
    W X k (callWith pos f first args keywords) cs Q := .mk fun hp tk s => by
  unfold callWith
  refine wpAny_bind (wpAny_holding (h.chain (fun a c h₁ t₁ s₁ x => ?_) s))
  obtain ⟨⟨kp, hk', L⟩, x⟩ := x
  refine wpAny_bind (wpAny_standAt ?_)
  simp only [hplain]
  refine wpAny_bind ((L h₁ s₁).here ?_)
  have tail : ∀ {t : Sem Value}, wpAny (MM X.w) (AL k) t (X.post Q) NoE (X.S h₁ t₁) → wpAny (MM X.w) (AL k) (t >>= fun r => holding [r] point >>= fun _ => pure r) (X.post Q) NoE (X.S h₁ t₁) :=
    fun ht => wpAny_bind (wpAny_mono ht (fun r s₂ hr => wpAny_bind (wpAny_holding (wpAny_point (wpAny_pure hr)))) fun _ _ x => x)
  have marked (mk : Value) : wpAny (MM X.w) (AL k) (callMarked mk f (first ++ a.pos) a.kw) (X.post Q) NoE (X.S h₁ t₁) := by unfold callMarked; exact Calls.wpAny_keep (x.run h₁ t₁ s₁)
  rcases hk' with rfl | rfl | rfl <;> dsimp only <;> first | exact tail (x.run h₁ t₁ s₁) | (split <;> first | exact tail (x.run h₁ t₁ s₁) | exact tail (marked _))
/-- the arguments, one by one -/
noncomputable def WArgs (X : XX) (k : Nat) (env : Env) : List Expr → List Cl → (List Value → List Cl → Prop) → Prop
  | [], c, Q => Q [] c
  | e :: r, c, Q => W X k (eval e env) c (fun v c => WArgs X k env r c (fun vs c => Q (v :: vs) c))
noncomputable def noStar : List Expr → Bool
  | [] => true
  | .Starred .. :: _ => false
  | _ :: r => noStar r
theorem star_of {e : Expr} {r : List Expr} (h : noStar (e :: r) = true) : starEach (e :: r) env = (false, eval e env) :: starEach r env ∧ noStar r = true := by
  cases e <;> first | exact ⟨rfl, h⟩ | cases h
theorem w_spliced {pos : Pos} : ∀ {es : List Expr} {c : List Cl} {Q : List Value → List Cl → Prop}, noStar es = true → WArgs X k env es c Q → W X k (spliced (backTo pos (starEach es env))) c Q
  | [], c, Q, _, h => W.pure h
  | e :: r, c, Q, hs, h => by
    obtain ⟨e1, e2⟩ := star_of (env := env) hs
    rw [e1]
    show W X k (spliced ((false, eval e env) :: backTo pos (starEach r env))) c Q
    refine .mk fun hp tk s => ?_
    refine Calls.spliced_cons (W.chain h (fun v c h₁ t₁ s₁ x => ?_) s)
    exact W.chain (w_spliced e2 x) (fun vs c h₂ t₂ s₂ y => .mk s₂ y) s₁
theorem noStar_any {pos : Pos} : ∀ {es : List Expr}, noStar es = true → (backTo pos (starEach es env)).any (·.1) = false
  | [], _ => rfl
  | e :: r, hs => by
    obtain ⟨e1, e2⟩ := star_of (env := env) hs
    rw [e1]
    show (false || (backTo pos (starEach r env)).any (·.1)) = false
    rw [noStar_any e2]; rfl
/-- a list display's items -/
theorem w_evalArgs {f : Value} {pos : Pos} : ∀ {es : List Expr} {Q : Args → List Cl → Prop}, noStar es = true → WArgs X k env es cs (fun vs c => Q ⟨vs, []⟩ c) → W X k (evalArgs f true (backTo pos (starEach es env)) []) cs Q
  | [], Q, _, h => .mk fun hp tk s => by exact evalArgs_nil3 (.mk s h)
  | e :: r, Q, hs, h => .mk fun hp tk s => by
    have h' := w_spliced (pos := pos) hs h
    obtain ⟨e1, e2⟩ := star_of (env := env) hs
    rw [e1] at h' ⊢
    exact Calls.evalArgs_plain (W.chain h' (fun vs c h₁ t₁ s₁ x => .mk s₁ x) s)
theorem w_callName {x : Str} {np pos : Pos} {args : List Expr} {keywords : List Keyword} {Q : Value → List Cl → Prop}
    (h : W X k (eval (.Name x np) env) cs (fun f c => W X k (callWith pos f [] (backTo pos (starEach args env)) (backToKw pos (keywordEach keywords env))) c Q)) : W X k (eval (.Call (.Name x np) args keywords pos) env) cs Q := .mk fun hp tk s =>
  wpAny_Call_ofName (h.chain (fun _ _ h₁ t₁ s₁ x => x.run h₁ t₁ s₁) s)
/-- a call by a name, no keywords -/
theorem w_call {x : Str} {np pos : Pos} {args : List Expr} {Q : Value → List Cl → Prop}
    (h : W X k (eval (.Name x np) env) cs (fun f c => WArgs X k env args c (fun vs c => Kp X f c ∧ W X k (call f vs) c Q))) (hs : noStar args = true := by rfl) : W X k (eval (.Call (.Name x np) args [] pos) env) cs Q :=
  w_callName (h.mono fun f c x => w_callWith (w_evalArgs hs x) (by rw [noStar_any hs]; rfl))
/-- keywords -/
theorem w_evalAll_cons {x : Sem Value} {rest : List (Sem Value)} {Q : List Value → List Cl → Prop} (h : W X k x cs (fun v c => W X k (evalAll rest) c (fun vs c => Q (v :: vs) c))) : W X k (evalAll (x :: rest)) cs Q := .mk fun hp tk s =>
  wpAny_evalAll_cons (h.chain (fun v c h₁ t₁ s₁ x => x.chain (fun _ _ _ _ s x => .mk s x) s₁) s)
theorem w_evalAll_nil {Q : List Value → List Cl → Prop} (h : Q [] cs) : W X k (evalAll []) cs Q := W.pure h
/-- a call by a name, one keyword -/
theorem w_callKw1 {x kn : Str} {np pos kpos : Pos} {e ke : Expr} {args : List Expr} {Q : Value → List Cl → Prop}
    (h : W X k (eval (.Name x np) env) cs (fun f c => WArgs X k env (e :: args) c (fun vs c => W X k (eval ke env) c (fun kv c => Kp X f c ∧ W X k (call f vs [(kn, kv)]) c Q)))) (hs : noStar (e :: args) = true := by rfl) :
    W X k (eval (.Call (.Name x np) (e :: args) [⟨some kn, ke, kpos⟩] pos) env) cs Q :=
  w_callName (h.mono fun f c x => by
    refine w_callWith ?_ (by rw [noStar_any hs]; rfl)
    refine .mk fun hp tk s => ?_
    have h' := w_spliced (pos := pos) hs x
    obtain ⟨e1, e2⟩ := star_of (env := env) hs
    rw [e1] at h' ⊢
    refine evalArgs_kw rfl (W.chain h' (fun vs c h₁ t₁ s₁ x => ?_) s)
    have h2 : W X k (evalAll ((backToKw pos (keywordEach [⟨some kn, ke, kpos⟩] env)).map (·.2))) c (fun ks c => Kp X f c ∧ W X k (call f vs (List.zip [kn] ks)) c Q) :=
      w_evalAll_cons (W.bind (x.mono fun v c y => W.bind (W.stand (W.pure (w_evalAll_nil y)))))
    exact W.chain h2 (fun ks c h₂ t₂ s₂ y => .mk s₂ y) s₁)
/-- a method's call -/
theorem w_callM {o : Expr} {name : Str} {apos pos : Pos} {args : List Expr} {pl : Sem Bool} {Q : Value → List Cl → Prop}
    (h : W X k (eval o env) cs (fun ov c => W X k (getMethod ov name pl) c (fun fx c => WArgs X k env args c (fun vs c => Kp X fx.1 c ∧ W X k (call fx.1 (fx.2 ++ vs)) c Q))))
    (he : eval (.Call (.Attribute o name apos) args [] pos) env = (do
      let ov ← eval o env
      standAt apos.atName
      let (f, first) ← holding [ov] (getMethod ov name pl)
      callWith pos f first (backTo pos (starEach args env)) (backToKw pos (keywordEach [] env))) := by rfl) (hs : noStar args = true := by rfl) : W X k (eval (.Call (.Attribute o name apos) args [] pos) env) cs Q := .mk fun hp tk s =>
  methodCall_KW (kws := []) (pl := pl) (h.chain (fun ov c h₁ t₁ s₁ x => x.chain (fun fx c h₂ t₂ s₂ y => (w_callWith (w_evalArgs hs y) (by rw [noStar_any hs]; rfl)).run h₂ t₂ s₂) s₁) s) he
/-- a list display -/
theorem w_list {elts : List Expr} {pos : Pos} {Q : Value → List Cl → Prop} (h : WArgs X k env elts cs (fun vs c => vs.length ≤ sizeLine ∧ ∀ a, Q (.ref a) ((a, LsL vs) :: c))) (hs : noStar elts = true := by rfl) : W X k (eval (.List elts pos) env) cs Q := .mk fun hp tk s => by
  refine List_ (W.chain (w_spliced hs h) (fun vs c h₁ t₁ s₁ x => ?_) s)
  exact wpAny_newObj_type (.mk (s₁.push (P := LsL vs) rfl ⟨_, rfl⟩) (x.2 _)) (by show vs.toArray.size ≤ sizeLine; rw [List.size_toArray]; exact x.1)
end
end
section
section
variable {X : XX} {k : Nat} {α β : Type} {cs cs' : List Cl} {env : Env}
noncomputable def retOf : Flow → Value
  | .ret v => v
  | _ => .none
theorem rev_lookup {binds : List (Str × Value)} (hn : (binds.map Prod.fst).Nodup) : ∀ p ∈ binds, binds.reverse.lookup p.1 = some p.2 := by
  have key : ∀ (l : List (Str × Value)), (l.map Prod.fst).Nodup → ∀ p ∈ l, l.lookup p.1 = some p.2 := by
    intro l
    induction l with
    | nil => exact fun _ p hp => nomatch hp
    | cons q r ih =>
      intro hn p hp
      have hq := List.nodup_cons.mp hn
      rcases List.mem_cons.mp hp with rfl | hp'
      · rw [List.lookup_cons]; simp
      · have hne : p.1 ≠ q.1 := fun e => hq.1 (e ▸ List.mem_map_of_mem hp')
        have i := ih hq.2 p hp'
        obtain ⟨a, b⟩ := q
        rw [List.lookup_cons]
        have : (p.1 == a) = false := by simpa using hne
        rw [this]; exact i
  intro p hp
  refine key _ ?_ p (List.mem_reverse.mpr hp)
  rw [List.map_reverse]
  exact (List.reverse_perm _).nodup_iff.mpr hn
/-- a call of a def: no cells of its own -/
theorem w_fn {f : Addr} {o : Obj} {fd : FuncData} {body : List Stmt} {args : Args} {binds : List (Str × Value)} {R : Flow → List Cl → Prop}
    (hlim : X.g.NoLimit) (hf : ∀ h, St X.g cs h → h.get? f = some o) (hd : o.data = .func fd) (hcd : ∀ h, St X.g cs h → h.CodeRec fd.code fd.qualname)
    (hbind : ∀ h tk, St X.g cs h → BindsTo (X.S h tk) fd args binds) (hbody : fd.body = .stmts body)
    (hsc : (fd.scope.names.all (fun x => x.2 != .cell), binds.all (fun x => fd.scope.names.lookup x.1 == some .local), fd.scope.isCoroutine, fd.scope.isGenerator, fd.scope.kind) = (true, true, false, false, .function))
    (hn : (binds.map Prod.fst).Nodup) (hk : k < 60)
    (h : ∀ L, W X (k + 1) (execs body (callEnv fd L f)) ((L, NsL binds) :: cs) (fun fl c => ∃ c', Ent c c' ∧ R (.ret (retOf fl)) c')) : WC X k (.call (.ref f) args) cs R := .mk fun hp tk s => by
  simp only [Prod.mk.injEq] at hsc
  obtain ⟨h1, h2, h3, h4, h5⟩ := hsc
  refine codeAny_call_def (fd := fd) (body := body) (binds := binds) (show 310 + 10 * k < 1000 by walk_at "om") (hf hp s) hd (hlim.keeps s.keep) (hcd hp s) hbody (hbind hp tk s)
    (fun x hx => by have := List.all_eq_true.mp h1 x hx; simpa using this) (fun x hx => by have := List.all_eq_true.mp h2 x hx; simpa using this) (fun h₁ hns hk₁ => ?_) h3 h4 h5
  refine any_up rfl (show 310 + 10 * k + 1 ≤ 310 + 10 * (k + 1) by walk_at "om") (show 10 + 100 * k + 3 ≤ 10 + 100 * (k + 1) by walk_at "om") ?_
  refine wpAny_mono (W.chain (P := fun fl s' => RQ X R (.ok (.ret (match fl with | .ret v => v | _ => .none))) s') (h hp.objs.size) (fun fl c h₂ t₂ s₂ x => ?_) (s.new (P := NsL binds) hk₁ (Nat.le_refl _) ?_)) (fun _ _ x => x) (fun _ _ x => x.elim)
  · obtain ⟨c', e, x⟩ := x
    cases fl <;> exact .mk (e _ _ s₂) x
  · obtain ⟨o', es, ep, ho, hd', hk', hm⟩ := hns
    exact ⟨o', ho, es, ep, hd', hk', fun p hp => (hm p.1).trans (rev_lookup hn p hp)⟩
/-- a call of a lambda -/
theorem w_fnE {f : Addr} {o : Obj} {fd : FuncData} {body : Expr} {args : Args} {binds : List (Str × Value)} {R : Flow → List Cl → Prop}
    (hlim : X.g.NoLimit) (hf : ∀ h, St X.g cs h → h.get? f = some o) (hd : o.data = .func fd) (hcd : ∀ h, St X.g cs h → h.CodeRec fd.code fd.qualname)
    (hbind : ∀ h tk, St X.g cs h → BindsTo (X.S h tk) fd args binds) (hbody : fd.body = .expr body)
    (hsc : (fd.scope.names.all (fun x => x.2 != .cell), binds.all (fun x => fd.scope.names.lookup x.1 == some .local), fd.scope.isCoroutine, fd.scope.isGenerator, fd.scope.kind) = (true, true, false, false, .function))
    (hn : (binds.map Prod.fst).Nodup) (hk : k < 60)
    (h : ∀ L, W X (k + 1) (eval body (callEnv fd L f)) ((L, NsL binds) :: cs) (fun v c => ∃ c', Ent c c' ∧ R (.ret v) c')) : WC X k (.call (.ref f) args) cs R := .mk fun hp tk s => by
  simp only [Prod.mk.injEq] at hsc
  obtain ⟨h1, h2, h3, h4, h5⟩ := hsc
  refine kla_callFunE (show 310 + 10 * k < 1000 by walk_at "om") (hf hp s) hd h3 h4 hbody (hcd hp s) (hbind hp tk s _ _ _ _ ?_)
  refine wpAny_newFunctionEnv (fun x hx => by have := List.all_eq_true.mp h1 x hx; simpa using this) (fun x hx => by have := List.all_eq_true.mp h2 x hx; simpa using this)
    (fun h₁ hns hsb => ⟨(hlim.keeps s.keep).fresh _ hsb, kla_codeExpr ?_⟩) h5
  have hk₁ : ∀ b o, hp.get? b = some o → h₁.get? b = some o := fun b o e => hsb.extBut b o (Nat.ne_of_lt (Heap.lt_size e)) (Heap.get?_push_of_some _ e)
  refine any_up rfl (show 310 + 10 * k + 1 ≤ 310 + 10 * (k + 1) by walk_at "om") (show 10 + 100 * k + 3 ≤ 10 + 100 * (k + 1) by walk_at "om") ?_
  refine wpAny_mono (W.chain (P := fun v s' => RQ X R (.ok (.ret v)) s') (h hp.objs.size) (fun fl c h₂ t₂ s₂ x => ?_) (s.new (P := NsL binds) hk₁ (Nat.le_refl _) ?_)) (fun _ _ x => x) (fun _ _ x => x.elim)
  · obtain ⟨c', e, x⟩ := x
    exact .mk (e _ _ s₂) x
  · obtain ⟨o', es, ep, ho, hd', hk', hm⟩ := hns
    exact ⟨o', ho, es, ep, hd', hk', fun p hp => (hm p.1).trans (rev_lookup hn p hp)⟩
theorem bindL_all {kindOf : Str → Option NameKind} : ∀ {binds : List (Str × Value)} {m : Str → Option Value}, (∀ p ∈ binds, kindOf p.1 = some .local) → (binds.map Prod.fst).Nodup →
    (∀ p ∈ binds, bindL kindOf binds m p.1 = some p.2) ∧ ∀ y, y ∉ binds.map Prod.fst → bindL kindOf binds m y = m y
  | [], m, _, _ => ⟨fun p hp => (nomatch hp), fun _ _ => rfl⟩
  | (n, v) :: r, m, hl, hn => by
    have hn' := List.nodup_cons.mp hn
    have hk := hl (n, v) (.head _)
    have ih := bindL_all (kindOf := kindOf) (binds := r) (m := fun y => if y = n then some v else m y) (fun p hp => hl p (.tail _ hp)) hn'.2
    unfold bindL
    rw [if_pos hk]
    refine ⟨fun p hp => ?_, fun y hy => ?_⟩
    · rcases List.mem_cons.mp hp with rfl | hp
      · rw [ih.2 _ hn'.1]; simp
      · exact ih.1 p hp
    · rw [ih.2 y fun z => hy (.tail _ z), if_neg fun z => hy (by rw [z]; exact .head _)]
/-- the cells of a def's own -/
noncomputable def cellsCl (l : List (Str × Addr)) : List Cl := l.map fun p => (p.2, CellN)
/-- a call of a def with cells of its own (no parameter is one) -/
theorem w_fnC {f : Addr} {o : Obj} {fd : FuncData} {body : List Stmt} {args : Args} {binds : List (Str × Value)} {R : Flow → List Cl → Prop}
    (hlim : X.g.NoLimit) (hf : ∀ h, St X.g cs h → h.get? f = some o) (hd : o.data = .func fd) (hcd : ∀ h, St X.g cs h → h.CodeRec fd.code fd.qualname)
    (hbind : ∀ h tk, St X.g cs h → BindsTo (X.S h tk) fd args binds) (hbody : fd.body = .stmts body) (hcl : fd.closure = [])
    (hsc : (binds.all (fun x => fd.scope.names.lookup x.1 == some .local), fd.scope.isCoroutine, fd.scope.isGenerator, fd.scope.kind) = (true, false, false, .function))
    (hn : (binds.map Prod.fst).Nodup) (hnc : ((cellsFrom 0 fd.scope.names []).map (·.1)).Nodup) (hk : k < 60)
    (h : ∀ L, W X (k + 1) (execs body (callEnvC fd L f)) ((L, NsL binds) :: (cellsCl (cellsFrom (L + 1) fd.scope.names []) ++ cs)) (fun fl c => ∃ c', Ent c c' ∧ R (.ret (retOf fl)) c')) : WC X k (.call (.ref f) args) cs R := .mk fun hp tk s => by
  simp only [Prod.mk.injEq] at hsc
  obtain ⟨h2, h3, h4, h5⟩ := hsc
  have hloc : ∀ x ∈ binds, fd.scope.names.lookup x.1 = some .local := fun x hx => by have := List.all_eq_true.mp h2 x hx; simpa using this
  refine codeAny_call_function (show 310 + 10 * k < 1000 by walk_at "om") (hf hp s) hd h3 h4 hbody (hcd hp s) (hbind hp tk s _ _ _ _ ?_)
  rw [hcl]
  refine wpAny_newFunctionEnv_cells h5 (fun x hx => .inl (hloc x hx)) fun env he s' x => ?_
  subst he
  refine ⟨(hlim.keeps s.keep).keeps x.toInCall.keep, codeAny_func ?_⟩
  obtain ⟨h₁, tk₁, rfl, hk₁⟩ := x.done
  refine any_up rfl (show 310 + 10 * k + 1 ≤ 310 + 10 * (k + 1) by walk_at "om") (show 10 + 100 * k + 3 ≤ 10 + 100 * (k + 1) by walk_at "om") ?_
  have hkof : ∀ p ∈ binds, (callEnvC fd hp.objs.size f).kindOf p.1 = some .local := fun p hp => hloc p hp
  have hb := bindL_all (kindOf := (callEnvC fd hp.objs.size f).kindOf) (m := fun _ => none) hkof hn
  have names : ((cellsFrom (hp.objs.size + 1) fd.scope.names []).map (·.1)).Nodup := by
    have := cellsFrom_names fd.scope.names 0 (hp.objs.size + 1) [] [] rfl
    exact this ▸ hnc
  -- the cells, one by one
  have lay : ∀ (l : List (Str × Addr)), (∀ q ∈ l, q ∈ cellsFrom (hp.objs.size + 1) fd.scope.names []) → (l.Pairwise fun x y => x.2 ≠ y.2) →
      St X.g (cellsCl l ++ cs) h₁ ∧ ∀ c ∈ cellsCl l, hp.objs.size < c.1 := by
    intro l
    induction l with
    | nil => exact fun _ _ => ⟨s.grow hk₁, fun c hc => nomatch hc⟩
    | cons q r ih =>
      intro hm hpw
      obtain ⟨p1, p2⟩ := List.pairwise_cons.mp hpw
      obtain ⟨i1, i2⟩ := ih (fun q hq => hm q (.tail _ hq)) p2
      have hq := hm q (.head _)
      have hab : hp.objs.size < q.2 := x.above q.1 q.2 hq
      have hcell : h₁.IsCell q.2 (bindC _ binds (fun _ => none) q.1) := x.cell q.1 q.2 (lookup_of_mem_nodup names hq)
      obtain ⟨oc, hoc, hdc⟩ := hcell
      refine ⟨⟨i1.keep, ?_, fun c hc => ?_, fun c hc => ?_⟩, fun c hc => ?_⟩
      · refine List.nodup_cons.mpr ⟨fun hmem => ?_, i1.nd⟩
        obtain ⟨c, hc, e⟩ := List.mem_map.mp hmem
        rcases List.mem_append.mp hc with hc | hc
        · obtain ⟨q', hq', rfl⟩ := List.mem_map.mp hc
          exact p1 q' hq' e.symm
        · have := s.lt hc
          have e' : c.1 = q.2 := e
          exact Nat.lt_asymm hab (e' ▸ this)
      · rcases List.mem_cons.mp hc with rfl | hc
        · show X.g.get? q.2 = none
          cases z : X.g.get? q.2 with
          | none => rfl
          | some o' => exact absurd (Heap.lt_size (s.keep _ _ z)) (Nat.lt_asymm hab)
        · exact i1.off c hc
      · rcases List.mem_cons.mp hc with rfl | hc
        · exact ⟨oc, hoc, _, hdc⟩
        · exact i1.has c hc
      · rcases List.mem_cons.mp hc with rfl | hc
        · exact hab
        · exact i2 c hc
  obtain ⟨l1, l2⟩ := lay _ (fun q hq => hq) x.apart
  have hns := x.toInCall.ns
  obtain ⟨oL, es, ep, hoL, hdL, hkL, hmL⟩ := hns
  have st : St X.g ((hp.objs.size, NsL binds) :: (cellsCl (cellsFrom (hp.objs.size + 1) fd.scope.names []) ++ cs)) h₁ := by
    refine ⟨l1.keep, ?_, fun c hc => ?_, fun c hc => ?_⟩
    · refine List.nodup_cons.mpr ⟨fun hmem => ?_, l1.nd⟩
      obtain ⟨c, hc, e⟩ := List.mem_map.mp hmem
      have e' : c.1 = hp.objs.size := e
      rcases List.mem_append.mp hc with hc | hc
      · exact Nat.lt_irrefl _ (e' ▸ l2 c hc)
      · exact Nat.lt_irrefl _ (e' ▸ s.lt hc)
    · rcases List.mem_cons.mp hc with rfl | hc
      · show X.g.get? hp.objs.size = none
        cases z : X.g.get? hp.objs.size with
        | none => rfl
        | some o' => exact absurd (Heap.lt_size (s.keep _ _ z)) (Nat.lt_irrefl _)
      · exact l1.off c hc
    · rcases List.mem_cons.mp hc with rfl | hc
      · exact ⟨oL, hoL, es, ep, hdL, hkL, fun p hp => (hmL p.1).trans (hb.1 p hp)⟩
      · exact l1.has c hc
  refine wpAny_mono (W.chain (P := fun fl s' => RQ X R (.ok (.ret (match fl with | .ret v => v | _ => .none))) s') (h hp.objs.size) (fun fl c h₂ t₂ s₂ x => ?_) st) (fun _ _ x => x) (fun _ _ x => x.elim)
  obtain ⟨c', e, x⟩ := x
  cases fl <;> exact .mk (e _ _ s₂) x
end
end
section
section
variable {X : XX} {k : Nat} {α β : Type} {cs cs' : List Cl} {env : Env} {a b : Int} {t u : Tok}
theorem St.drop {g h h' : Heap} {c : Cl} (s : St g cs h) (p : Pick c cs cs') (hs : ∀ b o, b ≠ c.1 → h.get? b = some o → h'.get? b = some o) : St g cs' h' := by
  have hp := p.perm
  have hm : c ∈ cs := hp.symm.subset (.head _)
  have n' := (hp.map Prod.fst).nodup_iff.mp s.nd
  have hn := List.nodup_cons.mp n'
  refine ⟨fun b o e => hs b o (fun q => ?_) (s.keep b o e), hn.2, fun d hd => s.off d (hp.symm.subset (.tail _ hd)), fun d hd => ?_⟩
  · have := s.off c hm; rw [← q, e] at this; cases this
  · obtain ⟨o, ho, q⟩ := s.has d (hp.symm.subset (.tail _ hd))
    exact ⟨o, hs _ _ (fun z => hn.1 (List.mem_map.mpr ⟨d, hd, z⟩)) ho, q⟩
-- ints
theorem w_add {Q : Value → List Cl → Prop} (q : ∀ t', Q (.int (a + b) t') cs) : W X k (binaryOp .Add (.int a t) (.int b u)) cs Q := .mk fun hp tk s => PyProof.Rows.add_int (.mk s (q _))
theorem w_sub {Q : Value → List Cl → Prop} (q : ∀ t', Q (.int (a - b) t') cs) : W X k (binaryOp .Sub (.int a t) (.int b u)) cs Q := .mk fun hp tk s => PyProof.Rows.sub_int (.mk s (q _))
theorem w_mul {Q : Value → List Cl → Prop} (q : ∀ t', Q (.int (a * b) t') cs) (hm : IntMulOk a b) : W X k (binaryOp .Mult (.int a t) (.int b u)) cs Q := .mk fun hp tk s => PyProof.Rows.mul_int (.mk s (q _)) hm
theorem w_mod {Q : Value → List Cl → Prop} (hb : b ≠ 0) (q : ∀ t', Q (.int (a.fmod b) t') cs) : W X k (binaryOp .Mod (.int a t) (.int b u)) cs Q := .mk fun hp tk s => PyProof.Rows.mod_int hb (.mk s (q _))
theorem w_fdiv {Q : Value → List Cl → Prop} (hb : b ≠ 0) (hl : b.natAbs.log2 < 9000) (q : ∀ t', Q (.int (a.fdiv b) t') cs) : W X k (binaryOp .FloorDiv (.int a t) (.int b u)) cs Q := .mk fun hp tk s => PyProof.Rows.floordiv_int hb (.mk s (q _)) (.inl (PyProof.noPylong_of_log2 hl))
theorem w_pow {Q : Value → List Cl → Prop} (h0 : 0 ≤ b) (h1 : b ≤ 1000000) (ha : a.natAbs < 2 ^ 64) (q : ∀ t', Q (.int (a ^ b.toNat) t') cs) : W X k (binaryOp .Pow (.int a t) (.int b u)) cs Q := .mk fun hp tk s => PyProof.Rows.pow_int_small h0 h1 ha (.mk s (q _))
theorem w_and {Q : Value → List Cl → Prop} (q : ∀ t', Q (.int (Builtin.bitAnd a b) t') cs) : W X k (binaryOp .BitAnd (.int a t) (.int b u)) cs Q := .mk fun hp tk s => PyProof.Rows.and_int (.mk s (q _))
theorem w_iadd {Q : Value → List Cl → Prop} (q : ∀ t', Q (.int (a + b) t') cs) : W X k (inplaceOp .Add (.int a t) (.int b u)) cs Q := .mk fun hp tk s => PyProof.Rows.iadd_int (.mk s (q _))
theorem w_ior {Q : Value → List Cl → Prop} (q : ∀ t', Q (.int (Builtin.bitOr a b) t') cs) : W X k (inplaceOp .BitOr (.int a t) (.int b u)) cs Q := .mk fun hp tk s => PyProof.Rows.ior_int (.mk s (q _))
theorem w_ilsh {Q : Value → List Cl → Prop} (h0 : 0 ≤ b) (h1 : b ≤ 1000000) (ha : a.natAbs < 2 ^ 64) (q : ∀ t', Q (.int (a * 2 ^ b.toNat) t') cs) : W X k (inplaceOp .LShift (.int a t) (.int b u)) cs Q := .mk fun hp tk s => PyProof.Rows.ilshift_int_small h0 h1 ha (.mk s (q _))
theorem w_lt {Q : Value → List Cl → Prop} (q : Q (.bool (decide (a < b))) cs) : W X k (compareOp .Lt (.int a t) (.int b u)) cs Q := .mk fun hp tk s => PyProof.Rows.lt_int (.mk s q)
theorem w_gt {Q : Value → List Cl → Prop} (q : Q (.bool (decide (b < a))) cs) : W X k (compareOp .Gt (.int a t) (.int b u)) cs Q := .mk fun hp tk s => PyProof.Rows.gt_int (.mk s q)
theorem w_ge {Q : Value → List Cl → Prop} (q : Q (.bool (decide (b ≤ a))) cs) : W X k (compareOp .GtE (.int a t) (.int b u)) cs Q := .mk fun hp tk s => PyProof.Rows.ge_int (.mk s q)
theorem w_eqI {Q : Value → List Cl → Prop} (q : Q (.bool (a == b)) cs) : W X k (compareOp .Eq (.int a t) (.int b u)) cs Q := .mk fun hp tk s => PyProof.Rows.eq_int (.mk s q)
theorem w_neI {Q : Value → List Cl → Prop} (q : Q (.bool (a != b)) cs) : W X k (compareOp .NotEq (.int a t) (.int b u)) cs Q := .mk fun hp tk s => PyProof.Rows.ne_int (.mk s q)
theorem w_tInt {Q : Bool → List Cl → Prop} (q : Q (a != 0) cs) : W X k (truthy (.int a t)) cs Q := .mk fun hp tk s => PyProof.Rows.truthy_int (.mk s q)
theorem w_tBool {b : Bool} {Q : Bool → List Cl → Prop} (q : Q b cs) : W X k (truthy (.bool b)) cs Q := .mk fun hp tk s => wpAny_truthy_bool (.mk s q)
-- texts
theorem w_addS {x y : Str} {Q : Value → List Cl → Prop} (hsz : x.length + y.length ≤ sizeLine) (q : ∀ t', Q (.str (x ++ y) t') cs) : W X k (binaryOp .Add (.str x t) (.str y u)) cs Q := .mk fun hp tk s => PyProof.Rows.add_str (fun _ _ => .mk s (q _)) hsz
theorem w_iaddS {x y : Str} {Q : Value → List Cl → Prop} (hsz : x.length + y.length ≤ sizeLine) (q : ∀ t', Q (.str (x ++ y) t') cs) : W X k (inplaceOp .Add (.str x t) (.str y u)) cs Q := .mk fun hp tk s => PySem.SB.iadd (fun _ _ => .mk s (q _)) hsz
theorem w_eqS {x y : Str} {Q : Value → List Cl → Prop} (q : Q (.bool (x == y)) cs) : W X k (compareOp .Eq (.str x t) (.str y u)) cs Q := .mk fun hp tk s => PyProof.Rows.eq_str (.mk s q)
theorem w_inS {x y : Str} {Q : Value → List Cl → Prop} (q : Q (.bool !(Builtin.Str.occurrences x y 0 x.length 1).isEmpty) cs) : W X k (compareOp .In (.str y u) (.str x t)) cs Q := .mk fun hp tk s => PyProof.Rows.in_str (.mk s q)
theorem w_chr {Q : Value → List Cl → Prop} (h0 : 0 ≤ a) (h1 : a ≤ 1114111) (q : ∀ t', Q (.str ⟨#[a.toNat]⟩ t') cs) : W X k (call (.builtin "chr") [.int a t]) cs Q := .mk fun hp tk s => PyProof.Rows.chr_of_range h0 h1 (.mk s (q _))
theorem w_ord {x : Str} {Q : Value → List Cl → Prop} (h1 : x.length = 1) (q : ∀ t', Q (.int (x.cps.getD 0 0 : Nat) t') cs) : W X k (call (.builtin "ord") [.str x t]) cs Q := .mk fun hp tk s => PyProof.Rows.ord_of_one h1 (.mk s (q _))
-- lists
theorem w_method {T : String} {name : Str} {id : String} {self : Value} {pl : Sem Bool} {Q : Value × List Value → List Cl → Prop} (hT : ∀ h tk, St X.g cs h → (X.S h tk).TypeIs self T ∧ ∀ a, self = .ref a → ∃ ob, h.get? a = some ob ∧ ob.dict = none)
    (pa : PlainAttrs T) (slot : Slot T name id) (hty : typeOf (.builtin id) = pure (.type "method_descriptor")) (q : Q (.builtin id, [self]) cs) : W X k (getMethod self name pl) cs Q := .mk fun hp tk s =>
  getMethod_builtin (hT hp tk s).1 pa slot hty (fun a e => (hT hp tk s).2 a e) (.mk s q)
theorem listT {l : Addr} {xs : List Value} (hm : (l, LsL xs) ∈ cs) : ∀ h tk, St X.g cs h → (X.S h tk).TypeIs (.ref l) "list" ∧ ∀ a, Value.ref l = .ref a → ∃ ob, h.get? a = some ob ∧ ob.dict = none := fun h tk s => by
  obtain ⟨n, e⟩ := s.lsl hm
  exact ⟨⟨_, e, rfl⟩, fun a q => by cases q; exact ⟨_, e, rfl⟩⟩
theorem strT {x : Str} : ∀ h tk, St X.g cs h → (X.S h tk).TypeIs (.str x t) "str" ∧ ∀ a, Value.str x t = .ref a → ∃ ob, h.get? a = some ob ∧ ob.dict = none := fun h tk s => ⟨typeIs_str _ _ _, fun a q => nomatch q⟩
theorem put_list {g h : Heap} {l : Addr} {xs ys : List Value} {n : Nat} {f : Array Value → Array Value} (s : St g cs h) (p : Put l (LsL xs) (LsL ys) cs cs') (e : IsL h l xs.toArray n) (hf : f xs.toArray = ys.toArray) : St g cs' (h.update l (Obj.mapSeq f)) :=
  s.putB p (Heap.SameBut.update ..) ⟨_, e.update f, by rw [hf]; exact ⟨_, rfl⟩⟩
theorem w_append {l : Addr} {xs : List Value} {v : Value} {Q : Value → List Cl → Prop} (p : Put l (LsL xs) (LsL (xs ++ [v])) cs cs') (hsz : xs.length ≤ sizeLine) (q : Q .none cs') : W X k (call (.builtin "list.append") [.ref l, v]) cs Q := .mk fun hp tk s => by
  obtain ⟨n, e⟩ := s.lsl p.mem
  refine call_meets PySem.F.slot_list_append ⟨_, e, rfl⟩ PySem.F.entry_list_append (PySem.F.args_list_append_2 _ _) (PySem.list_append l _ n v (by rw [List.size_toArray]; exact hsz)) ⟨e, ?_⟩
  exact .mk (put_list s p e (by simp)) q
theorem w_pop {l : Addr} {xs : List Value} {y : Value} {Q : Value → List Cl → Prop} (hy : xs.getLast? = some y) (p : Put l (LsL xs) (LsL xs.dropLast) cs cs') (hsz : xs.length ≤ sizeLine) (q : Q y cs') : W X k (call (.builtin "list.pop") [.ref l]) cs Q := .mk fun hp tk s => by
  obtain ⟨n, e⟩ := s.lsl p.mem
  refine call_meets PySem.F.slot_list_pop ⟨_, e, rfl⟩ PySem.F.entry_list_pop (PySem.F.args_list_pop_1 _) (PySem.MeetsSeq.list_pop_last l _ n y ?_ (by rw [List.size_toArray]; exact hsz)) ⟨e, ?_⟩
  · rw [List.size_toArray, List.getElem?_toArray, ← List.getLast?_eq_getElem?]; exact hy
  · refine .mk (put_list s p e ?_) q
    rw [List.size_toArray]
    simp [List.eraseIdxIfInBounds_toArray, List.eraseIdx_length_sub_one]
theorem w_popAt {l : Addr} {xs : List Value} {i : Int} {u : Tok} {j : Nat} {y : Value} {Q : Value → List Cl → Prop} (hi : i = j) (hy : xs[j]? = some y) (p : Put l (LsL xs) (LsL (xs.eraseIdx j)) cs cs') (hsz : xs.length ≤ sizeLine) (q : Q y cs') : W X k (call (.builtin "list.pop") [.ref l, .int i u]) cs Q := .mk fun hp tk s => by
  obtain ⟨n, e⟩ := s.lsl p.mem
  have hj : j < xs.length := (List.getElem?_eq_some_iff.mp hy).1
  have hs : sizeLine = 16777216 := rfl
  refine call_meets PySem.F.slot_list_pop ⟨_, e, rfl⟩ PySem.F.entry_list_pop (PySem.F.args_list_pop_2 _ _) (PySem.MeetsSeq.list_pop_at l _ n i u j y ?_ ?_ (by rw [List.getElem?_toArray]; exact hy) (by rw [List.size_toArray]; exact hsz)) ⟨e, ?_⟩
  · unfold Builtin.List.listFitsIndex
    subst hi
    simp; walk_at "om"
  · subst hi
    unfold seqIndex?
    rw [List.size_toArray]
    have h1 : ¬ ((j : Int) < 0) := by walk_at "om"
    simp [h1]; walk_at "om"
  · refine .mk (put_list s p e ?_) q
    simp [List.eraseIdxIfInBounds_toArray]
theorem w_len {l : Addr} {xs : List Value} {Q : Value → List Cl → Prop} (hm : (l, LsL xs) ∈ cs) (hsz : xs.length ≤ sizeLine) (q : ∀ t', Q (.int xs.length t') cs) : W X k (call (.builtin "len") [.ref l]) cs Q := .mk fun hp tk s => by
  have e := s.isList hm
  have hs : sizeLine = 16777216 := rfl
  have := PyProof.Rows.len_list (prog := PySem.Challenge.rw_sl0008_01.prog) (w := X.w) (A := AL k) (E := NoE) (Q := X.post Q) (s := X.S hp tk) e (by rw [List.size_toArray]; walk_at "om") (by rw [List.size_toArray]; exact .mk s (q _))
  exact this
end
end
section
section
variable {X : XX} {k : Nat} {α β : Type} {cs cs' : List Cl} {env : Env}
-- iterators
noncomputable def LiI (l : Addr) (j : Nat) (o : Obj) : Prop := o.cls = .type "list_iterator" ∧ o.data = .fields #[.ref l, .int j 0]
noncomputable def StI (x : Str) (j : Nat) (o : Obj) : Prop := ∃ t, (x.cps.all (· < 128) = true ∧ o.cls = .type "str_ascii_iterator" ∨ x.cps.all (· < 128) = false ∧ o.cls = .type "str_iterator") ∧ o.data = .fields #[.str x t, .int j 0]
noncomputable def RgO (a b : Int) (o : Obj) : Prop := ∃ t u v, o = ⟨.type "range", none, .fields #[.int a t, .int b u, .int 1 v], #[]⟩
noncomputable def RgI (a n : Int) (j : Nat) (o : Obj) : Prop := o = ⟨.type "range_iterator", none, .fields #[rawInt (a + j), rawInt (n - j), rawInt 1], #[]⟩
theorem w_iterL {l : Addr} {xs : List Value} {Q : Value → List Cl → Prop} (hm : (l, LsL xs) ∈ cs) (q : ∀ i, Q (.ref i) ((i, LiI l 0) :: cs)) : W X k (pyIter (.ref l)) cs Q := .mk fun hp tk s =>
  wpAny_pyIter_list (s.isList hm) (.mk (s.push (P := LiI l 0) rfl ⟨rfl, rfl⟩) (q _))
theorem w_iterS {x : Str} {t : Tok} {Q : Value → List Cl → Prop} (q : ∀ i, Q (.ref i) ((i, StI x 0) :: cs)) : W X k (pyIter (.str x t)) cs Q := .mk fun hp tk s => by
  cases e : x.cps.all (· < 128) with
  | true => exact wpAny_pyIter_ascii e (.mk (s.push (P := StI x 0) rfl ⟨t, .inl ⟨e, rfl⟩, rfl⟩) (q _))
  | false => exact wpAny_pyIter_wide e (.mk (s.push (P := StI x 0) rfl ⟨t, .inr ⟨e, rfl⟩, rfl⟩) (q _))
theorem w_iterR {r : Addr} {a b : Int} {Q : Value → List Cl → Prop} (hm : (r, RgO a b) ∈ cs) (h0 : 0 ≤ b - a) (hsmall : Builtin.Range.small a b 1 = true) (q : ∀ i, Q (.ref i) ((i, RgI a (b - a) 0) :: cs)) : W X k (pyIter (.ref r)) cs Q := .mk fun hp tk s => by
  obtain ⟨o, ho, t, u, v, e⟩ := s.get hm
  refine wpAny_pyIter_range (e ▸ ho) hsmall (.mk (s.push (P := RgI a (b - a) 0) rfl ?_) (q _))
  unfold RgI
  have : Builtin.Range.rangeSize a b 1 = b - a := by
    unfold Builtin.Range.rangeSize
    by_cases hab : a < b
    · simp [hab]
    · simp [hab]; walk_at "om"
  simp [this]
/-- what an iterator at i does -/
structure Itr (X : XX) (k : Nat) (i : Addr) (IP : Nat → Obj → Prop) (n : Nat) (val : Nat → Value → Prop) (G : List Cl → Prop) : Prop where
  next : ∀ j, j < n → ∀ c c', G c → Put i (IP j) (IP (j + 1)) c c' → ∀ Q : Option Value → List Cl → Prop, (∀ v, val j v → Q (some v) c') → W X k (pyNext (.ref i)) c Q
  stop : ∀ c c', G c → Pick (i, IP n) c c' → ∀ Q : Option Value → List Cl → Prop, Q none c' → W X k (pyNext (.ref i)) c Q
  self : ∀ c, (i, IP 0) ∈ c → ∀ Q : Value → List Cl → Prop, Q (.ref i) c → W X k (pyIter (.ref i)) c Q
theorem Pick.mem {c : Cl} {l r : List Cl} (p : Pick c l r) : c ∈ l := p.perm.symm.subset (.head _)
theorem itrL {i l : Addr} {xs : List Value} : Itr X k i (LiI l) xs.length (fun j v => xs[j]? = some v) (fun c => (l, LsL xs) ∈ c) where
  next := fun j hj c c' hg p Q q => .mk fun hp tk s => by
    obtain ⟨o, ho, hc, hd⟩ := s.get p.mem
    have hx : xs[j]? = some xs[j] := List.getElem?_eq_getElem hj
    refine wpAny_pyNext_list_item ⟨o, ho, hc, hd⟩ (s.isList hg) (by rw [List.getElem?_toArray]; exact hx) fun h' hn hs => .mk (s.putB p hs ?_) (q _ hx)
    exact hn
  stop := fun c c' hg p Q q => .mk fun hp tk s => by
    obtain ⟨o, ho, hc, hd⟩ := s.get p.mem
    refine wpAny_pyNext_list_end rfl ⟨o, ho, hc, hd⟩ (s.isList hg) (by rw [List.getElem?_toArray]; exact List.getElem?_eq_none (Nat.le_refl _)) fun h' hs => .mk (s.drop p fun b o hb e => hs b o hb e) q
  self := fun c m Q q => .mk fun hp tk s => by
    obtain ⟨o, ho, hc, hd⟩ := s.get m
    exact wpAny_pyIter_listiter ⟨o, ho, hc, hd⟩ (.mk s q)
theorem itrS {i : Addr} {x : Str} : Itr X k i (StI x) x.cps.size (fun j v => ∃ c t, x.cps[j]? = some c ∧ v = .str ⟨#[c]⟩ t) (fun _ => True) where
  next := fun j hj c c' hg p Q q => .mk fun hp tk s => by
    obtain ⟨o, ho, t, hk, hd⟩ := s.get p.mem
    have hx : x.cps[j]? = some x.cps[j] := Array.getElem?_eq_getElem hj
    rcases hk with ⟨e, hk⟩ | ⟨e, hk⟩
    · refine wpAny_pyNext_ascii_item ⟨o, ho, hk, hd⟩ hx fun h' hn hs => .mk (s.putB p hs ?_) (q _ ⟨_, _, hx, rfl⟩)
      obtain ⟨o', a, b, c⟩ := hn
      exact ⟨o', a, t, .inl ⟨e, b⟩, c⟩
    · refine wpAny_pyNext_wide_item ⟨o, ho, hk, hd⟩ hx fun h' hn hs => .mk (s.putB p hs ?_) (q _ ⟨_, _, hx, rfl⟩)
      obtain ⟨o', a, b, c⟩ := hn
      exact ⟨o', a, t, .inr ⟨e, b⟩, c⟩
  stop := fun c c' hg p Q q => .mk fun hp tk s => by
    obtain ⟨o, ho, t, hk, hd⟩ := s.get p.mem
    have hx : x.cps[x.cps.size]? = none := Array.getElem?_eq_none (Nat.le_refl _)
    rcases hk with ⟨e, hk⟩ | ⟨e, hk⟩
    · exact wpAny_pyNext_ascii_end rfl ⟨o, ho, hk, hd⟩ hx fun h' hs => .mk (s.drop p fun b o hb e => hs b o hb e) q
    · exact wpAny_pyNext_wide_end rfl ⟨o, ho, hk, hd⟩ hx fun h' hs => .mk (s.drop p fun b o hb e => hs b o hb e) q
  self := fun c m Q q => .mk fun hp tk s => by
    obtain ⟨o, ho, t, hk, hd⟩ := s.get m
    rcases hk with ⟨e, hk⟩ | ⟨e, hk⟩
    · exact wpAny_pyIter_striter_ascii ⟨o, ho, hk, hd⟩ (.mk s q)
    · exact wpAny_pyIter_striter_wide ⟨o, ho, hk, hd⟩ (.mk s q)
theorem itrR {i : Addr} {a : Int} {n : Nat} : Itr X k i (RgI a n) n (fun j v => ∃ t, v = .int (a + j) t) (fun _ => True) where
  next := fun j hj c c' hg p Q q => .mk fun hp tk s => by
    obtain ⟨o, ho, e⟩ := s.get p.mem
    refine wpAny_pyNext_range_item (x := a + j) (left := (n : Int) - j) (step := 1) (by unfold RgI at e; rw [e] at ho; exact ho) (by walk_at "om") fun h' hn hs => .mk (s.putB p hs ?_) (q _ ⟨_, rfl⟩)
    refine ⟨_, hn, ?_⟩
    unfold RgI
    have e1 : a + (j : Int) + 1 = a + ((j + 1 : Nat) : Int) := by walk_at "om"
    have e2 : (n : Int) - (j : Int) - 1 = (n : Int) - ((j + 1 : Nat) : Int) := by walk_at "om"
    rw [e1, e2]
  stop := fun c c' hg p Q q => .mk fun hp tk s => by
    obtain ⟨o, ho, e⟩ := s.get p.mem
    exact wpAny_pyNext_range_end (x := a + n) (left := (n : Int) - n) (step := 1) rfl (by unfold RgI at e; rw [e] at ho; exact ho) (by walk_at "om") fun h' hs => .mk (s.drop p fun b o hb e => hs b o hb e) q
  self := fun c m Q q => .mk fun hp tk s => by
    obtain ⟨o, ho, e⟩ := s.get m
    exact wpAny_pyIter_rangeiter (by unfold RgI at e; rw [e] at ho; exact ho) (.mk s q)
-- while
theorem w_while {test : Expr} {body : List Stmt} {pos : Pos} {Q : Flow → List Cl → Prop} (J : Nat → List Cl → Prop)
    (turn : ∀ n c, J n c → W X k (isTrue test env (eval test env)) c (fun b c => if b then W X k (execs body env) c (fun f c => match f with
      | .next => ∃ m, m < n ∧ J m c
      | .cont => ∃ m, m < n ∧ J m c
      | .brk => Q .next c
      | .ret v => Q (.ret v) c) else Q .next c)) {n : Nat} (h : J n cs) : W X k (exec (.While test body [] pos) env) cs Q := .mk fun hp tk s => by
  refine wpAny_While ?_
  have key : ∀ (n : Nat) (c : List Cl) (hp : Heap) (tk : Nat), J n c → St X.g c hp → WhlRest PySem.Challenge.rw_sl0008_01.prog X.w (AL k) NoE env test body [] (X.post Q) 0 (X.S hp tk) := by
    intro n
    induction n using Nat.strongRecOn with
    | ind n ih =>
      intro c hp tk hJ s
      refine whl_turn (k := 0) PassesOwn.never ?_
      refine W.chain (turn n c hJ) (fun b c h₁ t₁ s₁ x => ?_) s
      cases b with
      | false => exact WhlIf.no rfl (wpAny_execs_nil (.mk s₁ x))
      | true =>
        refine WhlIf.yes rfl (W.chain x (fun f c h₂ t₂ s₂ y => ?_) s₁)
        cases f with
        | next => obtain ⟨m, hm, hJ'⟩ := y; exact ih m hm c h₂ t₂ hJ' s₂
        | cont => obtain ⟨m, hm, hJ'⟩ := y; exact ih m hm c h₂ t₂ hJ' s₂
        | brk => exact .mk s₂ y
        | ret v => exact .mk s₂ y
  exact key n cs hp tk h s
-- for
theorem w_forLoop {target : Expr} {it : Value} {body : List Stmt} {R : Flow → List Cl → Prop} (J : Nat → List Cl → Prop) (ht : ∀ v, letOwnedTupleGo target it v = pure ())
    (turn : ∀ n c, J n c → W X k (pyNext it) c (fun r c => match r with
      | none => R .next c
      | some v => W X k (PySem.assign target env v) c (fun _ c => W X k (execs body env) c (fun f c => match f with
          | .next => ∃ m, m < n ∧ J m c
          | .cont => ∃ m, m < n ∧ J m c
          | .brk => R .next c
          | .ret v => R (.ret v) c)))) {n : Nat} (h : J n cs) : WC X k (.forLoop target it body [] env) cs R := .mk fun hp tk s => by
  refine codeAny_forLoop (I := fun n s' => ∃ c h t, s' = X.S h t ∧ St X.g c h ∧ J n c) (fun n s' hI => ?_) n ⟨cs, hp, tk, rfl, s, h⟩ ht
  obtain ⟨c, h₁, t₁, rfl, s₁, hJ⟩ := hI
  refine wpAny_mono (W.chain (turn n c hJ) (fun r c h₂ t₂ s₂ x => ?_) s₁) (fun _ _ x => x) (fun _ _ x => x.elim)
  cases r with
  | none => exact wpAny_execs_nil (.mk s₂ x)
  | some v =>
    refine wpAny_mono (W.chain x (fun _ c h₃ t₃ s₃ y => ?_) s₂) (fun _ _ x => x) (fun _ _ x => x.elim)
    refine wpAny_mono (W.chain y (fun f c h₄ t₄ s₄ z => ?_) s₃) (fun _ _ x => x) (fun _ _ x => x.elim)
    cases f with
    | next => obtain ⟨m, hm, hJ'⟩ := z; exact ⟨m, hm, c, h₄, t₄, rfl, s₄, hJ'⟩
    | cont => obtain ⟨m, hm, hJ'⟩ := z; exact ⟨m, hm, c, h₄, t₄, rfl, s₄, hJ'⟩
    | brk => exact .mk s₄ z
    | ret v => exact .mk s₄ z
theorem w_for {target iter : Expr} {body : List Stmt} {pos : Pos} {Q : Flow → List Cl → Prop} (h : W X k (eval iter env) cs (fun x c => W X k (pyIter x) c (fun it c => WC X k (.forLoop target it body [] env) c Q)))
    (hs : ∀ x, foldedSetIterable iter env x = pure x) : W X k (exec (.For target iter body [] pos) env) cs Q := .mk fun hp tk s => by
  refine wpAny_For (W.chain h (fun x c h₁ t₁ s₁ y => W.chain y (fun it c h₂ t₂ s₂ z => ?_) s₁) s) hs
  refine codeAny_mono (z.run h₂ t₂ s₂) fun r s' q => ?_
  cases r with
  | error e => exact q.elim
  | ok f => exact q
/-- a for over an iterator: what holds at turn j -/
theorem w_forItr {x : Str} {px : Pos} {i : Addr} {body : List Stmt} {R : Flow → List Cl → Prop} {IP : Nat → Obj → Prop} {n : Nat} {val : Nat → Value → Prop} {G : List Cl → Prop} (I : Itr X k i IP n val G) (J : Nat → List Cl → Prop)
    (hG : ∀ j c, J j c → G ((i, IP j) :: c)) (turn : ∀ j, j < n → ∀ v, val j v → ∀ c, J j c → W X k (storeName env x v) ((i, IP (j + 1)) :: c) (fun _ c => W X k (execs body env) c (fun f c => match f with
          | .next => ∃ c', Ent c ((i, IP (j + 1)) :: c') ∧ J (j + 1) c'
          | .cont => ∃ c', Ent c ((i, IP (j + 1)) :: c') ∧ J (j + 1) c'
          | .brk => R .next c
          | .ret v => R (.ret v) c))) (fin : ∀ c, J n c → R .next c) (h : J 0 cs) : WC X k (.forLoop (.Name x px) (.ref i) body [] env) ((i, IP 0) :: cs) R := by
  refine w_forLoop (J := fun m c => ∃ j c', j ≤ n ∧ m = n - j ∧ J j c' ∧ Ent c ((i, IP j) :: c')) (fun _ => rfl) (fun m c hJ => ?_) (n := n) ⟨0, cs, Nat.zero_le _, rfl, h, .rfl⟩
  obtain ⟨j, c', hj, rfl, hJ, he⟩ := hJ
  refine W.weak he ?_
  by_cases hjn : j < n
  · refine I.next j hjn _ _ (hG j c' hJ) .head _ fun v hv => ?_
    refine w_assignN (W.mono (turn j hjn v hv c' hJ) fun _ c x => ?_)
    refine W.mono x fun f c x => ?_
    cases f with
    | next => obtain ⟨c'', e, hJ'⟩ := x; exact ⟨n - (j + 1), by walk_at "om", j + 1, c'', hjn, rfl, hJ', e⟩
    | cont => obtain ⟨c'', e, hJ'⟩ := x; exact ⟨n - (j + 1), by walk_at "om", j + 1, c'', hjn, rfl, hJ', e⟩
    | brk => exact x
    | ret v => exact x
  · have e : j = n := by walk_at "om"
    subst e
    exact I.stop _ _ (hG _ c' hJ) .head _ (fin c' hJ)
-- comprehensions
theorem w_compLoop {elt iter : Expr} {x : Str} {px pos : Pos} {ifs : List Expr} {scope : Scope} {i D : Addr} {cenv : Env} {R : Flow → List Cl → Prop} {IP : Nat → Obj → Prop} {n : Nat} {val : Nat → Value → Prop} {G : List Cl → Prop} (I : Itr X k i IP n val G)
    (Acc : Nat → List Value → List Cl → Prop) (hn : n ≤ sizeLine) (hlen : ∀ j ys c, Acc j ys c → ys.length ≤ j)
    (hx : (cenv.kindOf x, cenv.scope.kind) = (some .local, .function))
    (hG : ∀ j ys c, Acc j ys c → G ((i, IP j) :: (cenv.locals, NsL []) :: (D, LsL ys) :: c))
    (turn : ∀ j, j < n → ∀ v, val j v → ∀ ys c, Acc j ys c → W X k (forIn ifs true fun c r => if r = true then do let ok ← isTrue c cenv (eval c cenv); pure (ForInStep.yield ok) else pure (ForInStep.yield r))
        ((cenv.locals, NsL [(x, v)]) :: (i, IP (j + 1)) :: (D, LsL ys) :: c) (fun ok c => if ok = true then W X k (eval elt cenv) c (fun y c => ∃ c', Ent c ((i, IP (j + 1)) :: (cenv.locals, NsL []) :: (D, LsL ys) :: c') ∧ Acc (j + 1) (ys ++ [y]) c')
          else ∃ c', Ent c ((i, IP (j + 1)) :: (cenv.locals, NsL []) :: (D, LsL ys) :: c') ∧ Acc (j + 1) ys c'))
    (fin : ∀ ys c, Acc n ys c → R .next ((cenv.locals, NsL []) :: (D, LsL ys) :: c)) {cs : List Cl} (h : Acc 0 [] cs) :
    WC X k (.compLoop (.ListComp elt [⟨.Name x px, iter, ifs, 0⟩] scope pos) 0 (.ref i) (.ref D) cenv) ((i, IP 0) :: (cenv.locals, NsL []) :: (D, LsL []) :: cs) R := .mk fun hp tk s => by
  refine codeAny_compLoop_tests (I := fun m s' => ∃ j ys c h t, j ≤ n ∧ m = n - j ∧ s' = X.S h t ∧ Acc j ys c ∧ St X.g ((i, IP j) :: (cenv.locals, NsL []) :: (D, LsL ys) :: c) h) (fun m s' hI => ?_) n ⟨0, [], cs, hp, tk, Nat.zero_le _, rfl, rfl, h, s⟩ (fun _ => rfl)
  obtain ⟨j, ys, c, h₁, t₁, hj, rfl, rfl, hA, s₁⟩ := hI
  by_cases hjn : j < n
  · have t := turn j hjn
    refine wpAny_mono (W.chain (I.next j hjn _ _ (hG j ys c hA) .head (fun r c' => match r with
      | none => False
      | some v => val j v ∧ c' = (i, IP (j + 1)) :: (cenv.locals, NsL []) :: (D, LsL ys) :: c) fun v hv => ⟨hv, rfl⟩) (fun r c' h₂ t₂ s₂ x => ?_) s₁) (fun _ _ x => x) (fun _ _ x => x.elim)
    cases r with
    | none => exact x.elim
    | some v =>
      obtain ⟨hv, rfl⟩ := x
      have hst : W X k (PySem.assign (.Name x px) cenv v) ((i, IP (j + 1)) :: (cenv.locals, NsL []) :: (D, LsL ys) :: c) (fun _ c' => c' = (i, IP (j + 1)) :: (cenv.locals, NsL [(x, v)]) :: (D, LsL ys) :: c) :=
        w_assignN (w_storeL (.tail .head) .new (by simp) rfl hx)
      refine wpAny_mono (W.chain hst (fun _ c' h₃ t₃ s₃ e => ?_) s₂) (fun _ _ x => x) (fun _ _ x => x.elim)
      subst e
      have s₃' := (Lay.cons (.tail .head) (.cons .head .refl) : Lay _ ((cenv.locals, NsL [(x, v)]) :: (i, IP (j + 1)) :: (D, LsL ys) :: c)).ent _ _ s₃
      refine wpAny_mono (W.chain (t v hv ys c hA) (fun ok c' h₄ t₄ s₄ y => ?_) s₃') (fun _ _ x => x) (fun _ _ x => x.elim)
      cases ok with
      | false =>
        simp only [Bool.false_eq_true, if_false] at y ⊢
        obtain ⟨c'', e, hA'⟩ := y
        exact ⟨n - (j + 1), by walk_at "om", j + 1, ys, c'', h₄, t₄, hjn, rfl, rfl, hA', e _ _ s₄⟩
      | true =>
        simp only [if_true] at y ⊢
        refine wpAny_mono (W.chain y (fun r c' h₅ t₅ s₅ z => ?_) s₄) (fun _ _ x => x) (fun _ _ x => x.elim)
        obtain ⟨c'', e, hA'⟩ := z
        have s₆ := e _ _ s₅
        have hl := hlen j ys c hA
        have happ : W X k (call (.builtin "list.append") [.ref D, r]) ((i, IP (j + 1)) :: (cenv.locals, NsL []) :: (D, LsL ys) :: c'') (fun _ c => c = (i, IP (j + 1)) :: (cenv.locals, NsL []) :: (D, LsL (ys ++ [r])) :: c'') :=
          w_append (.tail (.tail .head)) (by walk_at "om") rfl
        refine wpAny_mono (W.chain happ (fun _ c h₇ t₇ s₇ e => ?_) s₆) (fun _ _ x => x) (fun _ _ x => x.elim)
        subst e
        exact ⟨n - (j + 1), by walk_at "om", j + 1, ys ++ [r], c'', h₇, t₇, hjn, rfl, rfl, hA', s₇⟩
  · have e : j = n := by walk_at "om"
    subst e
    refine wpAny_mono (W.chain (I.stop _ _ (hG _ ys c hA) .head (fun r c' => r = none ∧ c' = (cenv.locals, NsL []) :: (D, LsL ys) :: c) ⟨rfl, rfl⟩) (fun r c' h₂ t₂ s₂ x => ?_) s₁) (fun _ _ x => x) (fun _ _ x => x.elim)
    obtain ⟨rfl, rfl⟩ := x
    exact .mk s₂ (fin ys c hA)
end
end
section
section
variable {X : XX} {k : Nat} {α β : Type} {cs cs' : List Cl} {env : Env}
noncomputable abbrev testsOf (ifs : List Expr) (cenv : Env) : Sem Bool := forIn ifs true fun c r => if r = true then do let ok ← isTrue c cenv (eval c cenv); pure (ForInStep.yield ok) else pure (ForInStep.yield r)
theorem w_tests0 {cenv : Env} {Q : Bool → List Cl → Prop} (q : Q true cs) : W X k (testsOf [] cenv) cs Q := .mk fun hp tk s => wpAny_tests_nil (.mk s q)
theorem w_tests1 {cenv : Env} {e : Expr} {Q : Bool → List Cl → Prop} (q : W X k (isTrue e cenv (eval e cenv)) cs Q) : W X k (testsOf [e] cenv) cs Q := .mk fun hp tk s => wpAny_tests_one (q.run hp tk s)
/-- a comprehension's run over an iterator -/
noncomputable def CompGo (X : XX) (k : Nat) (env : Env) (elt : Expr) (x : Str) (ifs : List Expr) (scope : Scope) (cl : List (Str × Addr)) (it : Value) (c : List Cl) (Q : Value → List Cl → Prop) : Prop :=
  ∃ (i : Addr) (IP : Nat → Obj → Prop) (n : Nat) (val : Nat → Value → Prop) (G : List Cl → Prop) (Acc : Nat → List Value → List Cl → Prop) (c₀ : List Cl), it = .ref i ∧ c = (i, IP 0) :: c₀ ∧ Itr X k i IP n val G ∧ n ≤ sizeLine ∧ (∀ j ys c, Acc j ys c → List.length ys ≤ j) ∧
    (∀ j ys c C D, Acc j ys c → G ((i, IP j) :: (C, NsL []) :: (D, LsL ys) :: c)) ∧ Acc 0 [] c₀ ∧
    (∀ C D j, j < n → ∀ v, val j v → ∀ ys c, Acc j ys c → W X k (testsOf ifs (compEnvC scope cl C env)) ((C, NsL [(x, v)]) :: (i, IP (j + 1)) :: (D, LsL ys) :: c)
      (fun ok c => if ok = true then W X k (eval elt (compEnvC scope cl C env)) c (fun y c => ∃ c', Ent c ((i, IP (j + 1)) :: (C, NsL []) :: (D, LsL ys) :: c') ∧ Acc (j + 1) (ys ++ [y]) c')
          else ∃ c', Ent c ((i, IP (j + 1)) :: (C, NsL []) :: (D, LsL ys) :: c') ∧ Acc (j + 1) ys c')) ∧
    ∀ D ys c, Acc n ys c → Q (.ref D) ((D, LsL ys) :: c)
theorem compGo {elt : Expr} {x : Str} {ifs : List Expr} {scope : Scope} {cl : List (Str × Addr)} {i : Addr} {c₀ : List Cl} {Q : Value → List Cl → Prop} {IP : Nat → Obj → Prop} {n : Nat} {val : Nat → Value → Prop} {G : List Cl → Prop} (I : Itr X k i IP n val G)
    (Acc : Nat → List Value → List Cl → Prop) (hn : n ≤ sizeLine) (hlen : ∀ j ys c, Acc j ys c → ys.length ≤ j) (hG : ∀ j ys c C D, Acc j ys c → G ((i, IP j) :: (C, NsL []) :: (D, LsL ys) :: c)) (h0 : Acc 0 [] c₀)
    (turn : ∀ C D j, j < n → ∀ v, val j v → ∀ ys c, Acc j ys c → W X k (testsOf ifs (compEnvC scope cl C env)) ((C, NsL [(x, v)]) :: (i, IP (j + 1)) :: (D, LsL ys) :: c)
      (fun ok c => if ok = true then W X k (eval elt (compEnvC scope cl C env)) c (fun y c => ∃ c', Ent c ((i, IP (j + 1)) :: (C, NsL []) :: (D, LsL ys) :: c') ∧ Acc (j + 1) (ys ++ [y]) c')
          else ∃ c', Ent c ((i, IP (j + 1)) :: (C, NsL []) :: (D, LsL ys) :: c') ∧ Acc (j + 1) ys c'))
    (fin : ∀ D ys c, Acc n ys c → Q (.ref D) ((D, LsL ys) :: c)) : CompGo X k env elt x ifs scope cl (.ref i) ((i, IP 0) :: c₀) Q :=
  ⟨i, IP, n, val, G, Acc, c₀, rfl, rfl, I, hn, hlen, hG, h0, turn, fin⟩
theorem comp_core {elt iter : Expr} {x : Str} {px pos : Pos} {ifs : List Expr} {scope : Scope} {cl : List (Str × Addr)} {it : Value} {use : Option (Value → Sem Unit)} {P : Value → Shared → Prop} {Q : Value → List Cl → Prop}
    (hsc : (scope.names.all (fun x => x.2 != .cell), scope.kind, scope.names.lookup x) = (true, .function, some .local)) (h : CompGo X k env elt x ifs scope cl it cs Q)
    (hP : ∀ D C v c h' t', Q v c → v = .ref D → St X.g ((C, NsL []) :: c) h' → compPost (MM X.w) (AL k) NoE use P (.ref D) C (.ok .next) (X.S h' t')) {hp : Heap} {tk : Nat} (s : St X.g cs hp) :
    wpAny (MM X.w) (AL k) (newList []) (fun acc s₃ => wpAny (MM X.w) (AL k) (newFunctionEnv scope env.globals cl [] env.qual none .none (some env)) (fun cenv s₄ =>
        codeAny (MM X.w) (AL k) (.compStart (.ListComp elt [⟨.Name x px, iter, ifs, 0⟩] scope pos) 0 it acc { cenv with scope := relabel scope env }) (compPost (MM X.w) (AL k) NoE use P acc cenv.locals) s₄) NoE s₃) NoE (X.S hp tk) := by
  obtain ⟨i, IP, n, val, G, Acc, c₀, rfl, rfl, I, hn, hlen, hG, h0, turn, fin⟩ := h
  simp only [Prod.mk.injEq] at hsc
  obtain ⟨s1, s2, s3⟩ := hsc
  have nl : W X k (newList []) ((i, IP 0) :: c₀) (fun acc c => ∃ D, acc = .ref D ∧ c = (D, LsL []) :: (i, IP 0) :: c₀) := .mk fun hp tk s =>
    wpAny_newObj_type (.mk (s.push (P := LsL []) rfl ⟨_, rfl⟩) ⟨_, rfl, rfl⟩) (show (0 : Nat) ≤ sizeLine by decide)
  refine W.chain nl (fun acc c h₁ t₁ s₁ y => ?_) s
  obtain ⟨D, rfl, rfl⟩ := y
  refine wpAny_newFunctionEnv (fun x hx => by have := List.all_eq_true.mp s1 x hx; simpa using this) (fun x hx => nomatch hx) (fun h₂ hns hsb => ?_) s2
  have hk₁ : ∀ b o, h₁.get? b = some o → h₂.get? b = some o := fun b o e => hsb.extBut b o (Nat.ne_of_lt (Heap.lt_size e)) (Heap.get?_push_of_some _ e)
  obtain ⟨oC, es, ep, hoC, hdC, hkC, hmC⟩ := hns
  have s₂ : St X.g ((h₁.objs.size, NsL []) :: (D, LsL []) :: (i, IP 0) :: c₀) h₂ := s₁.new hk₁ (Nat.le_refl _) ⟨oC, hoC, es, ep, hdC, hkC, fun p hp => nomatch hp⟩
  have s₃ := (Lay.cons (.tail (.tail .head)) (.cons .head (.cons .head .refl)) : Lay _ ((i, IP 0) :: (h₁.objs.size, NsL []) :: (D, LsL []) :: c₀)).ent _ _ s₂
  generalize h₁.objs.size = C at s₃ ⊢
  have loop := w_compLoop (elt := elt) (iter := iter) (px := px) (pos := pos) (ifs := ifs) (scope := scope) (D := D) (cenv := compEnvC scope cl C env) (x := x) (R := fun f c => f = .next ∧ ∃ ys c', c = (C, NsL []) :: (D, LsL ys) :: c' ∧ Acc n ys c') I Acc hn hlen
    (by
      show ((relabel scope env).names.lookup x, scope.kind) = _
      rw [s2]
      have : (relabel scope env).names.lookup x = some .local := lookup_relabel_local s3
      rw [this]) (fun j ys c hA => hG j ys c C D hA) (turn C D) (fun ys c hA => ⟨rfl, ys, c, rfl, hA⟩) h0
  have fin' : ∀ r s', RQ X (fun f c => f = .next ∧ ∃ ys c', c = (C, NsL []) :: (D, LsL ys) :: c' ∧ Acc n ys c') r s' → compPost (MM X.w) (AL k) NoE use P (.ref D) C r s' := fun r s' hr => by
    cases r with
    | error e => exact hr.elim
    | ok f =>
      obtain ⟨c, h₅, t₅, rfl, s₅, rfl, ys, c', rfl, hA⟩ := hr
      exact hP D C _ _ _ _ (fin D ys c' hA) rfl s₅
  refine codeAny_compStart_list (codeAny_mono (loop.run _ _ s₃) fin') ?_
  refine wpAny_mono (W.chain (I.self _ (.head _) (fun v c => v = .ref i ∧ c = (i, IP 0) :: (C, NsL []) :: (D, LsL []) :: c₀) ⟨rfl, rfl⟩) (fun v c h₄ t₄ s₄ z => ?_) s₃) (fun _ _ x => x) (fun _ _ x => x.elim)
  obtain ⟨rfl, rfl⟩ := z
  exact codeAny_mono (loop.run _ _ s₄) fin'
theorem w_comp {elt iter : Expr} {x : Str} {px pos : Pos} {ifs : List Expr} {scope : Scope} (cl : List (Str × Addr)) {Q : Value → List Cl → Prop}
    (h : W X k (eval iter env) cs (fun src c => W X k (pyIter src) c (fun it c => CompGo X k env elt x ifs scope cl it c Q)))
    (hclos : closureFor scope env = pure cl) (hs : ∀ x, foldedSetIterable iter env x = pure x)
    (hsc : (scope.names.all (fun x => x.2 != .cell), scope.kind, scope.names.lookup x) = (true, .function, some .local)) (hnames : scope.names.all (fun x => x.2 != .local || scope.names.lookup x.1 == some .local) = true) :
    W X k (eval (.ListComp elt [⟨.Name x px, iter, ifs, 0⟩] scope pos) env) cs Q := .mk fun hp tk s => by
  have hsc' := hsc
  simp only [Prod.mk.injEq] at hsc'
  show wpAny _ _ (comprehension (.ListComp elt [⟨.Name x px, iter, ifs, 0⟩] scope pos) scope env _ (newList []) false (eval iter env) none) _ _ _
  refine wpAny_comprehension_free (use := none) rfl hs hclos hsc'.2.1 (fun x hx hl => by have := List.all_eq_true.mp hnames x hx; simpa [hl] using this) ?_
  refine W.chain h (fun src c h₁ t₁ s₁ y => W.chain y (fun it c h₂ t₂ s₂ z => ?_) s₁) s
  refine comp_core hsc z (fun D C v c h' t' hq hv s' => ?_) s₂
  have m := s'.get (.head _)
  obtain ⟨o, ho, es, ep, hd, hk, _⟩ := m
  refine ⟨nsFind es, ⟨o, es, ep, ho, hd, hk, fun _ => rfl⟩, fun h'' hsb => .mk (s'.drop .head fun b o hb e => hsb.extBut b o hb e) (hv ▸ hq)⟩
/-- a name stored, as a relation -/
noncomputable def Stored (env : Env) (y : Str) (v : Value) (c c' : List Cl) : Prop := ∃ l l', Put env.locals (NsL l) (NsL l') c c' ∧ NSet y v l l' ∧ ((l'.map Prod.fst).filter (· == y)).length = 1
/-- a comprehension laid straight into a local name -/
theorem w_assignComp {elt iter : Expr} {x y : Str} {px py pos spos : Pos} {ifs : List Expr} {scope : Scope} (cl : List (Str × Addr)) {Q : Flow → List Cl → Prop}
    (h : W X k (eval iter env) cs (fun src c => W X k (pyIter src) c (fun it c => CompGo X k env elt x ifs scope cl it c (fun v c => ∃ c', Stored env y v c c' ∧ Q .next c'))))
    (hsw : swapsWith (.ListComp elt [⟨.Name x px, iter, ifs, 0⟩] scope pos) (some (.Name y py)) spos.line env = pure true)
    (hclos : closureFor scope env = pure cl) (hs : ∀ x, foldedSetIterable iter env x = pure x)
    (hsc : (scope.names.all (fun x => x.2 != .cell), scope.kind, scope.names.lookup x) = (true, .function, some .local)) (hnames : scope.names.all (fun x => x.2 != .local || scope.names.lookup x.1 == some .local) = true)
    (hy : (env.kindOf y, env.scope.kind) = (some .local, .function)) :
    W X k (exec (.Assign [.Name y py] (.ListComp elt [⟨.Name x px, iter, ifs, 0⟩] scope pos) spos) env) cs Q := .mk fun hp tk s => by
  have hsc' := hsc
  simp only [Prod.mk.injEq] at hsc'
  rw [exec_Assign_Name_used _ _ _ _ hsw]
  refine wpAny_bind (wpAny_standAt (wpAny_bind ?_))
  show wpAny _ _ (do let _ ← comprehension (.ListComp elt [⟨.Name x px, iter, ifs, 0⟩] scope pos) scope env _ (newList []) false (eval iter env) (some (PySem.assign (.Name y py) env))) _ _ _
  refine wpAny_bind (wpAny_mono (wpAny_comprehension_free (use := some (PySem.assign (.Name y py) env)) (Q := fun _ s' => X.post Q .next s') rfl hs hclos hsc'.2.1 (fun x hx hl => by have := List.all_eq_true.mp hnames x hx; simpa [hl] using this) ?_) (fun _ s' hq => wpAny_pure (wpAny_pure hq)) fun _ _ e => e)
  refine W.chain h (fun src c h₁ t₁ s₁ y => W.chain y (fun it c h₂ t₂ s₂ z => ?_) s₁) s
  refine comp_core hsc z (fun D C v c h' t' hq hv s' => ?_) s₂
  subst hv
  obtain ⟨c', ⟨l, l', hput, hset, hlen⟩, hQ⟩ := hq
  show wpAny _ _ (PySem.assign (.Name _ py) env (.ref D)) _ _ _
  have hst : W X k (storeName env _ (.ref D)) ((C, NsL []) :: c) (fun _ c'' => c'' = (C, NsL []) :: c') := w_storeL (.tail hput) hset hlen rfl hy
  refine W.chain (w_assignN hst) (fun _ c'' h₃ t₃ s₃ e => ?_) s'
  subst e
  obtain ⟨o, ho, es, ep, hd, hk, _⟩ := s₃.get (.head _)
  refine ⟨nsFind es, ⟨o, es, ep, ho, hd, hk, fun _ => rfl⟩, fun h'' hsb => .mk (s₃.drop .head fun b o hb e => hsb.extBut b o hb e) hQ⟩
end
end
section
section
variable {X : XX} {k : Nat} {α β : Type} {cs cs' : List Cl} {env : Env} {t u : Tok}
-- places
theorem w_sub_ {value slice : Expr} {pos : Pos} {Q : Value → List Cl → Prop} (h : W X k (eval value env) cs (fun o c => W X k (eval slice env) c (fun i c => W X k (subscriptTail value slice o i) c Q))) : W X k (eval (.Subscript value slice pos) env) cs Q := .mk fun hp tk s =>
  PyProof.Rows.Subscript_ (h.chain (fun o c h₁ t₁ s₁ x => x.chain (fun i c h₂ t₂ s₂ y => y.run h₂ t₂ s₂) s₁) s)
/-- an item of a list -/
theorem w_itemL {value slice : Expr} {l : Addr} {xs : List Value} {i : Int} {j : Nat} {v : Value} {Q : Value → List Cl → Prop} (hm : (l, LsL xs) ∈ cs) (hi : i = j) (hx : xs[j]? = some v) (hsz : xs.length ≤ sizeLine) (q : Q v cs)
    (hs : subscripted slice false (.ref l) (.int i u) = operate [.ref l, .int i u] (getItem (.ref l) (.int i u)) := by rfl) : W X k (subscriptTail value slice (.ref l) (.int i u)) cs Q := .mk fun hp tk s => by
  have e := s.isList hm
  have hj : j < xs.length := (List.getElem?_eq_some_iff.mp hx).1
  have hsl : sizeLine = 16777216 := rfl
  refine PyProof.Rows.tail_any e.typeIs slot_list_getitem.lookup (wpAny_getItem_list e (by walk_at "om") (by walk_at "om") ?_ (.mk s q)) hs
  subst hi
  rw [List.getElem?_toArray]; exact hx
theorem idx_ok {i : Int} (hr : -(2 ^ 63 : Int) ≤ i ∧ i < 2 ^ 63) : (decide (i < -(2 ^ 63 : Int)) || decide (i ≥ 2 ^ 63)) = false := by
  have h1 : ¬ i < -(2 ^ 63 : Int) := by walk_at "om"
  have h2 : ¬ i ≥ 2 ^ 63 := by walk_at "om"
  simp only [h1, h2, decide_false, Bool.or_false]
/-- a sign of a text -/
theorem w_itemS {value slice : Expr} {x : Str} {i : Int} {c : Nat} {Q : Value → List Cl → Prop} (hr : -(2 ^ 63 : Int) ≤ i ∧ i < 2 ^ 63) (hc : (seqIndex? i x.length).bind (x.cps[·]?) = some c) (q : ∀ t', Q (.str ⟨#[c]⟩ t') cs)
    (hs : subscripted slice false (.str x t) (.int i u) = operate [.str x t, .int i u] (getItem (.str x t) (.int i u)) := by rfl) : W X k (subscriptTail value slice (.str x t) (.int i u)) cs Q := .mk fun hp tk s =>
  PyProof.Rows.tail_any (typeIs_str _ _ _) PySem.F.slot_str_getitem.lookup (PyProof.Rows.getItem_str (idx_ok hr) hc (.mk s (q _))) hs
-- slices
noncomputable def SlO (l u s : Value) (o : Obj) : Prop := o = ⟨.type "slice", .none, .fields #[l, u, s], #[]⟩
noncomputable def WPart (X : XX) (k : Nat) (env : Env) (e : Option Expr) (c : List Cl) (Q : Value → List Cl → Prop) : Prop := match e with
  | none => Q .none c
  | some e => W X k (eval e env) c Q
theorem WPart.chain {e : Option Expr} {Q₁ : Value → List Cl → Prop} {P : Value → Shared → Prop} (h : WPart X k env e cs Q₁) (q : ∀ a c h tk, St X.g c h → Q₁ a c → P a (X.S h tk)) {hp : Heap} {tk : Nat} (s : St X.g cs hp) :
    wpAny (MM X.w) (AL k) (evalPart e env) P NoE (X.S hp tk) := by
  cases e with
  | none => exact wpAny_evalPart_none (q _ _ _ _ s h)
  | some e => exact wpAny_evalPart_some (W.chain h q s)
theorem w_slice {lo hi st : Option Expr} {p : Pos} {Q : Value → List Cl → Prop} (h : WPart X k env lo cs (fun l c => WPart X k env hi c (fun u c => WPart X k env st c (fun s c => ∀ a, Q (.ref a) ((a, SlO l u s) :: c))))) :
    W X k (eval (.Slice lo hi st p) env) cs Q := .mk fun hp tk s =>
  wpAny_Slice (WPart.chain h (fun l c h₁ t₁ s₁ x => WPart.chain x (fun u c h₂ t₂ s₂ y => WPart.chain y (fun st c h₃ t₃ s₃ z => .mk (s₃.push (P := SlO l u st) rfl rfl) (z _)) s₂) s₁) s)
theorem w_sliceL {value slice : Expr} {l sl : Addr} {xs : List Value} {vl vu vs : Value} {lo hi st : Option Int} {Q : Value → List Cl → Prop} (hm : (l, LsL xs) ∈ cs) (hsm : (sl, SlO vl vu vs) ∈ cs) (pl : IsPart vl lo) (pu : IsPart vu hi) (ps : IsPart vs st) (h0 : st ≠ some 0) (hsz : xs.length ≤ sizeLine)
    {ys : List Value} (hy : slicePick xs.toArray lo hi st = ys.toArray) (q : ∀ a, Q (.ref a) ((a, LsL ys) :: cs)) {ops : List Value} (hs : subscripted slice false (.ref l) (.ref sl) = operate ops (getItem (.ref l) (.ref sl))) : W X k (subscriptTail value slice (.ref l) (.ref sl)) cs Q := .mk fun hp tk s => by
  have e := s.isList hm
  obtain ⟨o, ho, e2⟩ := s.get hsm
  unfold SlO at e2
  subst e2
  refine PyProof.Rows.tail_any e.typeIs slot_list_getitem.lookup (wpAny_getItem_list_slice e ⟨_, ho, rfl, rfl⟩ pl pu ps h0 ?_ (by rw [List.size_toArray]; exact hsz)) hs
  rw [hy]
  exact .mk (s.push (P := LsL ys) rfl ⟨_, rfl⟩) (q _)
theorem w_sliceS {value slice : Expr} {sl : Addr} {x : Str} {l v : Option (Int × Tok)} {Q : Value → List Cl → Prop} (hsm : (sl, SlO (partValue l) (partValue v) .none) ∈ cs) (hsz : x.length ≤ sizeLine)
    (q : ∀ t', Q (.str (Txt.slice x (l.map (·.1)) (v.map (·.1))) t') cs) {ops : List Value} (hs : subscripted slice false (.str x t) (.ref sl) = operate ops (getItem (.str x t) (.ref sl))) : W X k (subscriptTail value slice (.str x t) (.ref sl)) cs Q := .mk fun hp tk s => by
  obtain ⟨o, ho, e2⟩ := s.get hsm
  unfold SlO at e2
  subst e2
  refine PyProof.Rows.tail_any (typeIs_str _ _ _) PySem.F.slot_str_getitem.lookup (wpAny_getItem_str_slice (l := l) (u := v) (st := none) ⟨_, ho, rfl, rfl⟩ rfl ?_) hs
  exact PySem.post_val_or_str ⟨Nat.le_trans (Txt.slice_le x _ _) hsz, fun t' k' => .mk s (q _)⟩
theorem w_usub {x : Expr} {pos : Pos} {Q : Value → List Cl → Prop} (h : W X k (eval x env) cs (fun v c => W X k (unaryOp .USub v) c Q)) : W X k (eval (.UnaryOp .USub x pos) env) cs Q := .mk fun hp tk s =>
  wpAny_UnaryOp (h.chain (fun _ _ _ _ s x => x.chain (fun _ _ _ _ s x => .mk s x) s) s)
theorem w_neg {a : Int} {Q : Value → List Cl → Prop} (q : ∀ t', Q (.int (-a) t') cs) : W X k (unaryOp .USub (.int a t)) cs Q := .mk fun hp tk s => PyProof.Rows.neg_int (.mk s (q _))
-- lists
theorem w_addL {l m : Addr} {xs ys : List Value} {Q : Value → List Cl → Prop} (hl : (l, LsL xs) ∈ cs) (hm : (m, LsL ys) ∈ cs) (hsz : xs.length + ys.length ≤ sizeLine) (q : ∀ a, Q (.ref a) ((a, LsL (xs ++ ys)) :: cs)) : W X k (binaryOp .Add (.ref l) (.ref m)) cs Q := .mk fun hp tk s => by
  obtain ⟨n, e⟩ := s.lsl hl
  obtain ⟨n', e'⟩ := s.lsl hm
  refine PySem.P.add_list e e' ?_ (by rw [List.size_toArray, List.size_toArray]; exact hsz)
  exact .mk (s.push (P := LsL (xs ++ ys)) rfl ⟨0, by rw [← List.append_toArray]⟩) (q _)
theorem w_range1 {n : Int} {Q : Value → List Cl → Prop} (q : ∀ r, Q (.ref r) ((r, RgO 0 n) :: cs)) : W X k (call (.type "range") [.int n t]) cs Q := .mk fun hp tk s =>
  call_range_1 (.mk (s.push (P := RgO 0 n) rfl ⟨_, _, _, rfl⟩) (q _))
theorem w_range2 {a b : Int} {Q : Value → List Cl → Prop} (q : ∀ r, Q (.ref r) ((r, RgO a b) :: cs)) : W X k (call (.type "range") [.int a t, .int b u]) cs Q := .mk fun hp tk s =>
  call_range_2 (.mk (s.push (P := RgO a b) rfl ⟨_, _, _, rfl⟩) (q _))
theorem take_drop_ins {α : Type} {v : α} : ∀ {xs : List α} {j : Nat}, j ≤ xs.length → xs.take j ++ v :: xs.drop j = xs.insertIdx j v
  | _, 0, _ => by simp
  | [], j + 1, h => by simp at h
  | x :: xs, j + 1, h => by
    simp only [List.take_succ_cons, List.drop_succ_cons, List.cons_append, List.insertIdx_succ_cons]
    rw [take_drop_ins (by simpa using h)]
theorem w_setItem {l : Addr} {xs : List Value} {i : Int} {j : Nat} {v : Value} {Q : Unit → List Cl → Prop} (hi : i = j) (hj : j < xs.length) (hsz : xs.length ≤ sizeLine) (p : Put l (LsL xs) (LsL (xs.set j v)) cs cs') (q : Q () cs') : W X k (setItem (.ref l) (.int i u) v) cs Q := .mk fun hp tk s => by
  obtain ⟨n, e⟩ := s.lsl p.mem
  have hsl : sizeLine = 16777216 := rfl
  refine ki_setAt e (by walk_at "om") (by walk_at "om") (by rw [List.size_toArray]; walk_at "om") (.mk (put_list s p e ?_) q)
  subst hi
  apply Array.toList_inj.mp
  simp
theorem w_insert {l : Addr} {xs : List Value} {i : Int} {j : Nat} {v : Value} {Q : Value → List Cl → Prop} (hi : i = j) (hj : j ≤ xs.length) (hsz : xs.length ≤ sizeLine) (p : Put l (LsL xs) (LsL (xs.insertIdx j v)) cs cs') (q : Q .none cs') : W X k (call (.builtin "list.insert") [.ref l, .int i u, v]) cs Q := .mk fun hp tk s => by
  obtain ⟨n, e⟩ := s.lsl p.mem
  have hsl : sizeLine = 16777216 := rfl
  refine call_meets PySem.F.slot_list_insert ⟨_, e, rfl⟩ PySem.F.entry_list_insert (PySem.F.args_list_insert_3 _ _ _) (PySem.AutoSeq1.list_insert_list_int_val_1 l _ n i u v ?_ (by rw [List.size_toArray]; exact hsz)) ⟨e, ?_⟩
  · unfold Builtin.List.listFitsIndex
    subst hi
    simp; walk_at "om"
  · refine .mk (put_list s p e ?_) q
    subst hi
    have h1 : ¬ ((j : Int) < 0) := by walk_at "om"
    have h2 : min (j : Int).toNat xs.toArray.size = j := by rw [List.size_toArray]; walk_at "om"
    simp only [h1, if_false, h2]
    rw [kl_ins_eq]
    congr 1
    exact take_drop_ins hj
end
end
section
noncomputable abbrev fdOf (s : Stmt) (qual : Str) (dV kV doc pm : Value) (an : Option Addr) (c ct : Value) : FuncData :=
  { name := nameOf s, qualname := qual, params := parOf s, body := .stmts (bodyOf s), scope := scOf s, globals := mainGlobals, closure := [], defaults := dV, kwdefaults := kV, doc, pyModule := pm, annotations := an, code := c, closureTuple := ct, builtins := builtinsNs }
@[reducible] noncomputable def ev (sc : Scope) (qual : Str) (L a : Addr) (c : Value) (cl : List (Str × Addr)) : Env :=
  { scope := sc, locals := L, globals := mainGlobals, cells := cl, qual := qual ++ ".<locals>.", func := some a, code := c, frame := some L, builtins := builtinsNs }
/-- a def of the text, as it stands at f -/
noncomputable def IsFn (X : XX) (f : Addr) (s : Stmt) (qual : Str) (dV kV c : Value) : Prop :=
  (∃ doc pm an ct sl, X.g.get? f = some ⟨.type "function", none, .func (fdOf s qual dV kV doc pm an c ct), sl⟩) ∧ X.g.CodeRec c qual
structure Stat (X : XX) : Prop where
  lim : X.g.NoLimit
  G : X.g.Ns mainGlobals X.mg
  B : X.g.Ns builtinsNs X.mb
  f23 : IsFn X 23 (stmtAt 1) "insort_right" (.ref 15) (.ref 16) (.ref 22)
  f32 : IsFn X 32 (stmtAt 2) "bisect_right" (.ref 24) (.ref 25) (.ref 31)
  f41 : IsFn X 41 (stmtAt 3) "bisect_left" (.ref 33) (.ref 34) (.ref 40)
  f48 : IsFn X 48 (stmtAt 5) "_parse_varint" .none .none (.ref 47)
  f62 : IsFn X 62 (inClass (stmtAt 7) 0) "_netrclex.__init__" .none .none (.ref 61)
  f69 : IsFn X 69 (inClass (stmtAt 7) 1) "_netrclex._read_char" .none .none (.ref 68)
  f76 : IsFn X 76 (inClass (stmtAt 7) 2) "_netrclex.get_token" .none .none (.ref 75)
  f83 : IsFn X 83 (inClass (stmtAt 7) 3) "_netrclex.push_token" .none .none (.ref 82)
  f95 : IsFn X 95 (stmtAt 9) "_law_octets" .none .none (.ref 94)
  f100 : IsFn X 100 (stmtAt 10) "_law_number" .none .none (.ref 99)
  f105 : IsFn X 105 (stmtAt 11) "_law_spelled" .none .none (.ref 104)
  f112 : IsFn X 112 (stmtAt 12) "_law_lexer" .none .none (.ref 111)
  f117 : IsFn X 117 (stmtAt 13) "_law_put_back" .none .none (.ref 116)
  g23 : X.mg "insort_right" = some (.ref 23)
  g32 : X.mg "bisect_right" = some (.ref 32)
  g41 : X.mg "bisect_left" = some (.ref 41)
  g48 : X.mg "_parse_varint" = some (.ref 48)
  g86 : X.mg "_netrclex" = some (.ref 86)
  g95 : X.mg "_law_octets" = some (.ref 95)
  g100 : X.mg "_law_number" = some (.ref 100)
  g105 : X.mg "_law_spelled" = some (.ref 105)
  g112 : X.mg "_law_lexer" = some (.ref 112)
  g117 : X.mg "_law_put_back" = some (.ref 117)
  b_len : X.mg "len" = none ∧ X.mb "len" = some (.builtin "len")
  b_range : X.mg "range" = none ∧ X.mb "range" = some (.type "range")
  b_sum : X.mg "sum" = none ∧ X.mb "sum" = some (.builtin "sum")
  b_iter : X.mg "iter" = none ∧ X.mb "iter" = some (.builtin "iter")
  b_next : X.mg "next" = none ∧ X.mb "next" = some (.builtin "next")
  b_list : X.mg "list" = none ∧ X.mb "list" = some (.type "list")
  b_ord : X.mg "ord" = none ∧ X.mb "ord" = some (.builtin "ord")
  b_chr : X.mg "chr" = none ∧ X.mb "chr" = some (.builtin "chr")
  b_sorted : X.mg "sorted" = none ∧ X.mb "sorted" = some (.builtin "sorted")
section
variable {X : XX} {k : Nat} {cs cs' : List Cl}
theorem Kp.of_fn {f : Addr} {s : Stmt} {qual : Str} {dV kV c : Value} (hf : IsFn X f s qual dV kV c) : Kp X (.ref f) cs := by
  obtain ⟨⟨doc, pm, an, ct, sl, e⟩, _⟩ := hf
  exact Kp.fn (fun h s => s.keep _ _ e) rfl
/-- a call of the text's def -/
theorem w_def {f : Addr} {s : Stmt} {qual : Str} {dV kV c : Value} {pos : List Value} {kw : List (Str × Value)} {binds : List (Str × Value)} {Q : Value → List Cl → Prop} (hS : Stat X) (hf : IsFn X f s qual dV kV c)
    (hbind : ∀ doc pm an ct h tk, St X.g cs h → BindsTo (X.S h tk) (fdOf s qual dV kV doc pm an c ct) ⟨pos, kw⟩ binds)
    (hsc : ((scOf s).names.all (fun x => x.2 != .cell), binds.all (fun x => (scOf s).names.lookup x.1 == some .local), (scOf s).isCoroutine, (scOf s).isGenerator, (scOf s).kind) = (true, true, false, false, .function))
    (hn : decide (binds.map Prod.fst).Nodup = true) (hk : k < 60)
    (h : ∀ L, W X (k + 1) (execs (bodyOf s) (ev (scOf s) qual L f c [])) ((L, NsL binds) :: cs) (fun fl c => ∃ c', Ent c c' ∧ Q (retOf fl) c')) : W X k (call (.ref f) pos kw) cs Q := by
  obtain ⟨⟨doc, pm, an, ct, sl, e⟩, hcd⟩ := hf
  refine W.call (w_fn hS.lim (fun h s => s.keep _ _ e) rfl (fun h s => hcd.keeps s.keep) (hbind doc pm an ct) rfl hsc (of_decide_eq_true hn) hk fun L => ?_)
  exact (h L).mono fun fl c ⟨c', e, q⟩ => ⟨c', e, _, rfl, q⟩
theorem w_defC {f : Addr} {s : Stmt} {qual : Str} {dV kV c : Value} {pos : List Value} {kw : List (Str × Value)} {binds : List (Str × Value)} {Q : Value → List Cl → Prop} (hS : Stat X) (hf : IsFn X f s qual dV kV c)
    (hbind : ∀ doc pm an ct h tk, St X.g cs h → BindsTo (X.S h tk) (fdOf s qual dV kV doc pm an c ct) ⟨pos, kw⟩ binds)
    (hsc : (binds.all (fun x => (scOf s).names.lookup x.1 == some .local), (scOf s).isCoroutine, (scOf s).isGenerator, (scOf s).kind) = (true, false, false, .function))
    (hn : decide (binds.map Prod.fst).Nodup = true) (hnc : ((cellsFrom 0 (scOf s).names []).map (·.1)).Nodup) (hk : k < 60)
    (h : ∀ L, W X (k + 1) (execs (bodyOf s) (ev (scOf s) qual L f c (cellsFrom (L + 1) (scOf s).names []))) ((L, NsL binds) :: (cellsCl (cellsFrom (L + 1) (scOf s).names []) ++ cs)) (fun fl c => ∃ c', Ent c c' ∧ Q (retOf fl) c')) : W X k (call (.ref f) pos kw) cs Q := by
  obtain ⟨⟨doc, pm, an, ct, sl, e⟩, hcd⟩ := hf
  refine W.call (w_fnC hS.lim (fun h s => s.keep _ _ e) rfl (fun h s => hcd.keeps s.keep) (hbind doc pm an ct) rfl rfl hsc (of_decide_eq_true hn) hnc hk fun L => ?_)
  exact (h L).mono fun fl c ⟨c', e, q⟩ => ⟨c', e, _, rfl, q⟩
/-- plain binding -/
theorem binds_of {s : Stmt} {qual : Str} {pos : List Value} {binds : List (Str × Value)} {c : Value} (h : ∀ doc pm an ct, bindArgs (fdOf s qual .none .none doc pm an c ct) ⟨pos, []⟩ = pure binds) :
    ∀ doc pm an ct h tk, St X.g cs h → BindsTo (X.S h tk) (fdOf s qual .none .none doc pm an c ct) ⟨pos, []⟩ binds := fun doc pm an ct _ _ _ => .of_eq (h doc pm an ct)
end
section
variable {X : XX} {k : Nat} {cs cs' : List Cl} {env : Env}
theorem w_argc {e : Expr} {r : List Expr} {c : List Cl} {Q : List Value → List Cl → Prop} (h : W X k (eval e env) c (fun v c => WArgs X k env r c (fun vs c => Q (v :: vs) c))) : WArgs X k env (e :: r) c Q := h
noncomputable def isComp : Expr → Bool
  | .ListComp .. => true
  | _ => false
theorem w_assignP {x : Str} {pos' pos : Pos} {value : Expr} {Q : Flow → List Cl → Prop} (hn : isComp value = false) (h : W X k (eval value env) cs (fun v c => W X k (storeName env x v) c (fun _ => Q .next)))
    (hs : swapsWith value (some (.Name x pos')) pos.line env = pure false) : W X k (exec (.Assign [.Name x pos'] value pos) env) cs Q := w_assign h hs
theorem w_execs0 {body rest : List Stmt} {st : Stmt} {Q : Flow → List Cl → Prop} (hb : body = st :: rest) (h : W X k (exec st env) cs (WExecs X k env rest Q)) : W X k (execs body env) cs Q := hb ▸ w_execs h
theorem w_argn {c : List Cl} {Q : List Value → List Cl → Prop} (h : Q [] c) : WArgs X k env [] c Q := h
theorem w_next {rest : List Stmt} {c : List Cl} {Q : Flow → List Cl → Prop} (h : W X k (execs rest env) c Q) : WExecs X k env rest Q .next c := h
theorem w_back {rest : List Stmt} {v : Value} {c : List Cl} {Q : Flow → List Cl → Prop} (h : Q (.ret v) c) : WExecs X k env rest Q (.ret v) c := h
theorem ifB {b : Bool} {A B : Prop} (h1 : b = true → A) (h2 : b = false → B) : if b = true then A else B := by
  cases b with
  | true => exact h1 rfl
  | false => exact h2 rfl
end
end
section
-- plain: words of signs
/-- the figures behind the first -/
noncomputable def more (n : Nat) : List Nat := if h : n ≤ 63 then [] else (64 + (n / 64) % 64) :: more (n / 64)
termination_by n
decreasing_by walk_at "om"
noncomputable def figs (n : Nat) : List Nat := n % 64 :: more n
noncomputable def enc (f : Nat) : Nat := f + 128 * (f % 4 / 3)
noncomputable def oct (n : Nat) : List Nat := (figs n).reverse.map enc
noncomputable def octS (n : Nat) : Str := ⟨(oct n).toArray⟩
theorem more_small {n : Nat} (h : n ≤ 63) : more n = [] := by rw [more]; simp [h]
theorem more_big {n : Nat} (h : 63 < n) : more n = (64 + (n / 64) % 64) :: more (n / 64) := by rw [more]; simp [Nat.not_le.mpr h]
theorem more_len : ∀ (k : Nat) {n : Nat}, n < 64 ^ (k + 1) → (more n).length ≤ k
  | 0, n, h => by rw [more_small (by walk_at "om")]; simp
  | k + 1, n, h => by
    by_cases hn : n ≤ 63
    · rw [more_small hn]; simp
    · rw [more_big (by walk_at "om"), List.length_cons]
      have : n / 64 < 64 ^ (k + 1) := by
        rw [Nat.div_lt_iff_lt_mul (by decide)]
        rw [Nat.pow_succ] at h; exact h
      have := more_len k this
      walk_at "om"
theorem more_lt : ∀ (n : Nat), ∀ f ∈ more n, 64 ≤ f ∧ f < 128 := by
  intro n
  induction n using Nat.strongRecOn with
  | ind n ih =>
    by_cases hn : n ≤ 63
    · rw [more_small hn]; intro f hf; cases hf
    · rw [more_big (by walk_at "om")]
      intro f hf
      rcases List.mem_cons.mp hf with rfl | hf
      · walk_at "om"
      · exact ih (n / 64) (by walk_at "om") f hf
theorem figs_lt (n : Nat) : ∀ f ∈ figs n, f < 128 := by
  intro f hf
  rcases List.mem_cons.mp hf with rfl | hf
  · walk_at "om"
  · exact (more_lt n f hf).2
theorem enc_lt {f : Nat} (h : f < 128) : enc f < 256 := by unfold enc; walk_at "om"
theorem oct_lt (n : Nat) : ∀ c ∈ oct n, c < 256 := by
  intro c hc
  obtain ⟨f, hf, rfl⟩ := List.mem_map.mp hc
  exact enc_lt (figs_lt n f (List.mem_reverse.mp hf))
theorem oct_len {n : Nat} (h : n < 64 ^ 4) : (oct n).length ≤ 4 := by
  have := more_len 3 h
  simp only [oct, figs, List.length_map, List.length_reverse, List.length_cons]; walk_at "om"
theorem oct_pos (n : Nat) : 0 < (oct n).length := by simp [oct, figs]
theorem octS_len {n : Nat} (h : n < 64 ^ 4) : (octS n).length ≤ 4 := by
  show (oct n).toArray.size ≤ 4
  rw [List.size_toArray]; exact oct_len h
/-- what a value bears -/
noncomputable def iv : Value → Option Int
  | .int i _ => some i
  | _ => none
noncomputable def sv : Value → Option Str
  | .str s _ => some s
  | _ => none
theorem iv_eq {v : Value} {n : Int} (h : iv v = some n) : ∃ t, v = .int n t := by
  cases v <;> simp only [iv, Option.some.injEq] at h <;> first | exact ⟨_, by rw [h]⟩ | cases h
theorem sv_eq {v : Value} {n : Str} (h : sv v = some n) : ∃ t, v = .str n t := by
  cases v <;> simp only [sv, Option.some.injEq] at h <;> first | exact ⟨_, by rw [h]⟩ | cases h
noncomputable def Ints (xs : List Value) (ns : List Int) : Prop := xs.map iv = ns.map some
noncomputable def Strs (xs : List Value) (ss : List Str) : Prop := xs.map sv = ss.map some
theorem map_some_get {α β : Type} {f : α → Option β} {xs : List α} {ns : List β} (h : xs.map f = ns.map some) {j : Nat} {v : α} (e : xs[j]? = some v) : ∃ n, ns[j]? = some n ∧ f v = some n := by
  have h' := congrArg (·[j]?) h
  simp only [List.getElem?_map, e, Option.map_some] at h'
  cases q : ns[j]? with
  | none => rw [q] at h'; simp at h'
  | some n => rw [q] at h'; simp at h'; exact ⟨n, rfl, h'⟩
theorem map_some_get' {α β : Type} {f : α → Option β} {xs : List α} {ns : List β} (h : xs.map f = ns.map some) {j : Nat} {n : β} (e : ns[j]? = some n) : ∃ v, xs[j]? = some v ∧ f v = some n := by
  have h' := congrArg (·[j]?) h
  simp only [List.getElem?_map, e, Option.map_some] at h'
  cases q : xs[j]? with
  | none => rw [q] at h'; simp at h'
  | some v => rw [q] at h'; simp at h'; exact ⟨v, rfl, h'⟩
theorem map_some_len {α β : Type} {f : α → Option β} {xs : List α} {ns : List β} (h : xs.map f = ns.map some) : xs.length = ns.length := by
  have := congrArg List.length h; simpa using this
theorem Ints.get {xs : List Value} {ns : List Int} (h : Ints xs ns) {j : Nat} {v : Value} (e : xs[j]? = some v) : ∃ n t, ns[j]? = some n ∧ v = .int n t := by
  obtain ⟨n, hn, hv⟩ := map_some_get h e
  obtain ⟨t, rfl⟩ := iv_eq hv
  exact ⟨n, t, hn, rfl⟩
theorem Ints.at {xs : List Value} {ns : List Int} (h : Ints xs ns) {j : Nat} {n : Int} (e : ns[j]? = some n) : ∃ t, xs[j]? = some (.int n t) := by
  obtain ⟨v, hv, hn⟩ := map_some_get' h e
  obtain ⟨t, rfl⟩ := iv_eq hn
  exact ⟨t, hv⟩
theorem Strs.get {xs : List Value} {ns : List Str} (h : Strs xs ns) {j : Nat} {v : Value} (e : xs[j]? = some v) : ∃ n t, ns[j]? = some n ∧ v = .str n t := by
  obtain ⟨n, hn, hv⟩ := map_some_get h e
  obtain ⟨t, rfl⟩ := sv_eq hv
  exact ⟨n, t, hn, rfl⟩
theorem Strs.at {xs : List Value} {ns : List Str} (h : Strs xs ns) {j : Nat} {n : Str} (e : ns[j]? = some n) : ∃ t, xs[j]? = some (.str n t) := by
  obtain ⟨v, hv, hn⟩ := map_some_get' h e
  obtain ⟨t, rfl⟩ := sv_eq hn
  exact ⟨t, hv⟩
theorem Ints.length {xs : List Value} {ns : List Int} (h : Ints xs ns) : xs.length = ns.length := map_some_len h
theorem Strs.length {xs : List Value} {ns : List Str} (h : Strs xs ns) : xs.length = ns.length := map_some_len h
theorem Ints.snoc {xs : List Value} {ns : List Int} (h : Ints xs ns) {n : Int} {t : Tok} : Ints (xs ++ [.int n t]) (ns ++ [n]) := by
  unfold Ints at *; simp [h, iv]
theorem Strs.snoc {xs : List Value} {ns : List Str} (h : Strs xs ns) {n : Str} {t : Tok} : Strs (xs ++ [.str n t]) (ns ++ [n]) := by
  unfold Strs at *; simp [h, sv]
theorem Ints.rev {xs : List Value} {ns : List Int} (h : Ints xs ns) : Ints xs.reverse ns.reverse := by
  unfold Ints at *; rw [List.map_reverse, h, List.map_reverse]
theorem Ints.nil : Ints [] [] := rfl
theorem Strs.nil : Strs [] [] := rfl
end
section
noncomputable def strOf (l : List Nat) : Str := ⟨l.toArray⟩
theorem strOf_len (l : List Nat) : (strOf l).length = l.length := List.size_toArray ..
noncomputable def catS (ss : List Str) : Str := ⟨(ss.flatMap (·.cps.toList)).toArray⟩
theorem glued0_fold : ∀ (r : List Str) (acc : Array Nat), r.foldl (fun acc p => acc ++ (Str.ofString "").cps ++ p.cps) acc = acc ++ (r.flatMap (·.cps.toList)).toArray
  | [], acc => by simp
  | p :: r, acc => by
    rw [List.foldl_cons, glued0_fold r]
    have : (Str.ofString "").cps = #[] := by decide +kernel
    rw [this, Array.append_empty, List.flatMap_cons, ← List.append_toArray, Array.append_assoc, Array.toArray_toList]
theorem glued0 : ∀ ss : List Str, Builtin.Str.glued (Str.ofString "") ss = catS ss
  | [] => by decide +kernel
  | p :: r => by
    show (⟨r.foldl (fun acc p => acc ++ (Str.ofString "").cps ++ p.cps) p.cps⟩ : Str) = _
    rw [glued0_fold]
    unfold catS
    rw [List.flatMap_cons, ← List.append_toArray, Array.toArray_toList]
theorem catS_len (ss : List Str) : (catS ss).length = (ss.map (·.length)).sum := by
  show (ss.flatMap (·.cps.toList)).toArray.size = _
  rw [List.size_toArray, List.length_flatMap]
  congr 1
theorem toks_of_strs : ∀ {xs : List Value} {ss : List Str}, Strs xs ss → ∃ l : List (Str × Tok), xs = strValues l ∧ l.map (·.1) = ss
  | [], [], _ => ⟨[], rfl, rfl⟩
  | [], s :: ss, h => by simp [Strs] at h
  | x :: xs, [], h => by simp [Strs] at h
  | x :: xs, s :: ss, h => by
    simp only [Strs, List.map_cons, List.cons.injEq] at h
    obtain ⟨t, rfl⟩ := sv_eq h.1
    obtain ⟨l, rfl, hl⟩ := toks_of_strs (xs := xs) (ss := ss) h.2
    exact ⟨(s, t) :: l, rfl, by rw [List.map_cons, hl]⟩
theorem sum_fold : ∀ (l : List Str) (a : Nat), l.foldl (fun x y => x + y.length + (Str.ofString "").length) a = a + (l.map (·.length)).sum
  | [], a => by simp
  | p :: l, a => by
    rw [List.foldl_cons, sum_fold l, List.map_cons, List.sum_cons]
    have : (Str.ofString "").length = 0 := by decide +kernel
    walk_at "om"
section
variable {α : Type} {X : XX} {k : Nat} {cs cs' : List Cl} {env : Env}
theorem w_join0 {t : Tok} {l : Addr} {xs : List Value} {ss : List Str} {Q : Value → List Cl → Prop} (hm : (l, LsL xs) ∈ cs) (hx : Strs xs ss) (hz : (catS ss).length ≤ sizeLine) (q : ∀ t', Q (.str (catS ss) t') cs) : W X k (call (.builtin "str.join") [.str (Str.ofString "") t, .ref l]) cs Q := .mk fun hp tk s => by
  obtain ⟨lt, rfl, hl⟩ := toks_of_strs hx
  have hlen := hz
  rw [catS_len] at hlen
  refine call_meets PySem.F.slot_str_join (typeIs_str _ _ _) PySem.F.entry_str_join (PySem.F.args_str_join_2 _ _) (meets_str_join_list (Str.ofString "") t l lt ?_) ⟨s.isList hm, ?_⟩
  · rw [hl, List.foldl_toArray', sum_fold]
    · unfold Builtin.Str.tooLong; simp; walk_at "om"
    · rfl
  · unfold joinMade
    split
    · rename_i p
      have e : ss = [p.1] := by rw [← hl]; rfl
      have : catS ss = p.1 := by rw [e]; unfold catS; simp
      rw [← this]
      exact XX.post.mk s (q _)
    · rw [hl, glued0]
      exact ⟨hz, XX.post.mk s (q _)⟩
theorem w_strMethod {x : Str} {t : Tok} {name : Str} {id : String} {pl : Sem Bool} {Q : Value × List Value → List Cl → Prop} (slot : Slot "str" name id) (hty : typeOf (.builtin id) = pure (.type "method_descriptor")) (q : Q (.builtin id, [.str x t]) cs) : W X k (getMethod (.str x t) name pl) cs Q :=
  w_method strT PySem.F.plainAttrs_str slot hty q
theorem w_listMethod {l : Addr} {xs : List Value} {name : Str} {id : String} {pl : Sem Bool} {Q : Value × List Value → List Cl → Prop} (slot : Slot "list" name id) (hty : typeOf (.builtin id) = pure (.type "method_descriptor")) (hm : (l, LsL xs) ∈ cs) (q : Q (.builtin id, [.ref l]) cs) : W X k (getMethod (.ref l) name pl) cs Q :=
  w_method (listT hm) PySem.F.plainAttrs_list slot hty q
theorem w_part0 {Q : Value → List Cl → Prop} (h : Q .none cs) : WPart X k env none cs Q := h
theorem w_part1 {e : Expr} {Q : Value → List Cl → Prop} (h : W X k (eval e env) cs Q) : WPart X k env (some e) cs Q := h
theorem w_drop {P : Cl} {t : Sem α} {Q : α → List Cl → Prop} (h : W X k t cs Q) : W X k t (P :: cs) Q := W.weak (Lay.skip .refl).ent h
theorem w_sliceRev {value slice : Expr} {l sl : Addr} {t : Tok} {xs : List Value} {Q : Value → List Cl → Prop} (hm : (l, LsL xs) ∈ cs) (hsm : (sl, SlO .none .none (.int (-1) t)) ∈ cs) (hsz : xs.length ≤ sizeLine)
    (q : ∀ a, Q (.ref a) ((a, LsL xs.reverse) :: cs)) (hs : subscripted slice false (.ref l) (.ref sl) = operate [.ref l, .ref sl] (getItem (.ref l) (.ref sl))) : W X k (subscriptTail value slice (.ref l) (.ref sl)) cs Q :=
  w_sliceL hm hsm .none .none (.int _ _) (by decide) hsz (by rw [PySem.W.krv_pick]) q hs
noncomputable def Nats (xs : List Value) (ns : List Nat) : Prop := Ints xs (ns.map fun n : Nat => (n : Int))
theorem Nats.snoc {xs : List Value} {ns : List Nat} (h : Nats xs ns) {i : Int} {n : Nat} {t : Tok} (e : i = n) : Nats (xs ++ [.int i t]) (ns ++ [n]) := by
  subst e
  unfold Nats
  rw [List.map_append]
  exact Ints.snoc h
theorem Nats.nil : Nats [] [] := rfl
theorem Nats.length {xs : List Value} {ns : List Nat} (h : Nats xs ns) : xs.length = ns.length := by
  have := Ints.length h; simpa using this
theorem Nats.get {xs : List Value} {ns : List Nat} (h : Nats xs ns) {j : Nat} {v : Value} (e : xs[j]? = some v) : ∃ (n : Nat) (t : Tok), ns[j]? = some n ∧ v = .int n t := by
  obtain ⟨i, t, hi, rfl⟩ := Ints.get h e
  rw [List.getElem?_map] at hi
  cases q : ns[j]? with
  | none => rw [q] at hi; simp at hi
  | some n => rw [q] at hi; simp at hi; exact ⟨n, t, rfl, by rw [hi]⟩
theorem Nats.at {xs : List Value} {ns : List Nat} (h : Nats xs ns) {j n : Nat} (e : ns[j]? = some n) : ∃ t, xs[j]? = some (.int (n : Int) t) :=
  Ints.at h (by rw [List.getElem?_map, e]; rfl)
theorem Nats.rev {xs : List Value} {ns : List Nat} (h : Nats xs ns) : Nats xs.reverse ns.reverse := by
  have := Ints.rev h
  unfold Nats; rw [List.map_reverse]; exact this
theorem fmodN (m k : Nat) : (m : Int).fmod k = ((m % k : Nat) : Int) := by rw [Int.fmod_eq_emod_of_nonneg _ (by walk_at "om")]; walk_at "om"
theorem fdivN (m k : Nat) : (m : Int).fdiv k = ((m / k : Nat) : Int) := by rw [Int.fdiv_eq_ediv_of_nonneg _ (by walk_at "om")]; walk_at "om"
/-- a comprehension with one test at most, the other cells as they were -/
theorem compI {elt : Expr} {x : Str} {ifs : List Expr} {scope : Scope} {cl : List (Str × Addr)} {i : Addr} {c₀ : List Cl} {Q : Value → List Cl → Prop} {IP : Nat → Obj → Prop} {n : Nat} {val : Nat → Value → Prop} {G : List Cl → Prop} (I : Itr X k i IP n val G)
    (Inv : Nat → List Value → Prop) (hn : n ≤ sizeLine) (hG : ∀ j ys C D, G ((i, IP j) :: (C, NsL []) :: (D, LsL ys) :: c₀)) (h0 : Inv 0 [])
    (turn : ∀ C D j, j < n → ∀ v, val j v → ∀ ys, ys.length ≤ j → Inv j ys → W X k (testsOf ifs (compEnvC scope cl C env)) ((C, NsL [(x, v)]) :: (i, IP (j + 1)) :: (D, LsL ys) :: c₀)
      (fun ok c => if ok = true then W X k (eval elt (compEnvC scope cl C env)) c (fun y c => Ent c ((i, IP (j + 1)) :: (C, NsL []) :: (D, LsL ys) :: c₀) ∧ Inv (j + 1) (ys ++ [y]))
          else Ent c ((i, IP (j + 1)) :: (C, NsL []) :: (D, LsL ys) :: c₀) ∧ Inv (j + 1) ys))
    (fin : ∀ D ys, ys.length ≤ n → Inv n ys → Q (.ref D) ((D, LsL ys) :: c₀)) : CompGo X k env elt x ifs scope cl (.ref i) ((i, IP 0) :: c₀) Q :=
  compGo I (fun j ys c => c = c₀ ∧ ys.length ≤ j ∧ Inv j ys) hn (fun j ys c h => h.2.1) (fun j ys c C D h => h.1 ▸ hG j ys C D) ⟨rfl, Nat.le_refl _, h0⟩
    (fun C D j hj v hv ys c h => by
      obtain ⟨rfl, hl, hi⟩ := h
      refine (turn C D j hj v hv ys hl hi).mono fun ok c' x => ?_
      cases ok with
      | true =>
        simp only [if_true] at x ⊢
        exact x.mono fun y c'' ⟨e, z⟩ => ⟨_, e, rfl, by simp; walk_at "om", z⟩
      | false =>
        simp only [Bool.false_eq_true, if_false] at x ⊢
        exact ⟨_, x.1, rfl, by walk_at "om", x.2⟩)
    (fun D ys c h => by obtain ⟨rfl, hl, hi⟩ := h; exact fin D ys hl hi)
/-- the same, no test -/
theorem compI0 {elt : Expr} {x : Str} {scope : Scope} {cl : List (Str × Addr)} {i : Addr} {c₀ : List Cl} {Q : Value → List Cl → Prop} {IP : Nat → Obj → Prop} {n : Nat} {val : Nat → Value → Prop} {G : List Cl → Prop} (I : Itr X k i IP n val G)
    (Inv : Nat → List Value → Prop) (hn : n ≤ sizeLine) (hG : ∀ j ys C D, G ((i, IP j) :: (C, NsL []) :: (D, LsL ys) :: c₀)) (h0 : Inv 0 [])
    (turn : ∀ C D j, j < n → ∀ v, val j v → ∀ ys, ys.length ≤ j → Inv j ys → W X k (eval elt (compEnvC scope cl C env)) ((C, NsL [(x, v)]) :: (i, IP (j + 1)) :: (D, LsL ys) :: c₀) (fun y c => Ent c ((i, IP (j + 1)) :: (C, NsL []) :: (D, LsL ys) :: c₀) ∧ Inv (j + 1) (ys ++ [y])))
    (fin : ∀ D ys, ys.length ≤ n → Inv n ys → Q (.ref D) ((D, LsL ys) :: c₀)) : CompGo X k env elt x [] scope cl (.ref i) ((i, IP 0) :: c₀) Q :=
  compI I Inv hn hG h0 (fun C D j hj v hv ys hl hi => w_tests0 (by simp only [if_true]; exact turn C D j hj v hv ys hl hi)) fin
theorem NsL.weak {l : List (Str × Value)} : ∀ o, NsL l o → NsL [] o := fun o ⟨es, ep, a, b, _⟩ => ⟨es, ep, a, b, fun p hp => nomatch hp⟩
theorem ent_turn {C i : Addr} {l : List (Str × Value)} {P : Obj → Prop} {r : List Cl} : Ent ((C, NsL l) :: (i, P) :: r) ((i, P) :: (C, NsL []) :: r) :=
  Ent.trans (Lay.cons (.tail .head) (.cons .head .refl) : Lay _ ((i, P) :: (C, NsL l) :: r)).ent (Ent.of (fun h => h) fun c hc => by
    rcases List.mem_cons.mp hc with rfl | hc
    · exact ⟨_, .head _, rfl, fun _ h => h⟩
    · rcases List.mem_cons.mp hc with rfl | hc
      · exact ⟨_, .tail _ (.head _), rfl, NsL.weak⟩
      · exact ⟨c, .tail _ (.tail _ hc), rfl, fun _ h => h⟩)
/-- or, as a test -/
noncomputable def TOr (X : XX) (k : Nat) (env : Env) : List Expr → List Cl → (Bool → List Cl → Prop) → Prop
  | [], c, Q => Q false c
  | e :: r, c, Q => W X k (isTrue e env (eval e env)) c (fun b c => if b = true then Q true c else TOr X k env r c Q)
theorem w_torGo : ∀ {values : List Expr} {c : List Cl} {Q : Bool → List Cl → Prop}, TOr X k env values c Q → W X k (allTrue .Or values env) c Q
  | [], c, Q, h => .mk fun hp tk s => wpAny_allTrue_Or_nil (.mk s h)
  | e :: r, c, Q, h => .mk fun hp tk s => wpAny_allTrue_Or_cons (W.chain h (fun b c h₁ t₁ s₁ x => by
      cases b with
      | true => exact .mk s₁ x
      | false => exact (w_torGo (show TOr X k env r c Q from x)).run h₁ t₁ s₁) s)
theorem w_tor {values : List Expr} {pos : Pos} {whole : Sem Value} {Q : Bool → List Cl → Prop} (h : TOr X k env values cs Q) : W X k (isTrue (.BoolOp .Or values pos) env whole) cs Q := .mk fun hp tk s => wpAny_isTrue_BoolOp ((w_torGo h).run hp tk s)
theorem w_torc {e : Expr} {r : List Expr} {Q : Bool → List Cl → Prop} (h : W X k (isTrue e env (eval e env)) cs (fun b c => if b = true then Q true c else TOr X k env r c Q)) : TOr X k env (e :: r) cs Q := h
theorem w_torn {Q : Bool → List Cl → Prop} (h : Q false cs) : TOr X k env [] cs Q := h
/-- is -/
theorem w_isN {Q : Value → List Cl → Prop} (q : Q (.bool true) cs) : W X k (compareOp .Is .none .none) cs Q := .mk fun hp' tk s => wpAny_is_self (by kernel_rfl) (.mk s q)
theorem w_isX {a : Value} {Q : Value → List Cl → Prop} (hne : a ≠ .none) (q : Q (.bool false) cs) : W X k (compareOp .Is a .none) cs Q := .mk fun hp' tk s => is_none_ne hne (.mk s q)
theorem w_isNotN {Q : Value → List Cl → Prop} (q : Q (.bool false) cs) : W X k (compareOp .IsNot .none .none) cs Q := .mk fun hp' tk s => wpAny_isNot_self (by kernel_rfl) (.mk s q)
theorem w_isNotX {a : Value} {Q : Value → List Cl → Prop} (hne : a ≠ .none) (q : Q (.bool true) cs) : W X k (compareOp .IsNot a .none) cs Q := .mk fun hp' tk s => isnot_none_ne hne (.mk s q)
theorem w_inC {x : Str} {c : Nat} {t u : Tok} {Q : Value → List Cl → Prop} (q : Q (.bool (decide (c ∈ x.cps.toList))) cs) : W X k (compareOp .In (.str ⟨#[c]⟩ u) (.str x t)) cs Q := w_inS (by rw [StrLaws.found_one]; exact q)
theorem fmod64 (m : Nat) : (m : Int).fmod 64 = ((m % 64 : Nat) : Int) := fmodN m 64
theorem fdiv64 (m : Nat) : (m : Int).fdiv 64 = ((m / 64 : Nat) : Int) := fdivN m 64
theorem catS_chars (l : List Nat) : catS (l.map fun c => (⟨#[c]⟩ : Str)) = ⟨l.toArray⟩ := by
  unfold catS
  congr 2
  induction l with
  | nil => rfl
  | cons a r ih => rw [List.map_cons, List.flatMap_cons, ih]; rfl
theorem catS_strOf (ls : List (List Nat)) : catS (ls.map strOf) = strOf ls.flatten := by
  unfold catS strOf
  congr 2
  induction ls with
  | nil => rfl
  | cons a r ih => rw [List.map_cons, List.flatMap_cons, ih, List.flatten_cons]
theorem slice_core (l : List Nat) (a : Nat) : ∀ m, a + m ≤ l.length → ((List.range m).map fun k => a + k).filterMap (l.toArray[·]?) = (l.drop a).take m
  | 0, _ => rfl
  | m + 1, h => by
    rw [List.range_succ, List.map_append, List.filterMap_append, slice_core l a m (by walk_at "om"), List.take_add_one, List.getElem?_drop]
    congr 1
    rw [List.map_cons, List.map_nil, List.filterMap_cons, List.getElem?_toArray, List.getElem?_eq_getElem (by walk_at "om")]
    rfl
noncomputable def clipL (n : Nat) (d : Nat) : Option Int → Nat
  | none => d
  | some i => (max 0 (min (if i < 0 then i + n else i) (n : Int))).toNat
theorem txt_slice (l : List Nat) (lo hi : Option Int) : Txt.slice (strOf l) lo hi = strOf ((l.drop (clipL l.length 0 lo)).take (clipL l.length l.length hi - clipL l.length 0 lo)) := by
  have hidx : Builtin.Str.strSliceIndices lo hi 1 l.length = (List.range (clipL l.length l.length hi - clipL l.length 0 lo)).map fun k => clipL l.length 0 lo + k := by
    have e : ∀ (A B : Int) (a b : Nat), A = a → B = b → sliceRange A B 1 = (List.range (b - a)).map fun k => a + k := by
      intro A B a b ha hb
      subst ha hb
      unfold sliceRange
      have h1 : (if (1 : Int) > 0 then (if (a : Int) < b then ((b : Int) - a + 1 - 1) / 1 else 0) else (if (a : Int) > b then ((a : Int) - b - 1 - 1) / (-1) else 0)).toNat = b - a := by
        rw [if_pos (by decide)]; split <;> walk_at "om"
      show (List.range (Int.toNat _)).map _ = _
      rw [h1]
      congr 1
      funext k; walk_at "om"
    unfold Builtin.Str.strSliceIndices
    refine e _ _ _ _ ?_ ?_
    · cases lo <;> simp only [clipL, show (1 : Int) > 0 by decide, if_true] <;> walk_at "om"
    · cases hi <;> simp only [clipL, show (1 : Int) > 0 by decide, if_true] <;> walk_at "om"
  have hle : clipL l.length 0 lo + (clipL l.length l.length hi - clipL l.length 0 lo) ≤ l.length := by
    have : ∀ d o, d ≤ l.length → clipL l.length d o ≤ l.length := fun d o h => by cases o <;> simp only [clipL] <;> walk_at "om"
    have h1 := this 0 lo (by walk_at "om")
    have h2 := this l.length hi (by walk_at "om")
    walk_at "om"
  unfold Txt.slice
  rw [strOf_len, hidx, List.length_map, List.length_range]
  split
  · rename_i h
    simp at h
    have h0 : clipL l.length 0 lo = 0 := by walk_at "om"
    rw [h, h0]
    simp
  · show (⟨_⟩ : Str) = ⟨_⟩
    congr 2
    exact slice_core l _ _ hle
theorem w_sliceT {value slice : Expr} {sl : Addr} {t : Tok} {l : List Nat} (lo hi : Option (Int × Tok)) {Q : Value → List Cl → Prop} (hsm : (sl, SlO (partValue lo) (partValue hi) .none) ∈ cs) (hsz : l.length ≤ 16777216) {r : List Nat}
    (hr : (l.drop (clipL l.length 0 (lo.map (·.1)))).take (clipL l.length l.length (hi.map (·.1)) - clipL l.length 0 (lo.map (·.1))) = r)
    (q : ∀ t', Q (.str (strOf r) t') cs) (hs : subscripted slice false (.str (strOf l) t) (.ref sl) = operate [.ref sl, .str (strOf l) t] (getItem (.str (strOf l) t) (.ref sl))) : W X k (subscriptTail value slice (.str (strOf l) t) (.ref sl)) cs Q :=
  w_sliceS (l := lo) (v := hi) hsm (by rw [strOf_len]; exact hsz) (fun t' => by rw [txt_slice, hr]; exact q t') hs
theorem w_slP {value slice : Expr} {l sl : Addr} {xs : List Value} {vl vu : Value} {lo hi : Option Int} {Q : Value → List Cl → Prop} (hm : (l, LsL xs) ∈ cs) (hsm : (sl, SlO vl vu .none) ∈ cs) (pl : IsPart vl lo) (pu : IsPart vu hi) (hsz : xs.length ≤ 16777216)
    {ys : List Value} (hy : slicePick xs.toArray lo hi none = ys.toArray) (q : ∀ a, Q (.ref a) ((a, LsL ys) :: cs)) (hs : subscripted slice false (.ref l) (.ref sl) = operate [.ref sl, .ref l] (getItem (.ref l) (.ref sl))) : W X k (subscriptTail value slice (.ref l) (.ref sl)) cs Q :=
  w_sliceL hm hsm pl pu .none (by simp) hsz hy q hs
theorem take_one_eq (l : List Nat) (n : Nat) : (strOf (l.take 1) == strOf [n]) = decide (l.head? = some n) := by
  cases l with
  | nil => rfl
  | cons a r =>
    rw [List.take_succ_cons, List.take_zero, List.head?_cons]
    by_cases h : a = n
    · subst h; simp
    · have : strOf [a] ≠ strOf [n] := fun e => h (by injection e with e; injection e with e; injection e)
      rw [beq_eq_false_iff_ne.mpr this]; simp [h]
theorem strOf_app (a b : List Nat) : strOf a ++ strOf b = strOf (a ++ b) := by
  show (⟨a.toArray ++ b.toArray⟩ : Str) = ⟨_⟩
  rw [List.append_toArray]
theorem w_addT {a b : List Nat} {t u : Tok} {Q : Value → List Cl → Prop} (hsz : a.length + b.length ≤ 16777216) (q : ∀ t', Q (.str (strOf (a ++ b)) t') cs) : W X k (binaryOp .Add (.str (strOf a) t) (.str (strOf b) u)) cs Q :=
  w_addS (by rw [strOf_len, strOf_len]; exact hsz) fun t' => by rw [strOf_app]; exact q t'
theorem w_iaddT {a b : List Nat} {t u : Tok} {Q : Value → List Cl → Prop} (hsz : a.length + b.length ≤ 16777216) (q : ∀ t', Q (.str (strOf (a ++ b)) t') cs) : W X k (inplaceOp .Add (.str (strOf a) t) (.str (strOf b) u)) cs Q :=
  w_iaddS (by rw [strOf_len, strOf_len]; exact hsz) fun t' => by rw [strOf_app]; exact q t'
theorem w_itemT {value slice : Expr} {l : List Nat} {t u : Tok} {i : Int} {c : Nat} {Q : Value → List Cl → Prop} (hr : -(2 ^ 63 : Int) ≤ i ∧ i < 2 ^ 63) (hc : l[(if i < 0 then i + l.length else i).toNat]? = some c) (h0 : 0 ≤ (if i < 0 then i + l.length else i)) (q : ∀ t', Q (.str (strOf [c]) t') cs)
    (hs : subscripted slice false (.str (strOf l) t) (.int i u) = operate [.str (strOf l) t, .int i u] (getItem (.str (strOf l) t) (.int i u))) : W X k (subscriptTail value slice (.str (strOf l) t) (.int i u)) cs Q := by
  refine w_itemS hr ?_ q hs
  have hlt : (if i < 0 then i + l.length else i).toNat < l.length := (List.getElem?_eq_some_iff.mp hc).1
  have h2 : (decide (0 ≤ (if i < 0 then i + (l.length : Int) else i)) && decide ((if i < 0 then i + (l.length : Int) else i) < (l.length : Int))) = true := by
    rw [Bool.and_eq_true, decide_eq_true_eq, decide_eq_true_eq]
    exact ⟨h0, by walk_at "om"⟩
  have h3 : seqIndex? i (strOf l).length = some (if i < 0 then i + (l.length : Int) else i).toNat := by
    unfold seqIndex?
    rw [strOf_len]
    exact if_pos h2
  rw [h3]
  show l.toArray[_]? = _
  rw [List.getElem?_toArray]; exact hc
theorem take_snoc {α : Type} {l : List α} {j : Nat} {a : α} (h : l[j]? = some a) : l.take (j + 1) = l.take j ++ [a] := by rw [List.take_add_one, h]; rfl
end
end
local macro_rules | `(tactic| walk_at "mem") => `(tactic| (repeat (first | exact List.Mem.head _ | assumption | refine' List.Mem.tail _ ?_)))
local macro_rules | `(tactic| walk_at "put") => `(tactic| first | exact Put.head | (refine' Put.tail ?pt; case pt => walk_at "put"))
local macro_rules | `(tactic| walk_at "nset") => `(tactic| with_reducible (first | exact NSet.here | exact NSet.new | (refine' NSet.tail ?pt; case pt => walk_at "nset")))
local macro_rules | `(tactic| walk_at "pick") => `(tactic| (repeat (first | exact Pick.head | apply Pick.tail)))
local macro_rules | `(tactic| walk_at "lay") => `(tactic| first | exact Lay.refl | exact Lay.nil | (refine' Lay.cons ?pp ?pt; (case pp => (repeat (first | exact Pick.head | apply Pick.tail))); (case pt => walk_at "lay")) | (refine' Lay.skip ?pt; case pt => walk_at "lay"))
local macro_rules | `(tactic| walk_at "subs") => `(tactic| first | (refine' List.forall_mem_cons.mpr ⟨?ph, ?pt⟩; (case ph => (with_reducible (repeat (first | exact List.mem_cons_self | refine' List.mem_cons_of_mem _ ?_)))); (case pt => walk_at "subs")) | exact (fun p hp => absurd hp List.not_mem_nil))
local macro_rules | `(tactic| walk_at "stored") => `(tactic| (refine' ⟨_, ⟨_, _, ?sp, ?sn, ?se⟩, ?_⟩; (case sp => walk_at "put"); (case sn => walk_at "nset"); (case se => kernel_rfl)))
local macro_rules | `(tactic| walk_at "comp0") => `(tactic| (with_reducible refine' w_comp [] ?_ (by kernel_rfl) (fun _ => by kernel_rfl) (by kernel_rfl) (by kernel_rfl)))
local macro_rules | `(tactic| walk_at "w") => `(tactic| first
  | (with_reducible refine' w_int fun _ => ?_)
  | ((with_reducible refine' w_nameL ?sm ?sv ?_ (by kernel_rfl)); (case sm => (repeat (first | exact List.Mem.head _ | assumption | refine' List.Mem.tail _ ?_))); (case sv => (with_reducible (repeat (first | exact List.mem_cons_self | refine' List.mem_cons_of_mem _ ?_)))))
  | (with_reducible refine' w_argc ?_)
  | (with_reducible refine' w_argn ?_)
  | (with_reducible refine' w_next ?_)
  | (with_reducible refine' w_execs ?_)
  | ((with_reducible refine' w_execs0 ?hb ?_); (case hb => exact rfl))
  | (with_reducible refine' w_binop ?_)
  | ((with_reducible refine' w_assignP ?hn ?_ (by kernel_rfl)); (case hn => exact rfl))
  | ((with_reducible refine' w_storeC ?sc ?sp ?sh ?_ ?sx); (case sc => exact rfl); (case sx => exact rfl); (case sp => (repeat (first | exact Put.head | apply Put.tail))); (case sh => first | exact CellN.v | exact CellN.id))
  | ((with_reducible refine' w_storeL ?sp ?sn ?se ?_ (by kernel_rfl)); (case sp => (repeat (first | exact Put.head | apply Put.tail))); (case sn => (with_reducible (repeat (first | exact NSet.here | exact NSet.new | apply NSet.tail)))); (case se => kernel_rfl))
  | (with_reducible refine' w_str fun _ => ?_)
  | (with_reducible refine' w_ret ?_)
  | (with_reducible refine' w_ifs ?_)
  | (with_reducible refine' w_tcompare ?_ (by kernel_rfl))
  | (with_reducible refine' w_compare ?_ (by kernel_rfl))
  | (with_reducible refine' w_tBool ?_)
  | (with_reducible refine' w_call ?_ (by kernel_rfl))
  | ((with_reducible refine' w_callM (he := ?he) ?_ (by kernel_rfl)); (case he => exact rfl))
  | ((with_reducible refine' And.intro ?kp ?_); (case kp => first | exact Kp.builtin | exact Kp.type))
  | (with_reducible refine' w_expr ?_ (by kernel_rfl) (by kernel_rfl))
  | ((with_reducible refine' w_nameG (Stat.G (by assumption)) ?sg ?_ (by kernel_rfl)); (case sg => with_reducible first | exact Stat.g23 (by assumption) | exact Stat.g32 (by assumption) | exact Stat.g41 (by assumption) | exact Stat.g48 (by assumption) | exact Stat.g86 (by assumption) | exact Stat.g95 (by assumption) | exact Stat.g100 (by assumption) | exact Stat.g105 (by assumption) | exact Stat.g112 (by assumption) | exact Stat.g117 (by assumption)))
  | ((with_reducible refine' w_nameB (Stat.G (by assumption)) (Stat.B (by assumption)) ?sg ?_ (by kernel_rfl)); (case sg => with_reducible first | exact Stat.b_len (by assumption) | exact Stat.b_range (by assumption) | exact Stat.b_sum (by assumption) | exact Stat.b_iter (by assumption) | exact Stat.b_next (by assumption) | exact Stat.b_list (by assumption) | exact Stat.b_ord (by assumption) | exact Stat.b_chr (by assumption) | exact Stat.b_sorted (by assumption)))
  | ((with_reducible refine' w_nameC ?sc ?sm ?_ ?sx); (case sc => exact rfl); (case sx => exact rfl); (case sm => (repeat (first | exact List.Mem.head _ | assumption | refine' List.Mem.tail _ ?_))))
  | ((with_reducible refine' w_nameF ?sc ?sm ?_ ?sx); (case sc => exact rfl); (case sx => exact rfl); (case sm => (repeat (first | exact List.Mem.head _ | assumption | refine' List.Mem.tail _ ?_))))
  | (with_reducible refine' w_none ?_)
  | (with_reducible refine' w_bool ?_)
  | (with_reducible refine' w_list ?_ (by kernel_rfl))
  | (with_reducible refine' w_add fun _ => ?_)
  | (with_reducible refine' w_sub fun _ => ?_)
  | (with_reducible refine' w_mod (by decide) fun _ => ?_)
  | (with_reducible refine' w_fdiv (by decide) (by decide +kernel) fun _ => ?_)
  | (with_reducible refine' w_and fun _ => ?_)
  | (with_reducible refine' w_lt ?_)
  | (with_reducible refine' w_gt ?_)
  | (with_reducible refine' w_ge ?_)
  | (with_reducible refine' w_eqI ?_)
  | (with_reducible refine' w_neI ?_)
  | (with_reducible refine' w_eqS ?_)
  | (with_reducible refine' w_tInt ?_)
  | (with_reducible refine' w_sub_ ?_)
  | (with_reducible refine' w_usub ?_)
  | (with_reducible refine' w_neg fun _ => ?_)
  | (with_reducible refine' w_tnot ?_)
  | (with_reducible refine' w_ifexp ?_)
  | (with_reducible refine' w_aug ?_)
  | (with_reducible refine' w_mul (fun _ => ?_) (IntMulOk.of_left (by decide +kernel)))
  | ((with_reducible refine' w_listMethod PySem.F.slot_list_append (by kernel_rfl) ?mm ?_); (case mm => (repeat (first | exact List.Mem.head _ | assumption | refine' List.Mem.tail _ ?_))))
  | ((with_reducible refine' w_listMethod PySem.F.slot_list_pop (by kernel_rfl) ?mm ?_); (case mm => (repeat (first | exact List.Mem.head _ | assumption | refine' List.Mem.tail _ ?_))))
  | ((with_reducible refine' w_listMethod PySem.F.slot_list_insert (by kernel_rfl) ?mm ?_); (case mm => (repeat (first | exact List.Mem.head _ | assumption | refine' List.Mem.tail _ ?_))))
  | ((with_reducible refine' w_listMethod PySem.F.slot_list_index (by kernel_rfl) ?mm ?_); (case mm => (repeat (first | exact List.Mem.head _ | assumption | refine' List.Mem.tail _ ?_))))
  | ((with_reducible refine' w_listMethod PySem.F.slot_list_count (by kernel_rfl) ?mm ?_); (case mm => (repeat (first | exact List.Mem.head _ | assumption | refine' List.Mem.tail _ ?_))))
  | (with_reducible refine w_strMethod PySem.F.slot_str_join (by kernel_rfl) ?_)
  | (with_reducible refine w_strMethod PySem.F.slot_str_count (by kernel_rfl) ?_)
  | (with_reducible refine' w_iterS fun _ => ?_)
  | (with_reducible refine' w_tor ?_)
  | (with_reducible refine' w_torc ?_)
  | (with_reducible refine' w_torn ?_)
  | (with_reducible refine' w_isN ?_)
  | (with_reducible refine' w_isX (fun h => nomatch h) ?_)
  | (with_reducible refine' w_isNotN ?_)
  | (with_reducible refine' w_isNotX (fun h => nomatch h) ?_)
  | (with_reducible refine' w_inC ?_)
  | (with_reducible refine' w_execs_nil ?_)
  | (with_reducible refine' w_callKw1 ?_ (by kernel_rfl))
  | (with_reducible refine' w_ior (fun _ => ?_))
  | (with_reducible refine' w_iadd (fun _ => ?_))
  | ((with_reducible refine' w_loadL ?sm ?sv ?_ (by kernel_rfl)); (case sm => (repeat (first | exact List.Mem.head _ | assumption | refine' List.Mem.tail _ ?_))); (case sv => (with_reducible (repeat (first | exact List.mem_cons_self | refine' List.mem_cons_of_mem _ ?_)))))
  | (with_reducible refine' w_tval ?_ (by kernel_rfl)))
section
section
variable {X : XX} {k : Nat} {cs cs' : List Cl} {env : Env}
/-- _law_octets -/
theorem c_octets (hS : Stat X) (hk : k < 50) (n : Nat) (tn : Tok) (h1 : n < 64 ^ 4) {Q : Value → List Cl → Prop} (q : ∀ t, Q (.str (octS n) t) cs) : W X k (call (.ref 95) [.int (n : Int) tn]) cs Q := by
  with_reducible refine w_def (binds := [("number", .int n tn)]) hS hS.f95 (binds_of fun _ _ _ _ => by kernel_rfl) (by kernel_rfl) (by kernel_rfl) (by walk_at "om") fun L => ?_
  walk_at "w"
  walk_at "w"
  walk_at "w"
  walk_at "w"
  walk_at "w"
  repeat walk_at "w"
  refine ⟨of_decide_eq_true (by kernel_rfl), fun a => ?_⟩
  walk_at "w"
  walk_at "w"
  walk_at "w"
  refine w_while (J := fun m c => ∃ i t fs ns, c = (a, LsL fs) :: (L, NsL [("number", .int i t), ("figures", .ref a)]) :: cs ∧ i = (m : Int) ∧ Nats fs ns ∧ ns ++ more m = figs n) (n := n) (fun m c hJ => ?_) ?_
  · obtain ⟨i, t, fs, ns, rfl, rfl, hf, hm⟩ := hJ
    have hl : fs.length + (more m).length ≤ 4 := by
      have := more_len 3 h1
      have e := congrArg List.length hm
      rw [hf.length]
      simp only [List.length_append, figs, List.length_cons] at e
      walk_at "om"
    repeat walk_at "w"
    refine ifB (fun h => ?_) fun h => ?_
    · have h : 63 < m := by simp only [decide_eq_true_eq] at h; walk_at "om"
      repeat walk_at "w"
      refine w_append (v := .int _ _) .head (show fs.length ≤ 16777216 by walk_at "om") ?_
      refine w_next (w_execs_nil ⟨m / 64, by walk_at "om", _, _, _, _, rfl, fdiv64 m, hf.snoc ((by rw [fdiv64, fmod64]; walk_at "om" : 64 + ((m : Int).fdiv 64).fmod 64 = ((64 + (m / 64) % 64 : Nat) : Int))), ?_⟩)
      rw [← hm, more_big h, List.append_assoc]; rfl
    · have h : m ≤ 63 := by simp only [decide_eq_false_iff_not] at h; walk_at "om"
      rw [more_small h, List.append_nil] at hm
      subst hm
      repeat walk_at "w"
      repeat walk_at "w"
      walk_at "comp0"
      repeat walk_at "w"
      refine w_slice (w_part0 (w_part0 (w_part1 ?_)))
      repeat walk_at "w"
      refine fun sl => w_sliceRev (.tail _ (.head _)) (.head _) (show fs.length ≤ 16777216 by walk_at "om") (fun r => ?_) (by kernel_rfl)
      refine w_iterL (.head _) fun it => ?_
      have hr := hf.rev
      refine compI0 (itrL (l := r) (xs := fs.reverse)) (fun j ys => Strs ys (((oct n).map fun c => (⟨#[c]⟩ : Str)).take j)) (show fs.reverse.length ≤ 16777216 by simp; walk_at "om") (fun j ys C D => by walk_at "mem") rfl (fun C D j hj v hv ys hl hi => ?_) fun D ys hl hi => ?_
      · obtain ⟨f, tf, hf', rfl⟩ := hr.get hv
        have hfl : f < 128 := figs_lt n f (List.mem_reverse.mp (List.mem_of_getElem? hf'))
        repeat walk_at "w"
        have he : (f : Int) + 128 * ((f : Int).fmod 4).fdiv 3 = ((enc f : Nat) : Int) := by
          have e1 : (f : Int).fmod 4 = ((f % 4 : Nat) : Int) := fmodN f 4
          have e2 : ((f % 4 : Nat) : Int).fdiv 3 = ((f % 4 / 3 : Nat) : Int) := fdivN _ 3
          rw [e1, e2]; unfold enc; walk_at "om"
        have hel := enc_lt hfl
        refine w_chr (by rw [he]; walk_at "om") (by rw [he]; walk_at "om") fun t => ⟨ent_turn, ?_⟩
        have hg : ((oct n).map fun c => (⟨#[c]⟩ : Str))[j]? = some ⟨#[enc f]⟩ := by
          rw [List.getElem?_map]; unfold oct; rw [List.getElem?_map, hf']; rfl
        rw [take_snoc hg, he]
        exact hi.snoc
      · with_reducible refine w_argn ?_
        repeat walk_at "w"
        have hfull : List.take fs.reverse.length (List.map (fun c => (⟨#[c]⟩ : Str)) (oct n)) = List.map (fun c => (⟨#[c]⟩ : Str)) (oct n) := by
          refine List.take_of_length_le ?_
          have := hr.length
          simp only [oct, List.length_map]; walk_at "om"
        rw [hfull] at hi
        refine w_join0 (.head _) hi (by rw [catS_chars]; exact Nat.le_trans (octS_len h1) (by decide)) fun t => ?_
        rw [catS_chars]
        exact w_back ⟨cs, Lay.ent (by walk_at "lay"), q t⟩
  · refine ⟨_, _, _, [n % 64], rfl, rfl, Nats.nil.snoc (fmodN n 64), ?_⟩
    rfl
end
end
section
section
variable {X : XX} {k : Nat} {cs cs' : List Cl} {env : Env}
theorem w_iterCallL {l : Addr} {xs : List Value} {Q : Value → List Cl → Prop} (hm : (l, LsL xs) ∈ cs) (q : ∀ i, Q (.ref i) ((i, LiI l 0) :: cs)) : W X k (call (.builtin "iter") [.ref l]) cs Q := .mk fun hp tk s => by
  refine call_function_entry (by decide +kernel) (by decide +kernel) kdk_entry_iter (kdk_args_iter _) ?_
  unfold Builtin.«iter»
  refine wpAny_bind (m := someArgs "iter" 1 2 _) (wpAny_of_eq (a := [Value.ref l]) (by first | rfl | kernel_rfl!) ?_)
  show wpAny _ _ (pyIter (.ref l) >>= _) _ _ _
  exact wpAny_bind (wpAny_pyIter_list (s.isList hm) (wpAny_pure ⟨_, rfl, .mk (s.push (P := LiI l 0) rfl ⟨rfl, rfl⟩) (q _)⟩))
theorem w_nextL {it l : Addr} {xs : List Value} {j : Nat} {v : Value} {Q : Value → List Cl → Prop} (hm : (l, LsL xs) ∈ cs) (hv : xs[j]? = some v) (p : Put it (LiI l j) (LiI l (j + 1)) cs cs') (q : Q v cs') : W X k (call (.builtin "next") [.ref it]) cs Q := .mk fun hp tk s => by
  obtain ⟨o, ho, hc, hd⟩ := s.get p.mem
  have hit : hp.IsListIter it l j := ⟨o, ho, hc, hd⟩
  refine call_function_entry (by decide +kernel) (by decide +kernel) kdk_entry_next (kdk_args_next _) ?_
  unfold Builtin.«next»
  refine wpAny_bind (m := someArgs "next" 1 2 _) (wpAny_of_eq (a := [Value.ref it]) (by first | rfl | kernel_rfl!) ?_)
  dsimp only
  refine wpAny_bind (wpAny_specialOf (name := Str.ofString "__next__") hit.typeIs slot_listiter_next.lookup ?_)
  refine wpAny_ite_split (fun hab => absurd hab (by decide)) (fun _ => ?_)
  refine wpAny_bind (wpAny_callSpecial?_slot (name := Str.ofString "__next__") hit.typeIs slot_listiter_next
    (wpAny_call_entry slot_listiter_next hit.typeIs entry_listiter_next ?_ (args_listiter_next _)))
  show wpAny _ _ (field (.ref it) 0 >>= _) _ _ _
  refine wpAny_bind (wpAny_field ho hd (x := .ref l) rfl ?_)
  show wpAny _ _ (if (Value.ref l == Value.none) = true then _ else _) _ _ _
  rw [if_neg (show ¬ ((Value.ref l == Value.none) = true) from Bool.false_ne_true)]
  show wpAny _ _ (field (.ref it) 1 >>= _) _ _ _
  refine wpAny_bind (wpAny_field ho hd (x := .int j 0) rfl ?_)
  show wpAny _ _ (seqItems? (.ref l) >>= _) _ _ _
  obtain ⟨ol, hol, _, nl, hdl⟩ := s.isList hm
  refine wpAny_bind (wpAny_seqItems hol hdl ?_)
  have hx : xs.toArray[j]? = some v := by rw [List.getElem?_toArray]; exact hv
  simp only [Int.toNat_natCast, hx]
  refine wpAny_bind (wpAny_setField ho hd (by simp) (wpAny_pure ⟨v, rfl, wpAny_pure ⟨v, rfl, ?_⟩⟩))
  refine .mk (s.putB p (Heap.SameBut.update ..) ?_) q
  exact ⟨_, Heap.get?_update_self _ ho (Obj.isFreed_of_fields (Obj.data_mapFields hd _)), (Obj.cls_mapFields ..).trans hc, by
    rw [Obj.data_mapFields hd]; simp [rawInt]⟩
theorem and64 {f : Nat} (h : f < 256) : Builtin.bitAnd (f : Int) 64 = ((f / 64 % 2 * 64 : Nat) : Int) := by
  have e : ∀ f < 256, f &&& 64 = f / 64 % 2 * 64 := by decide +kernel
  rw [← e f h]; rfl
theorem or_add {m f : Nat} (h : f < 64) : Builtin.bitOr ((m * 64 : Nat) : Int) (f : Int) = ((m * 64 + f : Nat) : Int) := by
  have e0 : m * 64 &&& f = 0 := by
    apply Nat.eq_of_testBit_eq
    intro i
    rw [Nat.testBit_and, show (64 : Nat) = 2 ^ 6 from rfl, Nat.testBit_mul_two_pow, Nat.zero_testBit]
    by_cases hi : 6 ≤ i
    · rw [Nat.testBit_lt_two_pow (Nat.lt_of_lt_of_le h (Nat.pow_le_pow_right (by decide) hi : 2 ^ 6 ≤ 2 ^ i))]; simp
    · simp [hi]
  have key : ∀ a b : Nat, Builtin.bitAnd (a : Int) (b : Int) = ((a &&& b : Nat) : Int) := fun _ _ => rfl
  have e := key (m * 64) f
  rw [bitOr_and, e, e0]; walk_at "om"
theorem more_get : ∀ (n j : Nat), j < (more n).length → (more n)[j]? = some (64 + n / 64 ^ (j + 1) % 64) := by
  intro n
  induction n using Nat.strongRecOn with
  | ind n ih =>
    intro j hj
    by_cases hn : n ≤ 63
    · rw [more_small hn] at hj; simp at hj
    · rw [more_big (by walk_at "om")] at hj ⊢
      cases j with
      | zero => simp
      | succ j =>
        rw [List.getElem?_cons_succ, ih (n / 64) (by walk_at "om") j (by simpa using hj), Nat.div_div_eq_div_mul, ← Nat.pow_succ']
theorem more_top : ∀ n, n / 64 ^ (more n).length < 64 := by
  intro n
  induction n using Nat.strongRecOn with
  | ind n ih =>
    by_cases hn : n ≤ 63
    · rw [more_small hn]; simp; walk_at "om"
    · rw [more_big (by walk_at "om"), List.length_cons, Nat.pow_succ', ← Nat.div_div_eq_div_mul]
      exact ih (n / 64) (by walk_at "om")
theorem oct_length (n : Nat) : (oct n).length = (more n).length + 1 := by simp [oct, figs]
/-- the i-th octet -/
theorem oct_get {n i : Nat} (h : i < (oct n).length) : (oct n)[i]? = some (enc (n / 64 ^ ((more n).length - i) % 64 + if i = (more n).length then 0 else 64)) := by
  have hl := oct_length n
  unfold oct
  rw [List.getElem?_map, List.getElem?_reverse (by simp [figs]; walk_at "om")]
  have e : (figs n).length - 1 - i = (more n).length - i := by simp [figs]
  rw [e]
  unfold figs
  cases q : (more n).length - i with
  | zero =>
    have : i = (more n).length := by walk_at "om"
    simp [this]
  | succ d =>
    have : i ≠ (more n).length := by walk_at "om"
    rw [List.getElem?_cons_succ, more_get n d (by walk_at "om")]
    simp [this, Nat.add_comm]
theorem enc_lo {f : Nat} (h : f < 128) : enc f < 256 ∧ enc f % 64 = f % 64 ∧ enc f / 64 % 2 = f / 64 := by
  unfold enc; walk_at "om"
theorem val_step {n d e : Nat} (h : e % 64 = n / 64 ^ d % 64) : Builtin.bitOr (((n / 64 ^ (d + 1) : Nat) : Int) * 2 ^ (6 : Int).toNat) (Builtin.bitAnd (e : Int) 63) = ((n / 64 ^ d : Nat) : Int) := by
  have h1 : Builtin.bitAnd (e : Int) 63 = ((n / 64 ^ d % 64 : Nat) : Int) := by rw [bitAnd_m6]; walk_at "om"
  have h2 : ((n / 64 ^ (d + 1) : Nat) : Int) * 2 ^ (6 : Int).toNat = ((n / 64 ^ (d + 1) * 64 : Nat) : Int) := rfl
  rw [h1, h2, or_add (by walk_at "om"), Nat.pow_succ, ← Nat.div_div_eq_div_mul]
  walk_at "om"
/-- octets that say n: m + 1 of them -/
noncomputable def IsOct (os : List Nat) (m n : Nat) : Prop := os.length = m + 1 ∧ n / 64 ^ m < 64 ∧ ∀ i, i ≤ m → ∃ o, os[i]? = some o ∧ o < 256 ∧ o % 64 = n / 64 ^ (m - i) % 64 ∧ o / 64 % 2 = if i = m then 0 else 1
theorem isOct_oct (n : Nat) : IsOct (oct n) (more n).length n := by
  refine ⟨oct_length n, more_top n, fun i hi => ⟨_, oct_get (by rw [oct_length]; walk_at "om"), ?_⟩⟩
  have h' : n / 64 ^ ((more n).length - i) % 64 + (if i = (more n).length then 0 else 64) < 128 := by split <;> walk_at "om"
  refine ⟨enc_lt h', ?_, ?_⟩
  · rw [(enc_lo h').2.1]; split <;> walk_at "om"
  · rw [(enc_lo h').2.2]; split <;> walk_at "om"
theorem isOct_at (n : Nat) : IsOct (64 :: oct n) ((more n).length + 1) n := by
  obtain ⟨h1, h2, h3⟩ := isOct_oct n
  refine ⟨by rw [List.length_cons, h1], ?_, fun i hi => ?_⟩
  · rw [Nat.pow_succ, ← Nat.div_div_eq_div_mul]; exact Nat.lt_of_le_of_lt (Nat.div_le_self _ _) h2
  · cases i with
    | zero =>
      refine ⟨64, rfl, by decide, ?_, by simp⟩
      rw [Nat.sub_zero, Nat.pow_succ, ← Nat.div_div_eq_div_mul]; have := h2; generalize n / 64 ^ (more n).length = z at *; walk_at "om"
    | succ i =>
      obtain ⟨o, a, b, c, d⟩ := h3 i (by walk_at "om")
      exact ⟨o, by simpa using a, b, by rw [c, show (more n).length + 1 - (i + 1) = (more n).length - i by walk_at "om"], by rw [d]; simp⟩
/-- _parse_varint -/
theorem c_varint (hS : Stat X) (hk : k < 50) {l it : Addr} {xs : List Value} {ns os : List Nat} {j n m : Nat} (hx : Nats xs ns) (hos : IsOct os m n) (ho : ∀ i, i ≤ m → ns[j + i]? = os[i]?) (hn : n < 64 ^ 4) (hl : (l, LsL xs) ∈ cs)
    {Q : Value → List Cl → Prop} (q : ∀ t, Q (.int (n : Int) t) ((it, LiI l (j + (m + 1))) :: cs)) : W X k (call (.ref 48) [.ref it]) ((it, LiI l j) :: cs) Q := by
  obtain ⟨hlen, htop, hoct⟩ := hos
  have hget : ∀ i, i ≤ m → ∃ (o : Nat) (t : Tok), xs[j + i]? = some (.int (o : Int) t) ∧ o < 256 ∧ o % 64 = n / 64 ^ (m - i) % 64 ∧ o / 64 % 2 = if i = m then 0 else 1 := fun i hi => by
    obtain ⟨o, a, b⟩ := hoct i hi
    obtain ⟨t, ht⟩ := hx.at (j := j + i) (n := o) (by rw [ho i hi, a])
    exact ⟨o, t, ht, b⟩
  with_reducible refine w_def (binds := [("iterator", .ref it)]) hS hS.f48 (binds_of fun _ _ _ _ => by kernel_rfl) (by kernel_rfl) (by kernel_rfl) (by walk_at "om") fun L => ?_
  repeat walk_at "w"
  obtain ⟨o0, t0, h0, h01, h02, h03⟩ := hget 0 (by walk_at "om")
  refine w_nextL (.tail _ (.tail _ hl)) h0 (.tail .head) ?_
  repeat walk_at "w"
  refine w_while (J := fun d c => ∃ i bv tb vv tv, ∃ o : Nat, i ≤ m ∧ d = m - i ∧ c = (L, NsL [("iterator", .ref it), ("b", .int bv tb), ("val", .int vv tv)]) :: (it, LiI l (j + i + 1)) :: cs ∧
      bv = (o : Int) ∧ o < 256 ∧ o / 64 % 2 = (if i = m then 0 else 1) ∧ vv = ((n / 64 ^ (m - i) : Nat) : Int)) (n := m) (fun d c hJ => ?_) ?_
  · obtain ⟨i, bv, tb, vv, tv, o, hi, rfl, rfl, hbv, b1, b3, hvv⟩ := hJ
    repeat walk_at "w"
    subst hbv
    rw [and64 b1, b3]
    refine ifB (fun h => ?_) fun h => ?_
    · have hne : i ≠ m := fun e => by
        simp [e] at h
      obtain ⟨o1, t1, g1, g2, g3, g4⟩ := hget (i + 1) (by walk_at "om")
      repeat walk_at "w"
      refine w_ilsh (by decide +kernel) (by decide +kernel) (by have := Nat.div_le_self n (64 ^ (m - i)); rw [hvv, Int.natAbs_natCast]; walk_at "om") fun _ => ?_
      repeat walk_at "w"
      refine w_nextL (.tail _ (.tail _ hl)) g1 (.tail .head) ?_
      repeat walk_at "w"
      refine ⟨m - (i + 1), by walk_at "om", i + 1, _, _, _, _, o1, by walk_at "om", rfl, rfl, rfl, g2, g4, ?_⟩
      rw [hvv, show m - i = m - (i + 1) + 1 by walk_at "om"]
      exact val_step g3
    · have he : i = m := by
        simp only [bne_eq_false_iff_eq] at h
        split at h <;> walk_at "om"
      repeat walk_at "w"
      rw [hvv, he, Nat.sub_self, Nat.pow_zero, Nat.div_one]
      exact w_back ⟨_, Lay.ent (.skip .refl), q tv⟩
  · refine ⟨0, _, _, _, _, o0, by walk_at "om", by walk_at "om", rfl, rfl, h01, h03, ?_⟩
    rw [bitAnd_m6]
    have e2 : ∀ (x : Nat), ((x : Nat) : Int) % 64 = ((x % 64 : Nat) : Int) := fun _ => rfl
    rw [e2, h02, Nat.sub_zero, Nat.mod_eq_of_lt htop]
/-- _law_number -/
theorem c_number (hS : Stat X) (hk : k < 49) {os : List Nat} {n m : Nat} {t : Tok} (hos : IsOct os m n) (hm : m ≤ 4) (hn : n < 64 ^ 4) {Q : Value → List Cl → Prop} (q : ∀ t, Q (.int (n : Int) t) cs) : W X k (call (.ref 100) [.str ⟨os.toArray⟩ t]) cs Q := by
  have hlen := hos.1
  with_reducible refine w_def (binds := [("word", .str ⟨os.toArray⟩ t)]) hS hS.f100 (binds_of fun _ _ _ _ => by kernel_rfl) (by kernel_rfl) (by kernel_rfl) (by walk_at "om") fun L => ?_
  repeat walk_at "w"
  walk_at "comp0"
  repeat walk_at "w"
  refine compI0 itrS (fun j ys => Nats ys (os.take j)) (by rw [List.size_toArray]; exact (show os.length ≤ 16777216 by walk_at "om")) (fun j ys C D => trivial) Nats.nil (fun C D j hj v hv ys hl hi => ?_) fun D ys hl hi => ?_
  · obtain ⟨c, t', hc, rfl⟩ := hv
    rw [List.getElem?_toArray] at hc
    repeat walk_at "w"
    refine w_ord rfl fun t2 => ⟨ent_turn, ?_⟩
    rw [take_snoc hc]
    exact hi.snoc rfl
  · rw [List.size_toArray, List.take_of_length_le (Nat.le_refl _)] at hi
    repeat walk_at "w"
    refine w_iterCallL (.head _) fun it => ?_
    repeat walk_at "w"
    refine ⟨Kp.of_fn hS.f48, ?_⟩
    refine c_varint hS (by walk_at "om") hi hos (j := 0) (fun i hi => by rw [Nat.zero_add]) hn (.head _) fun t' => ?_
    exact w_back ⟨cs, Lay.ent (.skip (.skip (.skip .refl))), q t'⟩
end
end
section
noncomputable def needs (b : Bool) : List Nat := if b then [92, 10, 9, 13, 32] else [92, 34]
noncomputable def need (b : Bool) (c : Nat) : Bool := decide (c ∈ needs b) || c % 3 == 0
noncomputable def sgn (b : Bool) (c : Nat) : List Nat := if need b c then [92, c] else [c]
noncomputable def sgns (b : Bool) (os : List Nat) : List Nat := os.flatMap (sgn b)
noncomputable def spell (b : Bool) (os : List Nat) : List Nat :=
  if b then (if (sgns b os).head? = some 34 then [92] else []) ++ sgns b os ++ [[9, 13, 10, 32].getD (os.getLastD 0 % 4) 0] else [34] ++ sgns b os ++ [34]
theorem sgns_le (b : Bool) : ∀ os, (sgns b os).length ≤ 2 * os.length
  | [] => by simp [sgns]
  | c :: r => by
    have ih := sgns_le b r
    unfold sgns at *
    rw [List.flatMap_cons, List.length_append, List.length_cons]
    have : (sgn b c).length ≤ 2 := by unfold sgn; split <;> simp
    walk_at "om"
section
variable {X : XX} {k : Nat} {cs cs' : List Cl} {env : Env}
/-- _law_spelled -/
theorem c_spelled (hS : Stat X) (hk : k < 49) {os : List Nat} {b : Bool} {t : Tok} (hne : os ≠ []) (hlen : os.length ≤ 8) {Q : Value → List Cl → Prop} (q : ∀ t, Q (.str (strOf (spell b os)) t) cs) : W X k (call (.ref 105) [.str (strOf os) t, .bool b]) cs Q := by
  with_reducible refine w_defC (binds := [("word", .str (strOf os) t), ("bare", .bool b)]) hS hS.f105 (binds_of fun _ _ _ _ => by kernel_rfl) (by kernel_rfl) (by kernel_rfl) (of_decide_eq_true (by kernel_rfl)) (by walk_at "om") fun L => ?_
  have hc : cellsCl (cellsFrom (L + 1) (scOf (stmtAt 11)).names []) = [(L + 1, CellN)] := by kernel_rfl
  rw [hc]
  walk_at "w"
  walk_at "w"
  refine W.mono (Q := fun v c => (∃ t, v = .str (strOf (needs b)) t) ∧ c = (L, NsL [("word", .str (strOf os) t), ("bare", .bool b)]) :: (L + 1, CellN) :: cs) ?_ fun v c h => ?_
  · repeat walk_at "w"
    refine ifB (fun hb => ?_) (fun hb => ?_)
    · subst hb; exact w_str fun t => ⟨⟨t, rfl⟩, rfl⟩
    · subst hb; exact w_str fun t => ⟨⟨t, rfl⟩, rfl⟩
  obtain ⟨⟨t1, rfl⟩, rfl⟩ := h
  repeat walk_at "w"
  with_reducible refine' w_comp [("needed", L + 1)] ?_ (by kernel_rfl) (fun _ => by kernel_rfl) (by kernel_rfl) (by kernel_rfl)
  repeat walk_at "w"
  refine compI0 itrS (fun j ys => Strs ys ((os.map fun c => strOf (sgn b c)).take j)) (by show (strOf os).cps.size ≤ 16777216; unfold strOf; rw [List.size_toArray]; walk_at "om") (fun j ys C D => trivial) Strs.nil (fun C D j hj v hv ys hl hi => ?_) fun D ys hl hi => ?_
  · obtain ⟨c, t', hc', rfl⟩ := hv
    rw [show (strOf os).cps = os.toArray from rfl, List.getElem?_toArray] at hc'
    have hgo : ∀ t, Strs (ys ++ [.str (strOf (sgn b c)) t]) ((os.map fun c => strOf (sgn b c)).take (j + 1)) := fun t => by
      rw [take_snoc (by rw [List.getElem?_map, hc']; rfl)]
      exact hi.snoc
    repeat walk_at "w"
    refine ifB (fun h1 => ?_) fun h1 => ?_
    · have hs : sgn b c = [92, c] := by unfold sgn need; rw [if_pos]; rw [Bool.or_eq_true]; exact .inl h1
      rw [if_pos rfl]
      repeat walk_at "w"
      refine w_addS (of_decide_eq_true (by kernel_rfl)) fun t2 => ⟨ent_turn, ?_⟩
      have := hgo t2
      rw [hs] at this
      exact this
    · repeat walk_at "w"
      refine w_ord rfl fun t2 => ?_
      repeat walk_at "w"
      have e : (((#[c] : Array Nat).getD 0 0 : Nat) : Int).fmod 3 = ((c % 3 : Nat) : Int) := fmodN c 3
      refine ifB (fun h2 => ?_) fun h2 => ?_
      · have hs : sgn b c = [92, c] := by
          unfold sgn need; rw [if_pos]; rw [Bool.or_eq_true]; right
          have h2' : (((#[c] : Array Nat).getD 0 0 : Nat) : Int).fmod 3 == 0 := h2
          rw [e] at h2'
          simp at h2'; simp; walk_at "om"
        rw [if_pos rfl]
        repeat walk_at "w"
        refine w_addS (of_decide_eq_true (by kernel_rfl)) fun t2 => ⟨ent_turn, ?_⟩
        have := hgo t2
        rw [hs] at this
        exact this
      · have hs : sgn b c = [c] := by
          unfold sgn need
          have h1' : decide (c ∈ needs b) = false := h1
          have h2' : ((((#[c] : Array Nat).getD 0 0 : Nat) : Int).fmod 3 == 0) = false := h2
          rw [e] at h2'
          have : (c % 3 == 0) = false := by simp at h2' ⊢; walk_at "om"
          rw [h1', this]; rfl
        repeat walk_at "w"
        rw [if_neg (by simp)]
        repeat walk_at "w"
        have := hgo t'
        rw [hs] at this
        exact ⟨ent_turn, this⟩
  · have hfull : List.take (strOf os).cps.size (os.map fun c => strOf (sgn b c)) = os.map fun c => strOf (sgn b c) := by
      refine List.take_of_length_le ?_
      rw [List.length_map]; show os.length ≤ os.toArray.size
      rw [List.size_toArray]; exact Nat.le_refl _
    rw [hfull] at hi
    repeat walk_at "w"
    have hcat : catS (os.map fun c => strOf (sgn b c)) = strOf (sgns b os) := by
      have := catS_strOf (os.map (sgn b))
      rw [List.map_map] at this
      rw [sgns, List.flatMap_def]; exact this
    have hsl : (sgns b os).length ≤ 16 := by have := sgns_le b os; walk_at "om"
    refine w_join0 (.head _) hi (by rw [hcat, strOf_len]; exact (show (sgns b os).length ≤ 16777216 by walk_at "om")) fun t => ?_
    rw [hcat]
    repeat walk_at "w"
    refine ifB (fun hb => ?_) (fun hb => ?_)
    · repeat walk_at "w"
      refine w_slice (w_part0 (w_part1 ?_))
      repeat walk_at "w"
      refine w_part0 fun sl => ?_
      refine w_sliceT none (some (1, _)) (.head _) (by walk_at "om") (r := (sgns b os).take 1) ?_ (fun t2 => ?_) (by kernel_rfl)
      · simp only [Option.map_none, Option.map_some, clipL, List.drop_zero]
        rw [List.take_eq_take_iff]; walk_at "om"
      repeat walk_at "w"
      rw [show (strOf (List.take 1 (sgns b os)) == Str.ofString "\"") = decide ((sgns b os).head? = some 34) from take_one_eq _ _]
      have hlast : os[os.length - 1]? = some (os.getLastD 0) := by
        cases os with
        | nil => exact absurd rfl hne
        | cons a r => rw [List.getLastD_cons, ← List.getLast_eq_getLastD, List.getLast_eq_getElem, ← List.getElem?_eq_getElem]; simp
      refine ifB (fun h1 => ?_) (fun h1 => ?_)
      · have hsp : spell b os = [92] ++ sgns b os ++ [[9, 13, 10, 32].getD (os.getLastD 0 % 4) 0] := by
          unfold spell; rw [hb]; rw [hb] at h1; simp only [decide_eq_true_eq, decide_eq_false_iff_not] at h1; simp [h1]
        repeat walk_at "w"
        refine w_addT (a := [92]) (by show _ ≤ _; simp only [List.length_cons, List.length_nil]; walk_at "om") fun u1 => ?_
        repeat walk_at "w"
        refine w_itemT (c := os.getLastD 0) (by walk_at "om") (by rw [if_pos (by decide)]; rw [show (-1 + (os.length : Int)).toNat = os.length - 1 by walk_at "om"]; exact hlast) (by rw [if_pos (by decide)]; have := List.length_pos_iff.mpr hne; walk_at "om") (fun u2 => ?_) (by kernel_rfl)
        repeat walk_at "w"
        refine w_ord rfl fun u3 => ?_
        repeat walk_at "w"
        have e4 : (((strOf [os.getLastD 0]).cps.getD 0 0 : Nat) : Int).fmod 4 = ((os.getLastD 0 % 4 : Nat) : Int) := fmodN _ 4
        rw [e4]
        have h4 : os.getLastD 0 % 4 < 4 := Nat.mod_lt _ (by decide)
        refine w_itemT (l := [9, 13, 10, 32]) (c := [9, 13, 10, 32].getD (os.getLastD 0 % 4) 0) (by walk_at "om") (by
            rw [if_neg (by walk_at "om"), Int.toNat_natCast]
            generalize os.getLastD 0 % 4 = r at h4
            match r, h4 with
            | 0, _ => rfl
            | 1, _ => rfl
            | 2, _ => rfl
            | 3, _ => rfl) (by rw [if_neg (by walk_at "om")]; walk_at "om") (fun u5 => ?_) (by kernel_rfl)
        refine w_addT (by simp only [List.length_append, List.length_cons, List.length_nil]; walk_at "om") fun u6 => ?_
        refine w_back ⟨cs, Lay.ent (by walk_at "lay"), ?_⟩
        have := q u6
        rw [hsp] at this
        exact this
      · have hsp : spell b os = [] ++ sgns b os ++ [[9, 13, 10, 32].getD (os.getLastD 0 % 4) 0] := by
          unfold spell; rw [hb]; rw [hb] at h1; simp only [decide_eq_true_eq, decide_eq_false_iff_not] at h1; simp [h1]
        repeat walk_at "w"
        refine w_addT (a := []) (by show _ ≤ _; simp only [List.length_cons, List.length_nil]; walk_at "om") fun u1 => ?_
        repeat walk_at "w"
        refine w_itemT (c := os.getLastD 0) (by walk_at "om") (by rw [if_pos (by decide)]; rw [show (-1 + (os.length : Int)).toNat = os.length - 1 by walk_at "om"]; exact hlast) (by rw [if_pos (by decide)]; have := List.length_pos_iff.mpr hne; walk_at "om") (fun u2 => ?_) (by kernel_rfl)
        repeat walk_at "w"
        refine w_ord rfl fun u3 => ?_
        repeat walk_at "w"
        have e4 : (((strOf [os.getLastD 0]).cps.getD 0 0 : Nat) : Int).fmod 4 = ((os.getLastD 0 % 4 : Nat) : Int) := fmodN _ 4
        rw [e4]
        have h4 : os.getLastD 0 % 4 < 4 := Nat.mod_lt _ (by decide)
        refine w_itemT (l := [9, 13, 10, 32]) (c := [9, 13, 10, 32].getD (os.getLastD 0 % 4) 0) (by walk_at "om") (by
            rw [if_neg (by walk_at "om"), Int.toNat_natCast]
            generalize os.getLastD 0 % 4 = r at h4
            match r, h4 with
            | 0, _ => rfl
            | 1, _ => rfl
            | 2, _ => rfl
            | 3, _ => rfl) (by rw [if_neg (by walk_at "om")]; walk_at "om") (fun u5 => ?_) (by kernel_rfl)
        refine w_addT (by simp only [List.length_append, List.length_cons, List.length_nil]; walk_at "om") fun u6 => ?_
        refine w_back ⟨cs, Lay.ent (by walk_at "lay"), ?_⟩
        have := q u6
        rw [hsp] at this
        exact this
    · repeat walk_at "w"
      refine w_addT (a := [34]) (by rw [List.length_singleton]; walk_at "om") fun u1 => ?_
      repeat walk_at "w"
      refine w_addT (b := [34]) (by rw [List.length_append, List.length_singleton]; walk_at "om") fun u2 => ?_
      repeat walk_at "w"
      refine w_back ⟨cs, Lay.ent (by walk_at "lay"), ?_⟩
      have := q u2
      unfold spell at this
      rw [hb] at this
      exact hb ▸ this
end
end
section
noncomputable def KwNone (X : XX) (d : Addr) : Prop := ∃ cls di h t n sl, X.g.get? d = some ⟨cls, di, .dict #[⟨h, .str "key" t, .none⟩] n, sl⟩
/-- defaults of the defs -/
structure StatD (X : XX) : Prop extends Stat X where
  t15 : ∃ o n t, X.g.get? 15 = some o ∧ o.data = .seq #[.int 0 t, .none] n
  t24 : ∃ o n t, X.g.get? 24 = some o ∧ o.data = .seq #[.int 0 t, .none] n
  t33 : ∃ o n t, X.g.get? 33 = some o ∧ o.data = .seq #[.int 0 t, .none] n
  k16 : KwNone X 16
  k25 : KwNone X 25
  k34 : KwNone X 34
section
variable {X : XX} {k : Nat} {cs cs' : List Cl} {env : Env}
theorem binds_d {s : Stmt} {qual : Str} {c kV : Value} {T : Addr} {args : Args} {binds : List (Str × Value)} {items : Array Value} (hT : ∃ o n, X.g.get? T = some o ∧ o.data = .seq items n)
    (h : ∀ doc pm an ct, ∃ k, bindArgs (fdOf s qual (.ref T) kV doc pm an c ct) args = seqItems? (.ref T) >>= k ∧ k (some items) = pure binds) :
    ∀ doc pm an ct h tk, St X.g cs h → BindsTo (X.S h tk) (fdOf s qual (.ref T) kV doc pm an c ct) args binds := fun doc pm an ct h' tk st => by
  obtain ⟨o, n, ho, hs⟩ := hT
  obtain ⟨k, h1, h2⟩ := h doc pm an ct
  exact BindsTo.of_defaults rfl (st.keep _ _ ho) hs h1 h2
theorem binds_k {s : Stmt} {qual : Str} {c : Value} {T d : Addr} {args : Args} {binds : List (Str × Value)} {items : Array Value} (hT : ∃ o n, X.g.get? T = some o ∧ o.data = .seq items n) (hK : KwNone X d)
    (h : ∀ doc pm an ct, ∃ k part K, bindArgs (fdOf s qual (.ref T) (.ref d) doc pm an c ct) args = seqItems? (.ref T) >>= k ∧ k (some items) = loadPart d part >>= K ∧ ∀ cls di h t n sl, K ⟨cls, di, .dict #[⟨h, .str "key" t, .none⟩] n, sl⟩ = pure binds) :
    ∀ doc pm an ct h tk, St X.g cs h → BindsTo (X.S h tk) (fdOf s qual (.ref T) (.ref d) doc pm an c ct) args binds := fun doc pm an ct h' tk st => by
  obtain ⟨o, n, ho, hs⟩ := hT
  obtain ⟨cls, di, hh, t, n', sl, hK⟩ := hK
  obtain ⟨k, part, K, h1, h2, h3⟩ := h doc pm an ct
  intro M A E Q hq
  rw [h1]
  refine wpAny_bind (wpAny_seqItems (st.keep _ _ ho) hs ?_)
  rw [h2]
  refine wpAny_bind (wpAny_loadPart (st.keep _ _ hK) ?_)
  rw [h3]
  exact wpAny_pure hq
/-- a key function -/
structure KeyFn (X : XX) (k : Nat) (lam : Addr) (G : List Cl → Prop) (f : Value → Int → Prop) : Prop where
  kp : ∀ c, G c → Kp X (.ref lam) c
  run : ∀ c v y, G c → f v y → ∀ Q : Value → List Cl → Prop, (∀ t, Q (.int y t) c) → W X k (call (.ref lam) [v]) c Q
theorem NsL.sub {l l' : List (Str × Value)} (h : ∀ p ∈ l', p ∈ l) : ∀ o, NsL l o → NsL l' o := fun o ⟨es, ep, a, b, c⟩ => ⟨es, ep, a, b, fun p hp => c p (h p hp)⟩
theorem ent_ns {L : Addr} {l l' : List (Str × Value)} {r : List Cl} (h : ∀ p ∈ l', p ∈ l) : Ent ((L, NsL l) :: r) ((L, NsL l') :: r) :=
  Ent.of (fun h => h) fun c hc => by
    rcases List.mem_cons.mp hc with rfl | hc
    · exact ⟨_, .head _, rfl, NsL.sub h⟩
    · exact ⟨c, .tail _ hc, rfl, fun _ h => h⟩
noncomputable def bisL (ys : Nat → Int) (x : Int) (lo hi : Nat) : Nat := if h : lo < hi then (if ys ((lo + hi) / 2) < x then bisL ys x ((lo + hi) / 2 + 1) hi else bisL ys x lo ((lo + hi) / 2)) else lo
termination_by hi - lo
decreasing_by all_goals walk_at "om"
noncomputable def bisR (ys : Nat → Int) (x : Int) (lo hi : Nat) : Nat := if h : lo < hi then (if x < ys ((lo + hi) / 2) then bisR ys x lo ((lo + hi) / 2) else bisR ys x ((lo + hi) / 2 + 1) hi) else lo
termination_by hi - lo
decreasing_by all_goals walk_at "om"
/-- bisect_left, with a key -/
theorem c_bisL (hS : StatD X) (hk : k < 45) {a lam : Addr} {xs : List Value} {ys : Nat → Int} {x : Int} {tx tl th : Tok} {lo hi : Nat} {G : List Cl → Prop} {f : Value → Int → Prop} (F : KeyFn X (k + 1) lam G f) (hG : ∀ d, G (d :: cs)) (ha : (a, LsL xs) ∈ cs)
    (hf : ∀ i v, xs[i]? = some v → f v (ys i)) (hh : hi ≤ xs.length) (hsz : xs.length ≤ 1000) {Q : Value → List Cl → Prop} (q : ∀ t, Q (.int (bisL ys x lo hi : Nat) t) cs) :
    W X k (call (.ref 41) [.ref a, .int x tx, .int (lo : Int) tl, .int (hi : Int) th] [("key", .ref lam)]) cs Q := by
  obtain ⟨o33, n33, t33, g33, d33⟩ := hS.t33
  have hS' := hS.toStat
  with_reducible refine w_def (binds := [("a", .ref a), ("x", .int x tx), ("lo", .int lo tl), ("hi", .int hi th), ("key", .ref lam)]) hS' hS'.f41 (binds_d ⟨o33, n33, g33, d33⟩ fun _ _ _ _ => ⟨_, rfl, rfl⟩) (by kernel_rfl) (by kernel_rfl) (by walk_at "om") fun L => ?_
  repeat walk_at "w"
  rw [if_neg (by simp)]
  repeat walk_at "w"
  rw [if_neg (by simp)]
  repeat walk_at "w"
  rw [if_neg (by simp)]
  repeat walk_at "w"
  refine w_while (J := fun m c => ∃ (l h : Nat) (tl th : Tok), m = h - l ∧ h ≤ xs.length ∧ bisL ys x l h = bisL ys x lo hi ∧ Ent c ((L, NsL [("a", .ref a), ("x", .int x tx), ("lo", .int (l : Int) tl), ("hi", .int (h : Int) th), ("key", .ref lam)]) :: cs)) (n := hi - lo) (fun m c hJ => ?_) ⟨lo, hi, tl, th, rfl, hh, rfl, .rfl⟩
  obtain ⟨l, h, tl, th, rfl, hhl, hb, he⟩ := hJ
  refine W.weak he ?_
  repeat walk_at "w"
  refine ifB (fun hlt => ?_) fun hlt => ?_
  · have hlt : l < h := by simp only [decide_eq_true_eq] at hlt; walk_at "om"
    repeat walk_at "w"
    have e2 : ((l : Int) + (h : Int)).fdiv 2 = (((l + h) / 2 : Nat) : Int) := fdivN (l + h) 2
    have hx := List.getElem?_eq_getElem (l := xs) (i := (l + h) / 2) (by walk_at "om")
    have hy := hf _ _ hx
    refine w_itemL (List.mem_cons_of_mem _ ha) e2 hx (show xs.length ≤ 16777216 by walk_at "om") ?_ (by kernel_rfl)
    repeat walk_at "w"
    refine ⟨F.kp _ (hG _), ?_⟩
    refine F.run _ _ _ (hG _) hy _ fun t => ?_
    repeat walk_at "w"
    rw [bisL, dif_pos hlt] at hb
    refine ifB (fun hc => ?_) fun hc => ?_
    · rw [if_pos (by simpa using hc)] at hb
      repeat walk_at "w"
      exact ⟨_, by walk_at "om", (l + h) / 2 + 1, h, _, _, rfl, hhl, hb, by rw [e2]; exact ent_ns fun p hp => List.mem_append_left [_] hp⟩
    · rw [if_neg (by simpa using hc)] at hb
      repeat walk_at "w"
      exact ⟨_, by walk_at "om", l, (l + h) / 2, _, _, rfl, by walk_at "om", hb, by rw [e2]; exact ent_ns fun p hp => List.mem_append_left [_] hp⟩
  · have hlt : ¬ l < h := by simp only [decide_eq_false_iff_not] at hlt; walk_at "om"
    rw [bisL, dif_neg hlt] at hb
    repeat walk_at "w"
    refine w_back ⟨cs, Lay.ent (by walk_at "lay"), ?_⟩
    rw [hb]
    exact q _
/-- bisect_right, with a key -/
theorem c_bisR (hS : StatD X) (hk : k < 45) {a lam : Addr} {xs : List Value} {ys : Nat → Int} {x : Int} {tx tl th : Tok} {lo hi : Nat} {G : List Cl → Prop} {f : Value → Int → Prop} (F : KeyFn X (k + 1) lam G f) (hG : ∀ d, G (d :: cs)) (ha : (a, LsL xs) ∈ cs)
    (hf : ∀ i v, xs[i]? = some v → f v (ys i)) (hh : hi ≤ xs.length) (hsz : xs.length ≤ 1000) {Q : Value → List Cl → Prop} (q : ∀ t, Q (.int (bisR ys x lo hi : Nat) t) cs) :
    W X k (call (.ref 32) [.ref a, .int x tx, .int (lo : Int) tl, .int (hi : Int) th] [("key", .ref lam)]) cs Q := by
  obtain ⟨o24, n24, t24, g24, d24⟩ := hS.t24
  have hS' := hS.toStat
  with_reducible refine w_def (binds := [("a", .ref a), ("x", .int x tx), ("lo", .int lo tl), ("hi", .int hi th), ("key", .ref lam)]) hS' hS'.f32 (binds_d ⟨o24, n24, g24, d24⟩ fun _ _ _ _ => ⟨_, rfl, rfl⟩) (by kernel_rfl) (by kernel_rfl) (by walk_at "om") fun L => ?_
  repeat walk_at "w"
  rw [if_neg (by simp)]
  repeat walk_at "w"
  rw [if_neg (by simp)]
  repeat walk_at "w"
  rw [if_neg (by simp)]
  repeat walk_at "w"
  refine w_while (J := fun m c => ∃ (l h : Nat) (tl th : Tok), m = h - l ∧ h ≤ xs.length ∧ bisR ys x l h = bisR ys x lo hi ∧ Ent c ((L, NsL [("a", .ref a), ("x", .int x tx), ("lo", .int (l : Int) tl), ("hi", .int (h : Int) th), ("key", .ref lam)]) :: cs)) (n := hi - lo) (fun m c hJ => ?_) ⟨lo, hi, tl, th, rfl, hh, rfl, .rfl⟩
  obtain ⟨l, h, tl, th, rfl, hhl, hb, he⟩ := hJ
  refine W.weak he ?_
  repeat walk_at "w"
  refine ifB (fun hlt => ?_) fun hlt => ?_
  · have hlt : l < h := by simp only [decide_eq_true_eq] at hlt; walk_at "om"
    repeat walk_at "w"
    have e2 : ((l : Int) + (h : Int)).fdiv 2 = (((l + h) / 2 : Nat) : Int) := fdivN (l + h) 2
    have hx := List.getElem?_eq_getElem (l := xs) (i := (l + h) / 2) (by walk_at "om")
    have hy := hf _ _ hx
    refine w_itemL (List.mem_cons_of_mem _ ha) e2 hx (show xs.length ≤ 16777216 by walk_at "om") ?_ (by kernel_rfl)
    repeat walk_at "w"
    refine ⟨F.kp _ (hG _), ?_⟩
    refine F.run _ _ _ (hG _) hy _ fun t => ?_
    repeat walk_at "w"
    rw [bisR, dif_pos hlt] at hb
    refine ifB (fun hc => ?_) fun hc => ?_
    · rw [if_pos (by simpa using hc)] at hb
      repeat walk_at "w"
      exact ⟨_, by walk_at "om", l, (l + h) / 2, _, _, rfl, by walk_at "om", hb, by rw [e2]; exact ent_ns fun p hp => List.mem_append_left [_] hp⟩
    · rw [if_neg (by simpa using hc)] at hb
      repeat walk_at "w"
      exact ⟨_, by walk_at "om", (l + h) / 2 + 1, h, _, _, rfl, hhl, hb, by rw [e2]; exact ent_ns fun p hp => List.mem_append_left [_] hp⟩
  · have hlt : ¬ l < h := by simp only [decide_eq_false_iff_not] at hlt; walk_at "om"
    rw [bisR, dif_neg hlt] at hb
    repeat walk_at "w"
    refine w_back ⟨cs, Lay.ent (by walk_at "lay"), ?_⟩
    rw [hb]
    exact q _
/-- bisect_right, no key, no bounds -/
theorem c_bisR0 (hS : StatD X) (hk : k < 45) {a : Addr} {xs : List Value} {ys : Nat → Int} {x : Int} {xv : Value} {tl : Tok} {G : List Cl → Prop}
    (F : ∀ c i v, G c → xs[i]? = some v → ∀ Q : Value → List Cl → Prop, Q (.bool (decide (x < ys i))) c → W X (k + 1) (compareOp .Lt xv v) c Q) (hG : ∀ d, G (d :: cs)) (ha : (a, LsL xs) ∈ cs)
    (hsz : xs.length ≤ 1000) {Q : Value → List Cl → Prop} (q : ∀ t, Q (.int (bisR ys x 0 xs.length : Nat) t) cs) :
    W X k (call (.ref 32) [.ref a, xv, .int 0 tl, .none]) cs Q := by
  obtain ⟨o24, n24, t24, g24, d24⟩ := hS.t24
  have hS' := hS.toStat
  with_reducible refine w_def (binds := [("a", .ref a), ("x", xv), ("lo", .int 0 tl), ("hi", .none), ("key", .none)]) hS' hS'.f32 (binds_k ⟨o24, n24, g24, d24⟩ hS.k25 fun _ _ _ _ => ⟨_, _, _, rfl, rfl, fun _ _ _ _ _ _ => by kernel_rfl⟩) (by kernel_rfl) (by kernel_rfl) (by walk_at "om") fun L => ?_
  repeat walk_at "w"
  rw [if_neg (by simp)]
  repeat walk_at "w"
  rw [if_pos rfl]
  repeat walk_at "w"
  refine w_len (List.mem_cons_of_mem _ ha) (show xs.length ≤ 16777216 by walk_at "om") fun th => ?_
  repeat walk_at "w"
  rw [if_pos rfl]
  repeat walk_at "w"
  refine w_while (J := fun m c => ∃ (l h : Nat) (tl th : Tok), m = h - l ∧ h ≤ xs.length ∧ bisR ys x l h = bisR ys x 0 xs.length ∧ Ent c ((L, NsL [("a", .ref a), ("x", xv), ("lo", .int (l : Int) tl), ("hi", .int (h : Int) th), ("key", .none)]) :: cs)) (n := xs.length - 0) (fun m c hJ => ?_) ⟨0, xs.length, tl, th, rfl, Nat.le_refl _, rfl, .rfl⟩
  obtain ⟨l, h, tl, th, rfl, hhl, hb, he⟩ := hJ
  refine W.weak he ?_
  repeat walk_at "w"
  refine ifB (fun hlt => ?_) fun hlt => ?_
  · have hlt : l < h := by simp only [decide_eq_true_eq] at hlt; walk_at "om"
    repeat walk_at "w"
    have e2 : ((l : Int) + (h : Int)).fdiv 2 = (((l + h) / 2 : Nat) : Int) := fdivN (l + h) 2
    have hx := List.getElem?_eq_getElem (l := xs) (i := (l + h) / 2) (by walk_at "om")
    refine w_itemL (List.mem_cons_of_mem _ ha) e2 hx (show xs.length ≤ 16777216 by walk_at "om") ?_ (by kernel_rfl)
    refine F _ _ _ (hG _) hx _ ?_
    repeat walk_at "w"
    rw [bisR, dif_pos hlt] at hb
    refine ifB (fun hc => ?_) fun hc => ?_
    · rw [if_pos (by simpa using hc)] at hb
      repeat walk_at "w"
      exact ⟨_, by walk_at "om", l, (l + h) / 2, _, _, rfl, by walk_at "om", hb, by rw [e2]; exact ent_ns fun p hp => List.mem_append_left [_] hp⟩
    · rw [if_neg (by simpa using hc)] at hb
      repeat walk_at "w"
      exact ⟨_, by walk_at "om", (l + h) / 2 + 1, h, _, _, rfl, hhl, hb, by rw [e2]; exact ent_ns fun p hp => List.mem_append_left [_] hp⟩
  · have hlt : ¬ l < h := by simp only [decide_eq_false_iff_not] at hlt; walk_at "om"
    rw [bisR, dif_neg hlt] at hb
    repeat walk_at "w"
    refine w_back ⟨cs, Lay.ent (by walk_at "lay"), ?_⟩
    rw [hb]
    exact q _
end
end
section
open SeqAt AutoSeq1 MeetsSeq MeetsSeq2 MeetsSeq3 SeqRoads2
/-- lists of ints, by the first that differs -/
noncomputable def lexLt : List Int → List Int → Bool
  | [], [] => false
  | [], _ :: _ => true
  | _ :: _, [] => false
  | a :: as, b :: bs => if a = b then lexLt as bs else decide (a < b)
theorem lexLt_nil (xs ys : List Int) (h : xs = [] ∨ ys = []) : lexLt xs ys = decide (xs.length < ys.length) := by
  rcases h with rfl | rfl
  · cases ys <;> simp [lexLt]
  · cases xs <;> simp [lexLt]
theorem lt_loop (l b : Addr) (vs us : List Value) (xs ys : List Int) (n n2 : Nat) (dd dd2 : Option Addr) (sl sl2 : Array (Option Value)) (hv : Ints vs xs) (hu : Ints us ys) (k : Nat) :
    ∀ i : Nat, vs.length - i = k → Meets (Builtin.«list.__eq__.loop» ⟨[.ref l, .ref b, rawInt i, rawInt 0], []⟩)
      (fun A R s => s.heap.get? l = some { cls := .type "list", dict := dd, data := .seq vs.toArray n, slots := sl } ∧ s.heap.get? b = some { cls := .type "list", dict := dd2, data := .seq us.toArray n2, slots := sl2 } ∧
        i ≤ vs.length ∧ i ≤ us.length ∧ R (.ok (.ret (.bool (lexLt (xs.drop i) (ys.drop i))))) s) := by
  have lv := hv.length
  have lu := hu.length
  induction k with
  | zero =>
    intro i hk prog w A R s h
    obtain ⟨hp, g, d, tk, os⟩ := s; obtain ⟨hl, hb, h1, h2, h⟩ := h
    wp_walk using wpAny_loadPart' hl, wpAny_loadPart' hb
    have hi1 : vs.toArray[((i : Nat) : Int).toNat]? = none := by simp; walk_at "om"
    have hd : xs.drop i = [] := by simp; walk_at "om"
    rw [lexLt_nil _ _ (.inl hd)] at h
    rw [hi1]
    wp_walk using wpAny_loadPart' hl, wpAny_loadPart' hb
    show R (.ok (.ret (.bool (decide (vs.toArray.size < us.toArray.size))))) _
    have e : decide (vs.toArray.size < us.toArray.size) = decide ((xs.drop i).length < (ys.drop i).length) := by
      simp only [List.size_toArray, List.length_drop]; congr 1; simp; walk_at "om"
    rw [e]; exact h
  | succ k ih =>
    intro i hk prog w A R s h
    obtain ⟨hp, g, d, tk, os⟩ := s; obtain ⟨hl, hb, h1, h2, h⟩ := h
    wp_walk using wpAny_loadPart' hl, wpAny_loadPart' hb
    have hlt : i < vs.length := by walk_at "om"
    have hx : xs.drop i = xs[i] :: xs.drop (i + 1) := List.drop_eq_getElem_cons (by walk_at "om")
    obtain ⟨t, ht⟩ := hv.at (j := i) (List.getElem?_eq_getElem (by walk_at "om"))
    have hi1 : vs.toArray[((i : Nat) : Int).toNat]? = some (.int xs[i] t) := by rw [Int.toNat_natCast, List.getElem?_toArray]; exact ht
    by_cases hlt2 : i < us.length
    · have hy : ys.drop i = ys[i] :: ys.drop (i + 1) := List.drop_eq_getElem_cons (by walk_at "om")
      obtain ⟨u, hu'⟩ := hu.at (j := i) (List.getElem?_eq_getElem (by walk_at "om"))
      have hi2 : us.toArray[((i : Nat) : Int).toNat]? = some (.int ys[i] u) := by rw [Int.toNat_natCast, List.getElem?_toArray]; exact hu'
      have hc : ((i : Int) + 1) = ((i + 1 : Nat) : Int) := by push_cast; rfl
      rw [hx, hy, lexLt] at h
      rw [hi1, hi2]
      refine wpAny_bind ((EqGives.int xs[i] ys[i] t u).at _ _ prog w _ _ ?_)
      by_cases hb' : xs[i] = ys[i]
      · rw [if_pos hb'] at h
        rw [show (xs[i] == ys[i]) = true by simpa using hb']
        wp_walk
        rw [hc]
        exact ⟨plainId_quiet plain_eq_loop _, codeAny_builtin entry_eq_loop (by
          rw [Around.under_plainId plain_eq_loop _]
          exact ih (i + 1) (by walk_at "om") prog w A R _ ⟨hl, hb, by walk_at "om", by walk_at "om", h⟩)⟩
      · rw [if_neg hb'] at h
        rw [show (xs[i] == ys[i]) = false by simpa using hb']
        wp_walk using wpAny_loadPart' hl, wpAny_loadPart' hb
        rw [hi1, hi2]
        dsimp only
        have hrc : ∀ Q : Value → Shared → Prop, Q (.bool (decide (xs[i] < ys[i]))) ⟨hp, g, d, tk, os⟩ → wpAny (model prog w) A.in1 (richCompare .Lt (.int xs[i] t) (.int ys[i] u)) Q (fun e s' => R (Except.error e) s') ⟨hp, g, d, tk, os⟩ :=
          fun Q hQ => wpAny_lt_int hQ
        exact wpAny_bind (hrc _ (wpAny_pure h))
    · have hd : ys.drop i = [] := by simp; walk_at "om"
      have hi2 : us.toArray[((i : Nat) : Int).toNat]? = none := by simp; walk_at "om"
      rw [lexLt_nil _ _ (.inr hd)] at h
      rw [hi1, hi2]
      wp_walk using wpAny_loadPart' hl, wpAny_loadPart' hb
      show R (.ok (.ret (.bool (decide (vs.toArray.size < us.toArray.size))))) _
      have e : decide (vs.toArray.size < us.toArray.size) = decide ((xs.drop i).length < (ys.drop i).length) := by
        simp only [List.size_toArray, List.length_drop]; congr 1; simp; walk_at "om"
      rw [e]; exact h
theorem list_lt_meets (l b : Addr) (vs us : List Value) (xs ys : List Int) (n n2 : Nat) (dd dd2 : Option Addr) (sl sl2 : Array (Option Value)) (hv : Ints vs xs) (hu : Ints us ys) :
    Meets (Builtin.«list.__lt__» ⟨[.ref l, .ref b], []⟩)
      (fun A R s => s.heap.get? l = some { cls := .type "list", dict := dd, data := .seq vs.toArray n, slots := sl } ∧ s.heap.get? b = some { cls := .type "list", dict := dd2, data := .seq us.toArray n2, slots := sl2 } ∧
        R (.ok (.ret (.bool (lexLt xs ys)))) s) := by
  intro prog w A R s h
  obtain ⟨hp, g, d, tk, os⟩ := s; obtain ⟨hl, hb, h⟩ := h
  have f3 := AutoSeq1.sub_list_list
  wp_walk using wpAny_loadPart' hl, wpAny_loadPart' hb
  exact ⟨plainId_quiet plain_eq_loop _, codeAny_builtin entry_eq_loop (by
    rw [Around.under_plainId plain_eq_loop _]
    exact lt_loop l b vs us xs ys n n2 dd dd2 sl sl2 hv hu _ 0 rfl prog w A R _ ⟨hl, hb, Nat.zero_le _, Nat.zero_le _, h⟩)⟩
section
variable {X : XX} {k : Nat} {cs cs' : List Cl} {env : Env}
theorem any_ltL {prog : Program} {w : World} {A : Around} {E : Value → Shared → Prop} {s : Shared} {l b : Addr} {vs us : List Value} {xs ys : List Int} {n n2 : Nat} {Q : Value → Shared → Prop} (hl : IsL s.heap l vs.toArray n) (hb : IsL s.heap b us.toArray n2) (hv : Ints vs xs) (hu : Ints us ys) (hr : A.units < cLine)
    (q : Q (.bool (lexLt xs ys)) s) : wpAny (model prog w) A (richCompare .Lt (.ref l) (.ref b)) Q E s :=
  richCompare_meets_room (op := .Lt) ⟨_, hl, rfl⟩ ⟨_, hb, rfl⟩ F.slot_list_lt F.entry_list_lt (F.args_list_lt_2 _ _) (list_lt_meets l b vs us xs ys n n2 _ _ _ _ hv hu)
    ⟨hl, hb, show Value.bool _ ≠ Value.notImplemented ∧ Q (.bool _) s from ⟨(fun x => nomatch x), q⟩⟩ hr
theorem w_ltL {l b : Addr} {vs us : List Value} {xs ys : List Int} {Q : Value → List Cl → Prop} (hl : (l, LsL vs) ∈ cs) (hb : (b, LsL us) ∈ cs) (hv : Ints vs xs) (hu : Ints us ys) (hk : k < 60) (q : Q (.bool (lexLt xs ys)) cs) :
    W X k (compareOp .Lt (.ref l) (.ref b)) cs Q := .mk fun hp tk s => by
  obtain ⟨n, e⟩ := s.lsl hl
  obtain ⟨n2, e2⟩ := s.lsl hb
  exact any_ltL e e2 hv hu (show 10 + 100 * k < 9900 by walk_at "om") (.mk s q)
end
end
section
theorem bisR_le (ys : Nat → Int) (x : Int) : ∀ (d lo hi : Nat), hi - lo = d → lo ≤ hi → lo ≤ bisR ys x lo hi ∧ bisR ys x lo hi ≤ hi := by
  intro d
  induction d using Nat.strongRecOn with
  | ind d ih =>
    intro lo hi hd hle
    rw [bisR]
    split
    · split
      · have := ih _ (by walk_at "om") lo ((lo + hi) / 2) rfl (by walk_at "om"); walk_at "om"
      · have := ih _ (by walk_at "om") ((lo + hi) / 2 + 1) hi rfl (by walk_at "om"); walk_at "om"
    · walk_at "om"
section
variable {X : XX} {k : Nat} {cs cs' : List Cl} {env : Env}
/-- insort_right, with a key -/
theorem c_insR (hS : StatD X) (hk : k < 44) {a lam : Addr} {xs : List Value} {ys : Nat → Int} {x : Int} {xv : Value} {tl th : Tok} {lo hi : Nat} {G : List Cl → Prop} {f : Value → Int → Prop} (F : KeyFn X (k + 1) lam G f) (F2 : KeyFn X (k + 2) lam G f) (hG : ∀ d e, G (d :: e :: cs)) (hG1 : ∀ d, G (d :: cs)) (ha : (a, LsL xs) ∈ cs)
    (hf : ∀ i v, xs[i]? = some v → f v (ys i)) (hx : f xv x) (hlo : lo ≤ hi) (hh : hi ≤ xs.length) (hsz : xs.length ≤ 1000) (hp : Put a (LsL xs) (LsL (xs.insertIdx (bisR ys x lo hi) xv)) cs cs') {Q : Value → List Cl → Prop} (q : Q .none cs') :
    W X k (call (.ref 23) [.ref a, xv, .int (lo : Int) tl, .int (hi : Int) th] [("key", .ref lam)]) cs Q := by
  obtain ⟨o15, n15, t15, g15, d15⟩ := hS.t15
  have hS' := hS.toStat
  with_reducible refine w_def (binds := [("a", .ref a), ("x", xv), ("lo", .int lo tl), ("hi", .int hi th), ("key", .ref lam)]) hS' hS'.f23 (binds_d ⟨o15, n15, g15, d15⟩ fun _ _ _ _ => ⟨_, rfl, rfl⟩) (by kernel_rfl) (by kernel_rfl) (by walk_at "om") fun L => ?_
  have hb := bisR_le ys x _ lo hi rfl hlo
  repeat walk_at "w"
  rw [if_neg (by simp)]
  repeat walk_at "w"
  refine ⟨F.kp _ (hG1 _), ?_⟩
  refine F.run _ _ _ (hG1 _) hx _ fun t => ?_
  repeat walk_at "w"
  refine ⟨Kp.of_fn hS'.f32, ?_⟩
  refine c_bisR hS (by walk_at "om") F2 (fun d => hG _ _) (List.mem_cons_of_mem _ ha) hf hh hsz fun t2 => ?_
  repeat walk_at "w"
  refine w_insert rfl (by walk_at "om") (show xs.length ≤ 16777216 by walk_at "om") (.tail hp) ?_
  repeat walk_at "w"
  exact ⟨cs', Lay.ent (by walk_at "lay"), q⟩
/-- insort_right, plain -/
theorem c_insR0 (hS : StatD X) (hk : k < 44) {a : Addr} {xs : List Value} {ys : Nat → Int} {x : Int} {xv : Value} {G : List Cl → Prop}
    (F : ∀ c i v, G c → xs[i]? = some v → ∀ Q : Value → List Cl → Prop, Q (.bool (decide (x < ys i))) c → W X (k + 2) (compareOp .Lt xv v) c Q) (hG : ∀ d e, G (d :: e :: cs)) (ha : (a, LsL xs) ∈ cs)
    (hsz : xs.length ≤ 1000) (hp : Put a (LsL xs) (LsL (xs.insertIdx (bisR ys x 0 xs.length) xv)) cs cs') {Q : Value → List Cl → Prop} (q : Q .none cs') :
    W X k (call (.ref 23) [.ref a, xv]) cs Q := by
  obtain ⟨o15, n15, t15, g15, d15⟩ := hS.t15
  have hS' := hS.toStat
  with_reducible refine w_def (binds := [("a", .ref a), ("x", xv), ("lo", .int 0 t15), ("hi", .none), ("key", .none)]) hS' hS'.f23 (binds_k ⟨o15, n15, g15, d15⟩ hS.k16 fun _ _ _ _ => ⟨_, _, _, rfl, rfl, fun _ _ _ _ _ _ => by kernel_rfl⟩) (by kernel_rfl) (by kernel_rfl) (by walk_at "om") fun L => ?_
  have hb := bisR_le ys x _ 0 xs.length rfl (Nat.zero_le _)
  repeat walk_at "w"
  rw [if_pos rfl]
  repeat walk_at "w"
  refine ⟨Kp.of_fn hS'.f32, ?_⟩
  refine c_bisR0 hS (by walk_at "om") F (fun d => hG _ _) (List.mem_cons_of_mem _ ha) hsz fun t2 => ?_
  repeat walk_at "w"
  refine w_insert rfl (by walk_at "om") (show xs.length ≤ 16777216 by walk_at "om") (.tail hp) ?_
  repeat walk_at "w"
  exact ⟨cs', Lay.ent (by walk_at "lay"), q⟩
end
end
section
open SeqAt AutoSeq1 MeetsSeq MeetsSeq2 MeetsSeq3 SeqRoads2
theorem Ints.are : ∀ {xs : List Value} {ns : List Int}, Ints xs ns → IntsAre xs ns
  | [], [], _ => .nil
  | [], _ :: _, h => by simp [Ints] at h
  | _ :: _, [], h => by simp [Ints] at h
  | x :: xs, n :: ns, h => by
    simp only [Ints, List.map_cons, List.cons.injEq] at h
    obtain ⟨t, rfl⟩ := iv_eq h.1
    exact .cons n t (Ints.are (xs := xs) (ns := ns) h.2)
/-- one thing twice -/
noncomputable def SameV (x y : Value) : Prop := x = y ∨ (∃ i t u, x = .int i t ∧ y = .int i u) ∨ ∃ s t u, x = .str s t ∧ y = .str s u
theorem SameV.eqAt {A : Around} {s : Shared} {x y : Value} (h : SameV x y) : EqAt A s x y true := by
  rcases h with rfl | ⟨i, t, u, rfl, rfl⟩ | ⟨i, t, u, rfl, rfl⟩
  · exact EqAt.same _
  · have := EqAt.int_int (A := A) (s := s) i t i u; rw [beq_self_eq_true] at this; exact this
  · have := EqAt.str_str (A := A) (s := s) i t i u; rw [beq_self_eq_true] at this; exact this
theorem same_strs {xs ys : List Value} {ss : List Str} (hx : Strs xs ss) (hy : Strs ys ss) (j : Nat) (x y : Value) (h1 : xs[j]? = some x) (h2 : ys[j]? = some y) : SameV x y := by
  obtain ⟨a, t, ha, rfl⟩ := hx.get h1
  obtain ⟨b, u, hb, rfl⟩ := hy.get h2
  rw [ha] at hb; cases hb
  exact .inr (.inr ⟨a, t, u, rfl, rfl⟩)
theorem same_ints {xs ys : List Value} {ss : List Int} (hx : Ints xs ss) (hy : Ints ys ss) (j : Nat) (x y : Value) (h1 : xs[j]? = some x) (h2 : ys[j]? = some y) : SameV x y := by
  obtain ⟨a, t, ha, rfl⟩ := hx.get h1
  obtain ⟨b, u, hb, rfl⟩ := hy.get h2
  rw [ha] at hb; cases hb
  exact .inr (.inl ⟨a, t, u, rfl, rfl⟩)
section
variable {X : XX} {k : Nat} {cs cs' : List Cl} {env : Env}
theorem w_neSame {l b : Addr} {xs ys : List Value} {Q : Value → List Cl → Prop} (hl : (l, LsL xs) ∈ cs) (hb : (b, LsL ys) ∈ cs) (hn : xs.length = ys.length) (hs : ∀ (j : Nat) x y, xs[j]? = some x → ys[j]? = some y → SameV x y) (hk : k < 60) (q : Q (.bool false) cs) :
    W X k (compareOp .NotEq (.ref l) (.ref b)) cs Q := .mk fun hp tk s => by
  have h1 := s.isList hl
  have h2 := s.isList hb
  have := RcNeAt.lists (A := AL k) (s := X.S hp tk) (e := fun _ => true) h1 h2 (by simpa using hn) (show 10 + 100 * k < 9900 by walk_at "om") (fun j a1 a2 => (hs j _ _ (by simp) (by simp)).eqAt)
  refine this _ _ _ _ ?_
  have e : (!(List.range xs.toArray.size).all fun _ => true) = false := by simp
  rw [e]; exact .mk s q
theorem w_eqSame {l b : Addr} {xs ys : List Value} {Q : Value → List Cl → Prop} (hl : (l, LsL xs) ∈ cs) (hb : (b, LsL ys) ∈ cs) (hn : xs.length = ys.length) (hs : ∀ (j : Nat) x y, xs[j]? = some x → ys[j]? = some y → SameV x y) (hk : k < 60) (q : Q (.bool true) cs) :
    W X k (compareOp .Eq (.ref l) (.ref b)) cs Q := .mk fun hp tk s => by
  have h1 := s.isList hl
  have h2 := s.isList hb
  have := RcAt.lists (A := AL k) (s := X.S hp tk) (e := fun _ => true) h1 h2 (by simpa using hn) (show 10 + 100 * k < 9900 by walk_at "om") (fun j a1 a2 => (hs j _ _ (by simp) (by simp)).eqAt)
  refine this _ _ _ _ ?_
  have e : ((List.range xs.toArray.size).all fun _ => true) = true := by simp
  rw [e]; exact .mk s q
theorem w_sum {l : Addr} {xs : List Value} {ns : List Int} {Q : Value → List Cl → Prop} (hl : (l, LsL xs) ∈ cs) (hx : Ints xs ns) (q : ∀ t, Q (.int ns.sum t) cs) : W X k (call (.builtin "sum") [.ref l]) cs Q := .mk fun hp tk s => by
  have hl := s.isList hl
  have hi := hx.are
  obtain ⟨ys, hy⟩ := hi.allInts.items
  have hn : numsOf xs.toArray.toList = ns := by rw [show xs.toArray.toList = xs from rfl, hi.numsOf]
  rw [hy] at hl hn
  rw [nums_intItems] at hn
  refine sum_intListG rfl hl fun h' tk t' hk => ?_
  rw [preSum_eq, List.take_of_length_le (by simp), hn]
  exact .mk (s.grow hk) (q t')
theorem w_index {l : Addr} {xs : List Value} {ss : List Str} {x : Str} {t : Tok} {j : Nat} {Q : Value → List Cl → Prop} (hl : (l, LsL xs) ∈ cs) (hx : Strs xs ss) (hj : ss[j]? = some x) (hno : ∀ m, m < j → ss[m]? ≠ some x) (hsz : xs.length ≤ 1000) (q : ∀ t', Q (.int (j : Int) t') cs) :
    W X k (call (.builtin "list.index") [.ref l, .str x t]) cs Q := .mk fun hp tk s => by
  obtain ⟨n, e⟩ := s.lsl hl
  obtain ⟨t1, h1⟩ := hx.at hj
  have hjl : j < xs.length := (List.getElem?_eq_some_iff.mp h1).1
  refine call_meets PySem.F.slot_list_index ⟨_, e, rfl⟩ PySem.F.entry_list_index (PySem.F.args_list_index_2 _ _) (PySem.MeetsSeq.list_index l xs.toArray n (.str x t) (fun y => match y with | .str z _ => z.cps.toList == x.cps.toList | _ => false) ?_ j (by simpa using hjl) (by walk_at "om") ?_ ?_) ⟨e, .mk s (q _)⟩
  · intro y hy
    obtain ⟨m, hm, rfl⟩ := List.getElem_of_mem (Array.mem_toArray.mp hy)
    obtain ⟨a, u, ha, hv⟩ := hx.get (List.getElem?_eq_getElem hm)
    rw [hv]
    exact EqGives.str a x u t
  · have : xs.toArray[j]'(by simpa using hjl) = .str x t1 := by
      have := List.getElem?_eq_some_iff.mp h1
      simpa using this.2
    rw [this]; simp
  · intro m hm hlt
    have hml : m < xs.length := by simpa using hm
    obtain ⟨a, u, ha, hv⟩ := hx.get (List.getElem?_eq_getElem hml)
    have : xs.toArray[m] = .str a u := by simpa using hv
    rw [this]
    have hne := hno m hlt
    rw [ha] at hne
    have hne : a ≠ x := fun h => hne (by rw [h])
    simp only [beq_eq_false_iff_ne, ne_eq]
    intro h
    apply hne
    cases a; cases x
    congr 1
    exact Array.toList_inj.mp h
theorem w_count {l : Addr} {xs : List Value} {ns : List Int} {x : Int} {t : Tok} {Q : Value → List Cl → Prop} (hl : (l, LsL xs) ∈ cs) (hx : Ints xs ns) (q : ∀ t', Q (.int ((ns.count x : Nat) : Int) t') cs) :
    W X k (call (.builtin "list.count") [.ref l, .int x t]) cs Q := .mk fun hp tk s => by
  obtain ⟨n, e⟩ := s.lsl hl
  refine call_meets PySem.F.slot_list_count ⟨_, e, rfl⟩ PySem.F.entry_list_count (PySem.F.args_list_count_2 _ _) (PySem.MeetsSeq.list_count l xs.toArray n (.int x t) (fun y => match y with | .int z _ => z == x | _ => false) ?_) ⟨e, ?_⟩
  · intro y hy
    obtain ⟨m, hm, rfl⟩ := List.getElem_of_mem (Array.mem_toArray.mp hy)
    obtain ⟨a, u, ha, hv⟩ := hx.get (List.getElem?_eq_getElem hm)
    rw [hv]
    exact EqGives.int a x u t
  · have key : ∀ (xs : List Value) (ns : List Int), Ints xs ns → xs.countP (fun y => match y with | .int z _ => z == x | _ => false) = ns.count x := by
      intro xs
      induction xs with
      | nil => intro ns h; cases ns with
        | nil => rfl
        | cons _ _ => simp [Ints] at h
      | cons v vs ih => intro ns h; cases ns with
        | nil => simp [Ints] at h
        | cons n ns =>
          simp only [Ints, List.map_cons, List.cons.injEq] at h
          obtain ⟨t, rfl⟩ := iv_eq h.1
          rw [List.countP_cons, ih ns h.2, List.count_cons]
    rw [show xs.toArray.toList = xs from rfl, key xs ns hx]
    exact .mk s (q _)
end
end
section
/-- code tables of the defs that make lambdas -/
structure StatK (X : XX) : Prop extends StatD X where
  c116 : CodeHd X.g 116 114
  c111 : CodeHd X.g 111 107
  b114 : X.g.BuiltinsAt X.mg 114
  b107 : X.g.BuiltinsAt X.mg 107
noncomputable def CodeO (qual : Str) (o : Obj) : Prop := ∃ vs t, o.data = .fields vs ∧ vs[1]? = some (.str qual t)
/-- a table and its codes -/
noncomputable def TabOK (P : Addr) (qual : Str) (T : List Cl) : Prop := ∃ (ps : Array Value) (R : List Cl), T = (P, (· = tabObj ps)) :: R ∧ TriplesOk ps.toList ∧ ∀ pos v, codeAmong pos ps.toList = some v → ∃ c', v = .ref c' ∧ (c', CodeO qual) ∈ R
theorem TabOK.fresh (P : Addr) (qual : Str) : TabOK P qual [(P, (· = tabObj #[]))] := ⟨#[], [], rfl, trivial, fun pos v h => by simp [codeAmong] at h⟩
/-- a list's end -/
inductive App (T : List Cl) : List Cl → List Cl → Prop where
  | here {d : List Cl} : App T d (d ++ T)
  | cons {x : Cl} {d c : List Cl} : App T d c → App T (x :: d) (x :: c)
theorem App.eq {T : List Cl} : ∀ {d c : List Cl}, App T d c → c = d ++ T
  | _, _, .here => rfl
  | _, _, .cons h => by rw [h.eq]; rfl
section
variable {X : XX} {k : Nat} {cs cs' : List Cl} {env : Env}
theorem codeAmong_app {pos pos' : Pos} {l : List Value} {v c : Value} (ht : TriplesOk l) (h : codeAmong pos' (l ++ [rawInt pos.line, rawInt pos.col, c]) = some v) : codeAmong pos' l = some v ∨ v = c := by
  fun_induction TriplesOk l with
  | case1 =>
    right
    simp [codeAmong, rawInt] at h
    exact h.2.symm
  | case2 a t b u c' rest ih =>
    simp only [List.cons_append, codeAmong] at h ⊢
    split at h
    · rename_i hc; left; rw [if_pos hc]; exact h
    · rename_i hc
      rw [if_neg hc]
      exact ih ht h
  | case3 => cases ht
theorem triples_app {pos : Pos} {l : List Value} {c : Value} (ht : TriplesOk l) : TriplesOk (l ++ [rawInt pos.line, rawInt pos.col, c]) := by
  fun_induction TriplesOk l with
  | case1 => trivial
  | case2 a t b u c' rest ih => exact ih ht
  | case3 => cases ht
theorem St.ext {g h h' : Heap} {P : Addr} {A B : Obj → Prop} {r : List Cl} (s : St g ((P, A) :: r) h) (hx : Heap.ExtBut P h h') (hP : ∃ o, h'.get? P = some o ∧ B o) : St g ((P, B) :: r) h' := by
  refine s.put .head (fun b o hb e => hx b o hb e) hP
/-- a lambda made -/
theorem w_lambda {P c : Addr} {qual : Str} {params : Arguments} {body : Expr} {scope : Scope} {pos : Pos} {T d : List Cl} {clos : List (Str × Addr)} (hS : Stat X) (hC : CodeHd X.g c P) (hB : X.g.BuiltinsAt X.mg P) (hgP : mainGlobals ≠ P) (ha : App T d cs) (hT : TabOK P qual T)
    (hq : env.qual ++ "<lambda>" = qual) (hge : env.globals = mainGlobals) (hcode : env.code = .ref c) (hdef : defaultsOf params env = ([], [])) (hcl : closureFor scope env = pure clos) {Q : Value → List Cl → Prop}
    (q : ∀ f c' T' ctv, TabOK P qual T' → (c', CodeO qual) ∈ T' → Q (.ref f) ((f, (· = kla_obj "<lambda>" qual params body scope clos ((X.mg "__name__").getD .none) c' ctv)) :: (d ++ T'))) : W X k (eval (.Lambda params body scope pos) env) cs Q := .mk fun hp tk s => by
  have e := ha.eq
  subst e
  obtain ⟨ps, R, rfl, ht, hR⟩ := hT
  have s1 : St X.g ((P, (· = tabObj ps)) :: (d ++ R)) hp := by
    refine Ent.of ?_ ?_ _ _ s
    · intro n
      refine (List.Perm.map Prod.fst ?_).nodup_iff.mp n
      exact List.perm_middle
    · intro x hx
      refine ⟨x, ?_, rfl, fun _ h => h⟩
      rcases List.mem_cons.mp hx with rfl | hx
      · simp
      · rcases List.mem_append.mp hx with h | h
        · exact List.mem_append_left _ h
        · exact List.mem_append_right _ (.tail _ h)
  obtain ⟨oP, hP, rfl⟩ := s1.get (.head _)
  obtain ⟨bm, ob, b1, b2, b3, b4, b5, b6⟩ := hB
  have hBs : hp.BuiltinsAt X.mg P := ⟨bm, ob, b1, b2, b3, b4, s.keep _ _ b5, b6⟩
  refine kla_eval hdef ?_
  rw [hq]
  cases hf : codeAmong pos ps.toList with
  | none =>
    refine kla_makeFunction (mg := X.mg) hcl hge (hS.G.keeps s.keep) hcode (hC.keeps s.keep) hP ht hf hgP hBs fun c' ctv h' tk' hx hge' hlt hrec htab => ?_
    obtain ⟨c2, oc, vs, t, e2, hoc, hd, hv⟩ := hrec
    cases e2
    have s2 := s1.ext (B := (· = tabObj (ps ++ #[rawInt pos.line, rawInt pos.col, .ref c']))) hx ⟨_, htab, rfl⟩
    have s3 : St X.g ((c', CodeO qual) :: (P, (· = tabObj (ps ++ #[rawInt pos.line, rawInt pos.col, .ref c']))) :: (d ++ R)) h' := by
      refine ⟨s2.keep, ?_, ?_, ?_⟩
      · rw [List.map_cons, List.nodup_cons]
        refine ⟨fun hm => ?_, s2.nd⟩
        obtain ⟨z, hz, ez⟩ := List.mem_map.mp hm
        have hz' : ∃ w ∈ ((P, (· = tabObj ps)) :: (d ++ R) : List Cl), w.1 = z.1 := by
          rcases List.mem_cons.mp hz with rfl | hz
          · exact ⟨_, .head _, rfl⟩
          · exact ⟨z, .tail _ hz, rfl⟩
        obtain ⟨w, hw, ew⟩ := hz'
        have := s1.lt hw
        rw [ew, ez] at this
        exact absurd hge' (Nat.not_le_of_lt this)
      · intro z hz
        rcases List.mem_cons.mp hz with rfl | hz
        · show X.g.get? c' = none
          cases qq : X.g.get? c' with
          | none => rfl
          | some o => exact absurd hge' (Nat.not_le_of_lt (Heap.lt_size (s1.keep _ _ qq)))
        · exact s2.off z hz
      · intro z hz
        rcases List.mem_cons.mp hz with rfl | hz
        · exact ⟨oc, hoc, vs, t, hd, hv⟩
        · exact s2.has z hz
    have s4 := s3.push (o := kla_obj "<lambda>" qual params body scope clos ((X.mg "__name__").getD .none) c' ctv) (P := (· = kla_obj "<lambda>" qual params body scope clos ((X.mg "__name__").getD .none) c' ctv)) rfl rfl
    refine .mk (cs := _) ?_ (q h'.objs.size c' ((P, (· = tabObj (ps ++ #[rawInt pos.line, rawInt pos.col, .ref c']))) :: (c', CodeO qual) :: R) ctv ⟨_, _, rfl, ?_, ?_⟩ (.tail _ (.head _)))
    · refine Ent.of ?_ ?_ _ _ s4
      · intro n
        refine (List.Perm.map Prod.fst ?_).nodup_iff.mp n
        refine List.Perm.cons _ ?_
        refine (List.Perm.swap ..).trans ?_
        refine List.Perm.trans ?_ List.perm_middle.symm
        refine List.Perm.cons _ ?_
        exact List.perm_middle.symm
      · intro x hx
        refine ⟨x, ?_, rfl, fun _ h => h⟩
        simp only [List.mem_cons, List.mem_append] at hx ⊢
        rcases hx with h | h | h | h | h
        · exact .inl h
        · exact .inr (.inr (.inr (.inl h)))
        · exact .inr (.inr (.inl h))
        · exact .inr (.inl h)
        · exact .inr (.inr (.inr (.inr h)))
    · rw [Array.toList_append]; exact triples_app ht
    · intro pos' v hv'
      rw [Array.toList_append] at hv'
      rcases codeAmong_app ht hv' with h | h
      · obtain ⟨c2, e, m⟩ := hR _ _ h
        exact ⟨c2, e, .tail _ m⟩
      · exact ⟨c', h, .head _⟩
  | some cv =>
    obtain ⟨c', rfl, hm⟩ := hR _ _ hf
    refine kla_makeFunctionHit (mg := X.mg) hcl hge (hS.G.keeps s.keep) hcode (hC.keeps s.keep) hP ht hf hBs fun ctv h' tk' hk hsz => ?_
    have s4 := (s.grow hk).push (o := kla_obj "<lambda>" qual params body scope clos ((X.mg "__name__").getD .none) c' ctv) (P := (· = kla_obj "<lambda>" qual params body scope clos ((X.mg "__name__").getD .none) c' ctv)) rfl rfl
    exact .mk s4 (q h'.objs.size c' _ ctv ⟨ps, R, rfl, ht, hR⟩ (.tail _ hm))
end
end
local macro_rules | `(tactic| walk_at "app") => `(tactic| (repeat (first | exact App.here | apply App.cons)))
section
noncomputable abbrev kPar (p : Pos) : Arguments := { posonlyargs := [], args := [{ arg := "word", annotation := none, pos := p }], vararg := none, kwonlyargs := [], kw_defaults := [], kwarg := none, defaults := [] }
noncomputable abbrev kBody (p1 p2 p3 p4 p5 : Pos) : Expr := .BinOp (.Name "way" p1) .Mult (.Call (.Name "_law_number" p2) [.Name "word" p3] [] p4) p5
noncomputable abbrev kSc : Scope := { kind := .function, names := [("word", .local), ("way", .free), ("_law_number", .globalImplicit)], isGenerator := false, isCoroutine := false, more := [] }
noncomputable abbrev kQ : Str := "_law_put_back.<locals>.<lambda>"
/-- what the key of a word is -/
noncomputable def keyV (way : Int) (v : Value) (y : Int) : Prop := ∃ (os : List Nat) (m n : Nat) (t : Tok), v = .str (strOf os) t ∧ IsOct os m n ∧ m ≤ 4 ∧ n < 64 ^ 4 ∧ y = way * n
section
variable {X : XX} {k : Nat} {cs cs' : List Cl} {env : Env}
theorem w_pow644 {t u : Tok} {Q : Value → List Cl → Prop} (q : ∀ t', Q (.int 16777216 t') cs) : W X k (binaryOp .Pow (.int 64 t) (.int 4 u)) cs Q :=
  w_pow (by decide) (by decide) (by decide) fun t' => q t'
theorem w_pow643 {t u : Tok} {Q : Value → List Cl → Prop} (q : ∀ t', Q (.int 262144 t') cs) : W X k (binaryOp .Pow (.int 64 t) (.int 3 u)) cs Q :=
  w_pow (by decide) (by decide) (by decide) fun t' => q t'
theorem v_ret {v : Value} {c : List Cl} {Q : Value → List Cl → Prop} (q : Q v c) : ∃ w, Flow.ret v = .ret w ∧ Q w c := ⟨v, rfl, q⟩
theorem keyFn (hS : Stat X) (hk : k < 48) {lam c' cw : Addr} {way : Int} {t : Tok} {p p1 p2 p3 p4 p5 : Pos} {pm ctv : Value} (hw : way = 1 ∨ way = -1) :
    KeyFn X k lam (fun c => (lam, (· = kla_obj "<lambda>" kQ (kPar p) (kBody p1 p2 p3 p4 p5) kSc [("way", cw)] pm c' ctv)) ∈ c ∧ (c', CodeO kQ) ∈ c ∧ (cw, CellV (.int way t)) ∈ c) (keyV way) where
  kp := fun c h => Kp.fn (o := kla_obj "<lambda>" kQ (kPar p) (kBody p1 p2 p3 p4 p5) kSc [("way", cw)] pm c' ctv) (fun hp s => by obtain ⟨o, ho, rfl⟩ := s.get h.1; exact ho) rfl
  run := fun c v y hG hf Q q => by
    obtain ⟨os, m, n, tv, rfl, hos, hm, hn, rfl⟩ := hf
    obtain ⟨hG1, hG2, hG3⟩ := hG
    refine W.call (w_fnE (binds := [("word", .str (strOf os) tv)]) hS.lim (fun h s => by obtain ⟨o, ho, e⟩ := s.get hG1; rw [e] at ho; exact ho) rfl (fun h s => by
      obtain ⟨o, ho, vs, t, hd, hv⟩ := s.get hG2
      exact ⟨c', o, vs, t, rfl, ho, hd, hv⟩) (fun h tk s => BindsTo.of_eq (by kernel_rfl)) rfl (by kernel_rfl) (of_decide_eq_true (by kernel_rfl)) (by walk_at "om") fun L => ?_)
    have hcw : (cw, CellV (.int way t)) ∈ (L, NsL [("word", .str (strOf os) tv)]) :: c := .tail _ hG3
    repeat walk_at "w"
    refine ⟨Kp.of_fn hS.f100, ?_⟩
    refine c_number hS (by walk_at "om") hos hm hn fun t2 => ?_
    refine w_mul (fun t3 => ?_) (IntMulOk.of_left (by rcases hw with rfl | rfl <;> decide +kernel))
    exact ⟨c, Lay.ent (.skip .refl), v_ret (q t3)⟩
end
end
local macro_rules | `(tactic| walk_at "w") => `(tactic| first | (with_reducible refine' w_pow644 fun _ => ?_) | (with_reducible refine' w_pow643 fun _ => ?_))
section
noncomputable def rises (ys : List Nat) : List Nat := (List.range' 1 (ys.length - 1)).filter fun k => decide (ys.getD (k - 1) 0 ≤ ys.getD k 0)
noncomputable def falls (ys : List Nat) : List Nat := (List.range' 1 (ys.length - 1)).filter fun k => decide (ys.getD k 0 < ys.getD (k - 1) 0)
noncomputable def restN (ys : List Nat) (P : Int) : Nat := ((P - ((rises ys).sum : Nat)).fmod ((ys.length : Int) + 1)).toNat
noncomputable def wayUp (ys : List Nat) (P : Int) : Bool := decide ((rises ys).length < restN ys P)
noncomputable def wayI (ys : List Nat) (P : Int) : Int := if wayUp ys P then 1 else -1
noncomputable def bnds (ys : List Nat) (P : Int) : List Nat := if wayUp ys P then 0 :: (falls ys ++ [ys.length]) else 0 :: (rises ys ++ [ys.length])
noncomputable def whichN (ys : List Nat) (P : Int) : Nat := if wayUp ys P then restN ys P - (rises ys).length - 1 else (rises ys).length - restN ys P
noncomputable def lowN (ys : List Nat) (P : Int) : Nat := (bnds ys P).getD (whichN ys P) 0
noncomputable def highN (ys : List Nat) (P : Int) : Nat := (bnds ys P).getD (whichN ys P + 1) 0
noncomputable def keyN (ys : List Nat) (P : Int) (i : Nat) : Int := wayI ys P * ((ys.getD i 0 : Nat) : Int)
noncomputable def placeN (ys : List Nat) (P : Int) (v : Nat) : Nat := bisL (keyN ys P) (wayI ys P * (v : Int)) (lowN ys P) (highN ys P)
noncomputable def beyondN (ys : List Nat) (P : Int) (v : Nat) : Nat := bisR (keyN ys P) (wayI ys P * (v : Int)) (lowN ys P) (highN ys P)
section
variable {X : XX} {k : Nat} {cs cs' : List Cl} {env : Env}
theorem w_assignSub {o i : Expr} {pos' pos : Pos} {value : Expr} {Q : Flow → List Cl → Prop} (h : W X k (eval value env) cs (fun v c => W X k (eval o env) c (fun ov c => W X k (eval i env) c (fun iv c => W X k (setItem ov iv v) c (fun _ => Q .next)))))
    (hs : swapsWith value (some (.Subscript o i pos')) pos.line env = pure false) : W X k (exec (.Assign [.Subscript o i pos'] value pos) env) cs Q := .mk fun hp tk s =>
  wpAny_Assign_Subscript (h.chain (fun _ _ _ _ s x => x.chain (fun _ _ _ _ s x => x.chain (fun _ _ _ _ s x => x.chain (fun _ _ _ _ s x => .mk s x) s) s) s) s) hs
theorem small_ok {n : Nat} (h : n ≤ 100000) : Builtin.Range.small 1 n 1 = true := by
  unfold Builtin.Range.small Builtin.Range.rangeFitsLong Builtin.Range.rangeSize
  simp
  refine ⟨⟨by walk_at "om", ?_, ?_⟩, .inr (by walk_at "om")⟩ <;> split <;> walk_at "om"
theorem sum_cast : ∀ l : List Nat, (List.map (fun n : Nat => (n : Int)) l).sum = ((l.sum : Nat) : Int)
  | [] => rfl
  | a :: l => by rw [List.map_cons, List.sum_cons, List.sum_cons, sum_cast l]; walk_at "om"
theorem Nats.slice {vs : List Value} {ns : List Nat} (h : Nats vs ns) (a b : Nat) : Nats ((vs.drop a).take b) ((ns.drop a).take b) := by
  unfold Nats Ints at *
  rw [List.map_take, List.map_drop, h]
  simp only [List.map_take, List.map_drop]
theorem Nats.cons {vs : List Value} {ns : List Nat} {i : Int} {n : Nat} {t : Tok} (e : i = n) (h : Nats vs ns) : Nats (.int i t :: vs) (n :: ns) := by
  subst e
  unfold Nats Ints at *
  simp [h, iv]
theorem Nats.append {vs us : List Value} {ns ms : List Nat} (h : Nats vs ns) (h' : Nats us ms) : Nats (vs ++ us) (ns ++ ms) := by
  unfold Nats Ints at *
  simp [h, h']
theorem count_cast (v : Nat) : ∀ l : List Nat, (List.map (fun n : Nat => (n : Int)) l).count (v : Int) = l.count v
  | [] => rfl
  | a :: l => by
    rw [List.map_cons, List.count_cons, List.count_cons, count_cast v l]
    congr 1
    by_cases h : a = v
    · subst h; simp
    · have : ((a : Int) == (v : Int)) = false := beq_eq_false_iff_ne.mpr (by walk_at "om")
      rw [this]; simp [h]
theorem Strs.ins : ∀ {xs : List Value} {ss : List Str} {j : Nat} {w : Value} {s : Str}, Strs xs ss → sv w = some s → Strs (xs.insertIdx j w) (ss.insertIdx j s) := by
  intro xs ss j w s h e
  unfold Strs at *
  induction j generalizing xs ss with
  | zero => simp [h, e]
  | succ j ih =>
    cases xs with
    | nil => cases ss with
      | nil => rfl
      | cons a r => simp at h
    | cons x xs => cases ss with
      | nil => simp at h
      | cons a r =>
        simp only [List.map_cons, List.cons.injEq] at h
        simp only [List.insertIdx_succ_cons, List.map_cons, h.1, ih h.2]
theorem Strs.set : ∀ {xs : List Value} {ss : List Str} {j : Nat} {w : Value} {s : Str}, Strs xs ss → sv w = some s → Strs (xs.set j w) (ss.set j s) := by
  intro xs ss j w s h e
  unfold Strs at *
  rw [List.map_set, h, List.map_set, e]
theorem ins_set {α : Type} {a b : α} : ∀ {l : List α} {j : Nat}, j ≤ l.length → (l.insertIdx j a).set j b = l.insertIdx j b
  | l, 0, _ => by simp
  | [], j + 1, h => by simp at h
  | x :: l, j + 1, h => by
    simp only [List.insertIdx_succ_cons, List.set_cons_succ]
    rw [ins_set (by simpa using h)]
theorem map_ins {α β : Type} (f : α → β) (a : α) : ∀ (l : List α) (j : Nat), (l.insertIdx j a).map f = (l.map f).insertIdx j (f a)
  | l, 0 => by simp
  | [], j + 1 => by simp
  | x :: l, j + 1 => by simp only [List.insertIdx_succ_cons, List.map_cons, map_ins f a l j]
theorem more_pos : ∀ n, 0 < (more n).length → 1 ≤ n / 64 ^ (more n).length := by
  intro n
  induction n using Nat.strongRecOn with
  | ind n ih =>
    intro h
    by_cases hn : n ≤ 63
    · rw [more_small hn] at h; simp at h
    · rw [more_big (by walk_at "om"), List.length_cons, Nat.pow_succ', ← Nat.div_div_eq_div_mul]
      by_cases hm : 0 < (more (n / 64)).length
      · exact ih (n / 64) (by walk_at "om") hm
      · rw [show (more (n / 64)).length = 0 by walk_at "om", Nat.pow_zero, Nat.div_one]; walk_at "om"
theorem oct_head (n : Nat) : (oct n)[0]? ≠ some 64 := by
  rw [oct_get (by rw [oct_length]; walk_at "om"), Nat.sub_zero]
  have h1 := more_top n
  have h2 := more_pos n
  intro e
  injection e with e
  unfold enc at e
  by_cases hz : 0 = (more n).length
  · rw [if_pos hz] at e; walk_at "om"
  · rw [if_neg hz] at e
    have := h2 (by walk_at "om")
    walk_at "om"
/-- _law_put_back, from the bounds on -/
theorem c_putT (hS : StatK X) (hk : k < 41) {row L D bl : Addr} {xs vs bv : List Value} {ys : List Nat} {P Tt : Int} {v : Nat} {tt tw t2 : Tok} {d T : List Cl}
    (hx : Strs xs (ys.map octS)) (hys : ∀ y ∈ ys, y < 64 ^ 4) (hv : v < 64 ^ 4) (hn : 1 ≤ ys.length ∧ ys.length ≤ 20) (hT : TabOK 114 kQ T)
    (hlost : (Tt - ((ys.map fun n : Nat => (n : Int)).sum)).fmod 16777216 = v) (hw : whichN ys P + 1 < (bnds ys P).length) (hle : lowN ys P ≤ highN ys P) (hhi : highN ys P ≤ ys.length)
    (hcnt : (beyondN ys P v : Int) - (placeN ys P v : Int) = ((((ys.drop (lowN ys P)).take (highN ys P - lowN ys P)).count v : Nat) : Int))
    (hi : Nats vs ys) (hbv : Nats bv (bnds ys P))
    {Q : Value → List Cl → Prop} (q : ∀ xs' T', Strs xs' ((ys.insertIdx (beyondN ys P v) v).map octS) → TabOK 114 kQ T' → Q (.bool true) ((row, LsL xs') :: (d ++ T'))) :
    W X k (execs ((bodyOf (stmtAt 13)).drop 5) (ev (scOf (stmtAt 13)) "_law_put_back" L 117 (.ref 116) (cellsFrom (L + 1) (scOf (stmtAt 13)).names [])))
      ((L, NsL [("row", .ref row), ("total", .int Tt tt), ("which", .int ((whichN ys P : Nat) : Int) t2), ("bounds", .ref bl)]) ::
      (L + 2, CellV (.int (wayI ys P) tw)) :: (L + 1, CellV (.ref D)) :: (bl, LsL bv) :: (D, LsL vs) :: (row, LsL xs) :: (d ++ T)) (fun fl c => ∃ c', Ent c c' ∧ Q (retOf fl) c') := by
  have hS' := hS.toStat
  have hxl : xs.length = ys.length := by rw [hx.length, List.length_map]
  have hvl : vs.length = ys.length := hi.length
  have hbl : bv.length = (bnds ys P).length := hbv.length
  obtain ⟨tlo, glo⟩ := hbv.at (j := whichN ys P) (n := lowN ys P) (by unfold lowN; rw [List.getD_eq_getElem?_getD, List.getElem?_eq_getElem (by walk_at "om")]; rfl)
  obtain ⟨thi, ghi⟩ := hbv.at (j := whichN ys P + 1) (n := highN ys P) (by unfold highN; rw [List.getD_eq_getElem?_getD, List.getElem?_eq_getElem (by walk_at "om")]; rfl)
  have hbsz : bv.length ≤ 1000 := by
    have h1 : (rises ys).length ≤ ys.length - 1 := by unfold rises; exact Nat.le_trans (List.length_filter_le ..) (by simp)
    have h2 : (falls ys).length ≤ ys.length - 1 := by unfold falls; exact Nat.le_trans (List.length_filter_le ..) (by simp)
    rw [hbl]; unfold bnds; split <;> simp <;> walk_at "om"
  have hwy : wayI ys P = 1 ∨ wayI ys P = -1 := by unfold wayI; split <;> simp
  have hkf : ∀ i w, xs[i]? = some w → keyV (wayI ys P) w (keyN ys P i) := fun i w hw => by
    obtain ⟨s, t, hs, rfl⟩ := hx.get hw
    rw [List.getElem?_map] at hs
    obtain ⟨y, hy, rfl⟩ := Option.map_eq_some_iff.mp hs
    have hyl := hys y (List.mem_of_getElem? hy)
    exact ⟨oct y, _, y, t, rfl, isOct_oct y, Nat.le_trans (more_len 3 hyl) (by decide), hyl, by unfold keyN; rw [List.getD_eq_getElem?_getD, hy]; rfl⟩
  repeat walk_at "w"
  refine w_itemL (xs := bv) (by walk_at "mem") rfl glo (show bv.length ≤ 16777216 by walk_at "om") ?_ (by kernel_rfl)
  repeat walk_at "w"
  refine w_itemL (xs := bv) (by walk_at "mem") rfl ghi (show bv.length ≤ 16777216 by walk_at "om") ?_ (by kernel_rfl)
  repeat walk_at "w"
  refine w_sum (xs := vs) (by walk_at "mem") hi fun _ => ?_
  repeat walk_at "w"
  rw [hlost]
  repeat walk_at "w"
  refine w_mul (fun tq => ?_) (IntMulOk.of_left (by rcases hwy with h | h <;> rw [h] <;> decide +kernel))
  repeat walk_at "w"
  refine' w_lambda hS' hS.c116 hS.b114 (by decide) ?app hT (qual := kQ) (by kernel_rfl) rfl rfl (by kernel_rfl) (clos := [("way", L + 2)]) (by kernel_rfl) fun lam1 c1 T1 ctv1 hT1 hc1 => ?_
  case app => walk_at "app"
  refine ⟨Kp.of_fn hS'.f41, ?_⟩
  refine c_bisL hS.toStatD (by walk_at "om") (ys := keyN ys P) (keyFn hS' (by walk_at "om") (t := tw) hwy) (fun dd => ⟨.tail _ (.head _), .tail _ (.tail _ (List.mem_append_right _ hc1)), .tail _ (.tail _ (by walk_at "mem"))⟩) (by walk_at "mem") hkf (by walk_at "om") (by walk_at "om") fun tpl => ?_
  repeat walk_at "w"
  refine w_mul (fun tq => ?_) (IntMulOk.of_left (by rcases hwy with h | h <;> rw [h] <;> decide +kernel))
  repeat walk_at "w"
  refine' w_lambda hS' hS.c116 hS.b114 (by decide) ?app hT1 (qual := kQ) (by kernel_rfl) rfl rfl (by kernel_rfl) (clos := [("way", L + 2)]) (by kernel_rfl) fun lam2 c2 T2 ctv2 hT2 hc2 => ?_
  case app => walk_at "app"
  refine ⟨Kp.of_fn hS'.f32, ?_⟩
  refine c_bisR hS.toStatD (by walk_at "om") (ys := keyN ys P) (keyFn hS' (by walk_at "om") (t := tw) hwy) (fun dd => ⟨.tail _ (.head _), .tail _ (.tail _ (List.mem_append_right _ hc2)), .tail _ (.tail _ (by walk_at "mem"))⟩) (by walk_at "mem") hkf (by walk_at "om") (by walk_at "om") fun tbe => ?_
  repeat walk_at "w"
  refine w_slice (w_part1 ?_)
  repeat walk_at "w"
  refine w_part1 ?_
  repeat walk_at "w"
  refine w_part0 fun sl => ?_
  refine w_slP (xs := vs) (ys := (vs.drop (lowN ys P)).take (highN ys P - lowN ys P)) (by walk_at "mem") (.head _) (.int _ _) (.int _ _) (by walk_at "om") (slicePick_run vs.toArray (lowN ys P) (highN ys P) (by simp; walk_at "om") hle) (fun sls => ?_) (by kernel_rfl)
  repeat walk_at "w"
  refine w_count (xs := (vs.drop (lowN ys P)).take (highN ys P - lowN ys P)) (.head _) (hi.slice _ _) fun tc => ?_
  repeat walk_at "w"
  have ecnt : (((bisR (keyN ys P) (wayI ys P * (v : Int)) (lowN ys P) (highN ys P) : Nat) : Int) - ((bisL (keyN ys P) (wayI ys P * (v : Int)) (lowN ys P) (highN ys P) : Nat) : Int) != (((List.map (fun n : Nat => (n : Int)) ((ys.drop (lowN ys P)).take (highN ys P - lowN ys P))).count (v : Int) : Nat) : Int)) = false := by
    rw [count_cast]
    simp only [bne_eq_false_iff_eq]
    exact hcnt
  rw [ecnt]
  refine ifB (fun h => nomatch h) fun _ => ?_
  repeat walk_at "w"
  refine ⟨Kp.of_fn hS'.f95, ?_⟩
  refine c_octets hS' (by walk_at "om") v _ hv fun tn => ?_
  refine w_addT (a := [64]) (b := oct v) (by have := oct_len hv; simp only [List.length_cons, List.length_nil]; walk_at "om") fun tnew => ?_
  repeat walk_at "w"
  refine' w_lambda hS' hS.c116 hS.b114 (by decide) ?app hT2 (qual := kQ) (by kernel_rfl) rfl rfl (by kernel_rfl) (clos := [("way", L + 2)]) (by kernel_rfl) fun lam3 c3 T3 ctv3 hT3 hc3 => ?_
  case app => walk_at "app"
  refine ⟨Kp.of_fn hS'.f23, ?_⟩
  refine c_insR hS.toStatD (by walk_at "om") (ys := keyN ys P) (x := wayI ys P * (v : Int)) (keyFn hS' (by walk_at "om") (t := tw) hwy) (keyFn hS' (by walk_at "om") (t := tw) hwy) (fun dd ee => ⟨.tail _ (.tail _ (.head _)), .tail _ (.tail _ (.tail _ (List.mem_append_right _ hc3))), .tail _ (.tail _ (.tail _ (by walk_at "mem")))⟩)
    (fun dd => ⟨.tail _ (.head _), .tail _ (.tail _ (List.mem_append_right _ hc3)), .tail _ (.tail _ (by walk_at "mem"))⟩) (by walk_at "mem") hkf ?kx hle (by walk_at "om") (by walk_at "om") (by walk_at "put") ?_
  case kx => exact ⟨64 :: oct v, _, v, tnew, rfl, isOct_at v, by have := more_len 3 hv; walk_at "om", hv, rfl⟩
  repeat walk_at "w"
  refine ifB (fun h => nomatch h) fun _ => ?_
  have hb := bisR_le (keyN ys P) (wayI ys P * (v : Int)) _ (lowN ys P) (highN ys P) rfl hle
  generalize hbe : bisR (keyN ys P) (wayI ys P * (v : Int)) (lowN ys P) (highN ys P) = b at *
  have hxi : Strs (xs.insertIdx b (.str (strOf ([64] ++ oct v)) tnew)) ((ys.map octS).insertIdx b (strOf (64 :: oct v))) := hx.ins rfl
  repeat walk_at "w"
  refine w_index (xs := xs.insertIdx b (.str (strOf ([64] ++ oct v)) tnew)) (x := strOf ([64] ++ oct v)) (j := b) (by walk_at "mem") hxi (by rw [List.getElem?_insertIdx_self]; simp; walk_at "om") (fun m hm => ?_) (by rw [List.length_insertIdx]; split <;> walk_at "om") fun tix => ?_
  · rw [List.getElem?_insertIdx_of_lt hm, List.getElem?_map]
    intro e
    obtain ⟨y, hy, e⟩ := Option.map_eq_some_iff.mp e
    have e2 : oct y = 64 :: oct v := by
      have := congrArg (fun s : Str => s.cps.toList) e
      exact this
    exact oct_head y (by rw [e2]; rfl)
  repeat walk_at "w"
  refine ifB (fun h => by simp at h) fun _ => ?_
  repeat walk_at "w"
  rw [if_neg (by simp)]
  repeat walk_at "w"
  with_reducible refine' w_assignSub ?_ (by kernel_rfl)
  repeat walk_at "w"
  refine w_slice (w_part1 ?_)
  repeat walk_at "w"
  refine w_part0 (w_part0 fun s3 => ?_)
  refine w_sliceT (l := [64] ++ oct v) (some (1, _)) none (.head _) (by have := oct_len hv; simp only [List.length_append, List.length_cons, List.length_nil]; walk_at "om") (r := oct v) ?_ (fun tfin => ?_) (by kernel_rfl)
  · simp only [Option.map_none, Option.map_some, clipL, List.length_append, List.length_cons, List.length_nil]
    rw [show (max 0 (min (if (1 : Int) < 0 then 1 + ((0 + 1 + (oct v).length : Nat) : Int) else 1) ((0 + 1 + (oct v).length : Nat) : Int))).toNat = 1 by rw [if_neg (by decide)]; walk_at "om"]
    show List.take _ (oct v) = oct v
    exact List.take_of_length_le (by walk_at "om")
  repeat walk_at "w"
  refine w_setItem (xs := xs.insertIdx b (.str (strOf ([64] ++ oct v)) tnew)) rfl (by rw [List.length_insertIdx]; split <;> walk_at "om") (by rw [List.length_insertIdx]; exact (show _ ≤ 16777216 by split <;> walk_at "om")) (by walk_at "put") ?_
  repeat walk_at "w"
  refine' w_back ⟨(row, LsL _) :: (d ++ T3), Lay.ent ?lay, ?fin⟩
  case lay => walk_at "lay"
  case fin =>
    refine q _ T3 ?_ hT3
    have h2 := hxi.set (j := b) (w := .str (strOf (oct v)) tfin) rfl
    rw [ins_set (l := ys.map octS) (by rw [List.length_map]; walk_at "om")] at h2
    have hbe' : beyondN ys P v = b := hbe
    rw [hbe', map_ins]
    exact h2
end
end
section
section
variable {X : XX} {k : Nat} {cs cs' : List Cl} {env : Env}
/-- _law_put_back -/
theorem c_put (hS : StatK X) (hk : k < 40) {row : Addr} {xs : List Value} {ys : List Nat} {P Tt : Int} {v : Nat} {tp tt : Tok} {d T : List Cl}
    (hx : Strs xs (ys.map octS)) (hys : ∀ y ∈ ys, y < 64 ^ 4) (hv : v < 64 ^ 4) (hn : 1 ≤ ys.length ∧ ys.length ≤ 20) (hT : TabOK 114 kQ T)
    (hlost : (Tt - ((ys.map fun n : Nat => (n : Int)).sum)).fmod 16777216 = v) (hw : whichN ys P + 1 < (bnds ys P).length) (hle : lowN ys P ≤ highN ys P) (hhi : highN ys P ≤ ys.length)
    (hcnt : (beyondN ys P v : Int) - (placeN ys P v : Int) = ((((ys.drop (lowN ys P)).take (highN ys P - lowN ys P)).count v : Nat) : Int))
    {Q : Value → List Cl → Prop} (q : ∀ xs' T', Strs xs' ((ys.insertIdx (beyondN ys P v) v).map octS) → TabOK 114 kQ T' → Q (.bool true) ((row, LsL xs') :: (d ++ T'))) :
    W X k (call (.ref 117) [.ref row, .int P tp, .int Tt tt]) ((row, LsL xs) :: (d ++ T)) Q := by
  have hS' := hS.toStat
  have hxl : xs.length = ys.length := by rw [hx.length, List.length_map]
  with_reducible refine w_defC (binds := [("row", .ref row), ("places", .int P tp), ("total", .int Tt tt)]) hS' hS'.f117 (binds_of fun _ _ _ _ => by kernel_rfl) (by kernel_rfl) (by kernel_rfl) (of_decide_eq_true (by kernel_rfl)) (by walk_at "om") fun L => ?_
  have hc : cellsCl (cellsFrom (L + 1) (scOf (stmtAt 13)).names []) = [(L + 2, CellN), (L + 1, CellN)] := by kernel_rfl
  rw [hc]
  repeat walk_at "w"
  with_reducible refine' w_assign ?_ (by kernel_rfl)
  walk_at "comp0"
  repeat walk_at "w"
  refine w_iterL (.tail _ (.tail _ (.tail _ (.head _)))) fun it => ?_
  refine compI0 (itrL (l := row) (xs := xs)) (fun j vs => Nats vs (ys.take j)) (show xs.length ≤ 16777216 by walk_at "om") (fun j ys C D => by walk_at "mem") Nats.nil (fun C D j hj v hv vs hl hi => ?_) fun D vs hl hi => ?_
  · obtain ⟨s, t, hs, rfl⟩ := hx.get hv
    rw [List.getElem?_map] at hs
    obtain ⟨y, hy, rfl⟩ := Option.map_eq_some_iff.mp hs
    repeat walk_at "w"
    refine ⟨Kp.of_fn hS'.f100, ?_⟩
    have hyl := hys y (List.mem_of_getElem? hy)
    refine c_number hS' (by walk_at "om") (isOct_oct y) (Nat.le_trans (more_len 3 hyl) (by decide)) hyl fun t2 => ⟨ent_turn, ?_⟩
    rw [take_snoc hy]
    exact hi.snoc rfl
  rw [hxl, List.take_of_length_le (Nat.le_refl _)] at hi
  have hvl : vs.length = ys.length := hi.length
  have hxl1 : (xs.length : Int) - 1 = ((ys.length - 1 : Nat) : Int) := by walk_at "om"
  repeat walk_at "w"
  with_reducible refine' w_assignComp [("numbers", L + 1)] ?_ (by kernel_rfl) (by kernel_rfl) (fun _ => by kernel_rfl) (by kernel_rfl) (by kernel_rfl) (by kernel_rfl)
  repeat walk_at "w"
  refine w_len (xs := xs) (by walk_at "mem") (show xs.length ≤ 16777216 by walk_at "om") fun _ => ?_
  repeat walk_at "w"
  refine w_range2 fun rg => ?_
  refine w_iterR (.head _) (by walk_at "om") (small_ok (by walk_at "om")) fun it => ?_
  rw [hxl1]
  refine compI itrR (fun j us => Nats us ((List.range' 1 j).filter fun k => decide (ys.getD (k - 1) 0 ≤ ys.getD k 0))) (show ys.length - 1 ≤ 16777216 by walk_at "om") (fun j ys C D => trivial) Nats.nil (fun C D' j hj v hv us hl hi' => ?_) fun risesA usrises hl hirises => ?_
  · obtain ⟨t, rfl⟩ := hv
    have e1 : (1 : Int) + (j : Int) = ((1 + j : Nat) : Int) := by walk_at "om"
    rw [e1]
    obtain ⟨ta, ga⟩ := hi.at (j := 1 + j) (List.getElem?_eq_getElem (by walk_at "om"))
    obtain ⟨tb, gb⟩ := hi.at (j := j) (List.getElem?_eq_getElem (by walk_at "om"))
    have da : ys.getD (1 + j) 0 = ys[1 + j] := (List.getElem_eq_getD 0).symm
    have db : ys.getD (1 + j - 1) 0 = ys[j] := by rw [show 1 + j - 1 = j by walk_at "om"]; exact (List.getElem_eq_getD 0).symm
    refine w_tests1 ?_
    repeat walk_at "w"
    refine w_itemL (xs := vs) (by walk_at "mem") rfl ga (show vs.length ≤ 16777216 by walk_at "om") ?_ (by kernel_rfl)
    repeat walk_at "w"
    refine w_itemL (xs := vs) (by walk_at "mem") (show ((1 + j : Nat) : Int) - 1 = (j : Int) by walk_at "om") gb (show vs.length ≤ 16777216 by walk_at "om") ?_ (by kernel_rfl)
    repeat walk_at "w"
    have hsn : (List.range' 1 (j + 1)).filter (fun k => decide (ys.getD (k - 1) 0 ≤ ys.getD k 0)) = (List.range' 1 j).filter (fun k => decide (ys.getD (k - 1) 0 ≤ ys.getD k 0)) ++ (if decide (ys.getD ((1 + j) - 1) 0 ≤ ys.getD (1 + j) 0) then [1 + j] else []) := by
      rw [List.range'_1_concat, List.filter_append]
      congr 1
      simp only [List.filter_cons, List.filter_nil]
    rw [hsn, da, db]
    refine ifB (fun h => ?_) fun h => ?_
    · rw [if_pos (by simpa using h)]
      repeat walk_at "w"
      exact ⟨ent_turn, hi'.snoc rfl⟩
    · rw [if_neg (by simpa using h), List.append_nil]
      exact ⟨ent_turn, hi'⟩
  walk_at "stored"
  repeat walk_at "w"
  with_reducible refine' w_assignComp [("numbers", L + 1)] ?_ (by kernel_rfl) (by kernel_rfl) (fun _ => by kernel_rfl) (by kernel_rfl) (by kernel_rfl) (by kernel_rfl)
  repeat walk_at "w"
  refine w_len (xs := xs) (by walk_at "mem") (show xs.length ≤ 16777216 by walk_at "om") fun _ => ?_
  repeat walk_at "w"
  refine w_range2 fun rg => ?_
  refine w_iterR (.head _) (by walk_at "om") (small_ok (by walk_at "om")) fun it => ?_
  rw [hxl1]
  refine compI itrR (fun j us => Nats us ((List.range' 1 j).filter fun k => decide (ys.getD k 0 < ys.getD (k - 1) 0))) (show ys.length - 1 ≤ 16777216 by walk_at "om") (fun j ys C D => trivial) Nats.nil (fun C D' j hj v hv us hl hi' => ?_) fun fallsA usfalls hl hifalls => ?_
  · obtain ⟨t, rfl⟩ := hv
    have e1 : (1 : Int) + (j : Int) = ((1 + j : Nat) : Int) := by walk_at "om"
    rw [e1]
    obtain ⟨ta, ga⟩ := hi.at (j := 1 + j) (List.getElem?_eq_getElem (by walk_at "om"))
    obtain ⟨tb, gb⟩ := hi.at (j := j) (List.getElem?_eq_getElem (by walk_at "om"))
    have da : ys.getD (1 + j) 0 = ys[1 + j] := (List.getElem_eq_getD 0).symm
    have db : ys.getD (1 + j - 1) 0 = ys[j] := by rw [show 1 + j - 1 = j by walk_at "om"]; exact (List.getElem_eq_getD 0).symm
    refine w_tests1 ?_
    repeat walk_at "w"
    refine w_itemL (xs := vs) (by walk_at "mem") rfl ga (show vs.length ≤ 16777216 by walk_at "om") ?_ (by kernel_rfl)
    repeat walk_at "w"
    refine w_itemL (xs := vs) (by walk_at "mem") (show ((1 + j : Nat) : Int) - 1 = (j : Int) by walk_at "om") gb (show vs.length ≤ 16777216 by walk_at "om") ?_ (by kernel_rfl)
    repeat walk_at "w"
    have hsn : (List.range' 1 (j + 1)).filter (fun k => decide (ys.getD k 0 < ys.getD (k - 1) 0)) = (List.range' 1 j).filter (fun k => decide (ys.getD k 0 < ys.getD (k - 1) 0)) ++ (if decide (ys.getD (1 + j) 0 < ys.getD ((1 + j) - 1) 0) then [1 + j] else []) := by
      rw [List.range'_1_concat, List.filter_append]
      congr 1
      simp only [List.filter_cons, List.filter_nil]
    rw [hsn, da, db]
    refine ifB (fun h => ?_) fun h => ?_
    · rw [if_pos (by simpa using h)]
      repeat walk_at "w"
      exact ⟨ent_turn, hi'.snoc rfl⟩
    · rw [if_neg (by simpa using h), List.append_nil]
      exact ⟨ent_turn, hi'⟩
  walk_at "stored"
  have er : (List.map (fun n : Nat => (n : Int)) (rises ys)).sum = (((rises ys).sum : Nat) : Int) := sum_cast _
  have hrest : (P - (List.map (fun n : Nat => (n : Int)) (rises ys)).sum).fmod ((xs.length : Int) + 1) = ((restN ys P : Nat) : Int) := by
    rw [er, hxl]
    unfold restN
    rw [Int.toNat_of_nonneg (Int.fmod_nonneg_of_pos _ (by walk_at "om"))]
  have hrl : usrises.length = (rises ys).length := hirises.length
  repeat walk_at "w"
  refine w_sum (xs := usrises) (by walk_at "mem") hirises fun _ => ?_
  repeat walk_at "w"
  refine w_len (xs := xs) (by walk_at "mem") (show xs.length ≤ 16777216 by walk_at "om") fun _ => ?_
  repeat walk_at "w"
  refine w_mod (by walk_at "om") fun trest => ?_
  rw [show (P - (List.map (fun n : Nat => (n : Int)) (List.filter (fun k => decide (ys.getD (k - 1) 0 ≤ ys.getD k 0)) (List.range' 1 (ys.length - 1)))).sum).fmod ((xs.length : Int) + 1) = ((restN ys P : Nat) : Int) from hrest]
  iterate 3 walk_at "w"
  refine W.mono (Q := fun f c => f = .next ∧ ∃ (tw t2 : Tok) (bl : Addr) (bv : List Value), Nats bv (bnds ys P) ∧ Ent c ((L, NsL [("row", .ref row), ("total", .int Tt tt), ("which", .int ((whichN ys P : Nat) : Int) t2), ("bounds", .ref bl)]) ::
      (L + 2, CellV (.int (wayI ys P) tw)) :: (L + 1, CellV (.ref D)) :: (bl, LsL bv) :: (D, LsL vs) :: (row, LsL xs) :: (d ++ T))) ?_ fun f c h => ?_
  · repeat walk_at "w"
    refine w_len (xs := usrises) (by walk_at "mem") (show usrises.length ≤ 16777216 by walk_at "om") fun _ => ?_
    repeat walk_at "w"
    refine ifB (fun h => ?_) fun h => ?_
    · have hup : wayUp ys P = true := by unfold wayUp; simp only [decide_eq_true_eq] at h ⊢; walk_at "om"
      have h2 : (rises ys).length < restN ys P := by simpa [wayUp] using hup
      have ew : (((restN ys P : Nat) : Int) - (usrises.length : Int) - 1 = ((whichN ys P : Nat) : Int)) := by
        unfold whichN; rw [hup, if_pos rfl]; walk_at "om"
      have hb : bnds ys P = 0 :: (falls ys ++ [ys.length]) := by unfold bnds; rw [hup, if_pos rfl]
      have hwy : wayI ys P = 1 := by unfold wayI; rw [hup, if_pos rfl]
      rw [hwy]
      repeat walk_at "w"
      refine w_len (xs := usrises) (by walk_at "mem") (show usrises.length ≤ 16777216 by walk_at "om") fun _ => ?_
      repeat walk_at "w"
      refine ⟨of_decide_eq_true (by kernel_rfl), fun a0 => ?_⟩
      repeat walk_at "w"
      refine w_addL (ys := usfalls) (.head _) (by walk_at "mem") (show 1 + usfalls.length ≤ 16777216 by walk_at "om") fun a1 => ?_
      repeat walk_at "w"
      refine w_len (xs := xs) (by walk_at "mem") (show xs.length ≤ 16777216 by walk_at "om") fun _ => ?_
      repeat walk_at "w"
      refine ⟨of_decide_eq_true (by kernel_rfl), fun a2 => ?_⟩
      repeat walk_at "w"
      refine w_addL (.tail _ (.head _)) (.head _) (by simp only [List.length_append, List.length_cons, List.length_nil]; exact (show _ ≤ 16777216 by walk_at "om")) fun a3 => ?_
      repeat walk_at "w"
      refine' ⟨rfl, _, _, a3, _, ?n1, ?n2⟩
      case n2 =>
        rw [ew]
        refine' Ent.trans (Lay.ent (t := (L, NsL _) :: (L + 2, CellV (.int 1 _)) :: (L + 1, CellV (.ref D)) :: (a3, LsL _) :: (D, LsL vs) :: (row, LsL xs) :: (d ++ T)) ?lay) (ent_ns ?sub)
        case lay => walk_at "lay"
        case sub => walk_at "subs"
      case n1 =>
        rw [hb]
        exact Nats.cons rfl (Nats.append hifalls (Nats.cons (n := ys.length) (by walk_at "om") Nats.nil))
    · have hup : wayUp ys P = false := by unfold wayUp; simp only [decide_eq_false_iff_not] at h ⊢; walk_at "om"
      have h2 : restN ys P ≤ (rises ys).length := by simpa [wayUp] using hup
      have ew : ((usrises.length : Int) - ((restN ys P : Nat) : Int) = ((whichN ys P : Nat) : Int)) := by
        unfold whichN; rw [hup, if_neg (by simp)]; walk_at "om"
      have hb : bnds ys P = 0 :: (rises ys ++ [ys.length]) := by unfold bnds; rw [hup, if_neg (by simp)]
      have hwy : wayI ys P = -1 := by unfold wayI; rw [hup, if_neg (by simp)]
      rw [hwy]
      repeat walk_at "w"
      refine w_len (xs := usrises) (by walk_at "mem") (show usrises.length ≤ 16777216 by walk_at "om") fun _ => ?_
      repeat walk_at "w"
      refine ⟨of_decide_eq_true (by kernel_rfl), fun a0 => ?_⟩
      repeat walk_at "w"
      refine w_addL (ys := usrises) (.head _) (by walk_at "mem") (show 1 + usrises.length ≤ 16777216 by walk_at "om") fun a1 => ?_
      repeat walk_at "w"
      refine w_len (xs := xs) (by walk_at "mem") (show xs.length ≤ 16777216 by walk_at "om") fun _ => ?_
      repeat walk_at "w"
      refine ⟨of_decide_eq_true (by kernel_rfl), fun a2 => ?_⟩
      repeat walk_at "w"
      refine w_addL (.tail _ (.head _)) (.head _) (by simp only [List.length_append, List.length_cons, List.length_nil]; exact (show _ ≤ 16777216 by walk_at "om")) fun a3 => ?_
      repeat walk_at "w"
      refine' ⟨rfl, _, _, a3, _, ?n1, ?n2⟩
      case n2 =>
        rw [ew]
        refine' Ent.trans (Lay.ent (t := (L, NsL _) :: (L + 2, CellV (.int (-1) _)) :: (L + 1, CellV (.ref D)) :: (a3, LsL _) :: (D, LsL vs) :: (row, LsL xs) :: (d ++ T)) ?lay) (ent_ns ?sub)
        case lay => walk_at "lay"
        case sub => walk_at "subs"
      case n1 =>
        rw [hb]
        exact Nats.cons rfl (Nats.append hirises (Nats.cons (n := ys.length) (by walk_at "om") Nats.nil))
  obtain ⟨rfl, tw, t2, bl, bv, hbv, he⟩ := h
  refine w_next (W.weak he ?_)
  exact c_putT hS (by walk_at "om") hx hys hv hn hT hlost hw hle hhi hcnt hi hbv q
end
end
section
/-- a dict's entries, all of them -/
noncomputable def EnL : List DictEntry → List (Str × Value) → Prop
  | [], [] => True
  | e :: es, p :: l => (∃ h t, e = ⟨h, .str p.1 t, p.2⟩) ∧ EnL es l
  | _, _ => False
/-- an object's names, all of them -/
noncomputable def DcL (l : List (Str × Value)) (o : Obj) : Prop := ∃ es n, o = dictOf es n ∧ EnL es l
noncomputable def putV (x : Str) (v : Value) : List (Str × Value) → List (Str × Value)
  | [] => [(x, v)]
  | p :: r => match p.1 == x with
    | true => (p.1, v) :: r
    | false => p :: putV x v r
inductive ASet (x : Str) (v : Value) : List (Str × Value) → List (Str × Value) → Prop where
  | new : ASet x v [] [(x, v)]
  | here {u : Value} {r : List (Str × Value)} : ASet x v ((x, u) :: r) ((x, v) :: r)
  | tail {y : Str} {u : Value} {r r' : List (Str × Value)} : (y == x) = false → ASet x v r r' → ASet x v ((y, u) :: r) ((y, u) :: r')
theorem ASet.put {x : Str} {v : Value} : ∀ {l l' : List (Str × Value)}, ASet x v l l' → putV x v l = l'
  | _, _, .new => rfl
  | _, _, .here => by unfold putV; simp
  | _, _, .tail h p => by unfold putV; rw [h]; exact congrArg _ p.put
theorem EnL.len : ∀ {es : List DictEntry} {l : List (Str × Value)}, EnL es l → es.length = l.length
  | [], [], _ => rfl
  | _ :: _, _ :: _, h => by rw [List.length_cons, List.length_cons, h.2.len]
  | [], _ :: _, h => h.elim
  | _ :: _, [], h => h.elim
theorem EnL.get (name : Str) : ∀ {es : List DictEntry} {l : List (Str × Value)}, EnL es l → (match es.find? (·.key.isStr name) with | some e => some (some e.val) | none => if es.any (·.refKey) then none else some none) = some (l.lookup name)
  | [], [], _ => rfl
  | e :: es, (x, v) :: l, h => by
    obtain ⟨⟨hh, t, rfl⟩, h⟩ := h
    have ih := EnL.get name h
    rw [List.find?_cons, List.any_cons, List.lookup_cons]
    have r : DictEntry.refKey ⟨hh, .str x t, v⟩ = false := rfl
    rw [r, Bool.false_or]
    show (match (match (x == name) with | true => some (⟨hh, .str x t, v⟩ : DictEntry) | false => es.find? (·.key.isStr name)) with | some e => some (some e.val) | none => if es.any (·.refKey) then none else some none) = _
    cases q : (x == name) with
    | true =>
      rw [show (name == x) = true by rw [beq_iff_eq] at q ⊢; exact q.symm]
    | false =>
      rw [show (name == x) = false by simp only [beq_eq_false_iff_ne] at q ⊢; exact fun h => q h.symm]
      exact ih
  | [], _ :: _, h => h.elim
  | _ :: _, [], h => h.elim
theorem EnL.put {name : Str} {v : Value} {hs : Int} {t : Tok} : ∀ {es : List DictEntry} {l : List (Str × Value)}, EnL es l → EnL (putL name hs (.str name t) v es) (putV name v l)
  | [], [], _ => ⟨⟨_, _, rfl⟩, trivial⟩
  | e :: es, (x, u) :: l, h => by
    obtain ⟨⟨hh, t', rfl⟩, h⟩ := h
    unfold putL putV
    show EnL (if (x == name) = true then _ else _) (match x == name with | true => _ | false => _)
    cases q : (x == name) with
    | true => exact ⟨⟨_, _, rfl⟩, h⟩
    | false => exact ⟨⟨_, _, rfl⟩, h.put⟩
  | [], _ :: _, h => h.elim
  | _ :: _, [], h => h.elim
theorem putV_len (x : Str) (v : Value) : ∀ l : List (Str × Value), (putV x v l).length ≤ l.length + 1
  | [] => Nat.le_refl _
  | p :: r => by
    unfold putV
    split
    · simp
    · have := putV_len x v r; simp only [List.length_cons]; walk_at "om"
theorem DcL.lookIn {l : List (Str × Value)} {o : Obj} (h : DcL l o) (name : Str) : lookIn name o = some (l.lookup name) := by
  obtain ⟨es, n, rfl, h⟩ := h
  exact h.get name
structure StatI (X : XX) (K : Frag) : Prop extends StatK X where
  kin : K.In X.g
  ga : findIn K (.ref 86) "__getattribute__" = some (some (.builtin "object.__getattribute__"))
  gt : findIn K (.ref 86) "__getattr__" = some none
  sa : findIn K (.ref 86) "__setattr__" = some (some (.builtin "object.__setattr__"))
  over : plainOver K 86 = true
  hasD : hasDictIn K 86 = true
  makes : makesIn K 86 = true
  call : specialIn K (.ref 86) "__call__" = some (some (.builtin "type.__call__"))
  init : findIn K (.ref 86) "__init__" = some (some (.ref 62))
  m69 : findIn K (.ref 86) "_read_char" = some (some (.ref 69))
  m76 : findIn K (.ref 86) "get_token" = some (some (.ref 76))
  m83 : findIn K (.ref 86) "push_token" = some (some (.ref 83))
  y62 : typeIn K (.ref 62) = some (.type "function")
  y69 : typeIn K (.ref 69) = some (.type "function")
  y76 : typeIn K (.ref 76) = some (.type "function")
  y83 : typeIn K (.ref 83) = some (.type "function")
  g69 : specialIn K (.ref 69) "__get__" = some (some (.builtin "function.__get__"))
  t69 : takesIn K (.ref 69) = some false
  n1 : findIn K (.ref 86) "lineno" = some none
  n2 : findIn K (.ref 86) "instream" = some none
  n3 : findIn K (.ref 86) "whitespace" = some none
  n4 : findIn K (.ref 86) "pushback" = some none
  n5 : findIn K (.ref 86) "read" = some none
section
variable {X : XX} {k : Nat} {cs cs' : List Cl} {env : Env} {K : Frag}
theorem inst_at {x dx : Addr} {l : List (Str × Value)} {h : Heap} (s : St X.g cs h) (hx : (x, (· = instObj 86 dx)) ∈ cs) (hd : (dx, DcL l) ∈ cs) : ∃ od, InstAt h x (instObj 86 dx) 86 (some od) ∧ h.get? dx = some od ∧ DcL l od := by
  obtain ⟨ox, hox, rfl⟩ := s.get hx
  obtain ⟨od, hod, hl⟩ := s.get hd
  exact ⟨od, ⟨hox, rfl, rfl, hod⟩, hod, hl⟩
theorem w_getA {x dx : Addr} {l : List (Str × Value)} {name : Str} {v : Value} {expr : Bool} {Q : Value → List Cl → Prop} (hI : StatI X K) (hx : (x, (· = instObj 86 dx)) ∈ cs) (hd : (dx, DcL l) ∈ cs) (hn : findIn K (.ref 86) name = some none) (hl : l.lookup name = some v) (hv : handedIn v = true) (q : Q v cs) :
    W X k (getAttr (.ref x) name expr) cs Q := .mk fun hp tk s => by
  obtain ⟨od, I, hod, hdl⟩ := inst_at s hx hd
  exact get_value (hI.kin.keeps s.keep) I hI.ga (findObj_own hI.hasD hn rfl (by rw [hdl.lookIn, hl])) hv (.mk s q)
theorem w_meth {x dx : Addr} {l : List (Str × Value)} {name : Str} {f : Addr} {pl : Sem Bool} {Q : Value × List Value → List Cl → Prop} (hI : StatI X K) (hx : (x, (· = instObj 86 dx)) ∈ cs) (hd : (dx, DcL l) ∈ cs) (hn : findIn K (.ref 86) name = some (some (.ref f))) (hy : typeIn K (.ref f) = some (.type "function"))
    (hl : l.lookup name = none) (q : Q (.ref f, [.ref x]) cs) : W X k (getMethod (.ref x) name pl) cs Q := .mk fun hp tk s => by
  obtain ⟨od, I, hod, hdl⟩ := inst_at s hx hd
  exact method_fn (hI.kin.keeps s.keep) I hI.ga hI.gt hn hy (by show (lookIn name od).map _ = _; rw [hdl.lookIn, hl]; rfl) (.mk s q)
/-- the method as an object -/
theorem w_bound {x dx f : Addr} {l : List (Str × Value)} {name : Str} {expr : Bool} {Q : Value → List Cl → Prop} (hI : StatI X K) (hx : (x, (· = instObj 86 dx)) ∈ cs) (hd : (dx, DcL l) ∈ cs) (hn : findIn K (.ref 86) name = some (some (.ref f))) (hy : typeIn K (.ref f) = some (.type "function"))
    (hg : specialIn K (.ref f) "__get__" = some (some (.builtin "function.__get__"))) (ht : takesIn K (.ref f) = some false) (hc : copiedNames.contains name = false) (hl : l.lookup name = none) (q : ∀ m, Q (.ref m) ((m, (· = methodObj (.ref f) (.ref x))) :: cs)) : W X k (getAttr (.ref x) name expr) cs Q := .mk fun hp tk s => by
  obtain ⟨od, I, hod, hdl⟩ := inst_at s hx hd
  exact get_bind (hI.kin.keeps s.keep) I hI.ga (findObj_fn hI.hasD hn hg ht hc (by rw [hdl.lookIn, hl])) hI.gt
    (wpAny_call (fn_get (s := { X.S hp tk with toks := tk + 1 }) (hI.kin.keeps s.keep) hy (handed_on rfl (XX.post.mk (tk := tk + 1) (s.push (P := (· = methodObj (.ref f) (.ref x))) rfl rfl) (q _)))))
/-- a name of an object set -/
theorem w_setA {x dx : Addr} {l l' : List (Str × Value)} {name : Str} {v : Value} {Q : Unit → List Cl → Prop} (hI : StatI X K) (hx : (x, (· = instObj 86 dx)) ∈ cs) (hn : findIn K (.ref 86) name = some none)
    (p : Put dx (DcL l) (DcL l') cs cs') (hl : ASet name v l l') (hz : decide (l.length ≤ 100) = true) (q : Q () cs') : W X k (setAttr (.ref x) name v) cs Q := .mk fun hp tk s => by
  replace hl := hl.put
  replace hz := of_decide_eq_true hz
  obtain ⟨od, I, hod, hdl⟩ := inst_at s hx p.mem
  have hK := hI.kin.keeps s.keep
  obtain ⟨es, n, rfl, hen⟩ := hdl
  refine set_plain (s := X.S hp tk) hK I hI.sa ?_
  refine osa_open (s := X.S hp (tk + 1)) (r := none) hK I hI.over (by unfold takerIn; rw [hn]; rfl) fun b => ?_
  obtain ⟨cd, hc, hd'⟩ := any_some hI.hasD
  obtain ⟨hxx, -, -, -⟩ := I
  refine wpAny_bind (wpAny_pure (wpAny_bind (wpAny_bind (wpAny_loadPart hxx (wpAny_bind ((looks_clsIn hK hc).here ?_))))))
  rw [hd']
  refine wpAny_pure (a := some dx) (wpAny_bind (wpAny_pure (wpAny_bind ?_)))
  unfold nsSet
  refine wpAny_bind (wpAny_bind (wpAny_askSetting (wpAny_pure (wpAny_bind (wpAny_mkText (wpAny_bind (wpAny_loadPart hod ?_)))))))
  have hen' := hen.get name
  have c : aRefKeyMayBeTheName name es.toArray = false := by
    rw [aRefKeyMayBeTheName_at, ← Array.any_toList, ← Array.any_toList]
    split at hen'
    · rename_i en he
      rw [List.any_eq_true.mpr ⟨en, List.mem_of_find?_eq_some he, List.find?_some he⟩]; rfl
    · split at hen'
      · cases hen'
      · rename_i z; rw [Bool.not_eq_true] at z; rw [z, Bool.and_false]
  have e : Obj.putName name (PyData.keyHash X.w.params name) (.str name (tk + 1)) v (dictOf es n) = dictOf (putL name (PyData.keyHash X.w.params name) (.str name (tk + 1)) v es) (putN name es n) := putName_dict ..
  have D' : (hp.update dx (Obj.putName name (PyData.keyHash X.w.params name) (.str name (tk + 1)) v)).get? dx = some (dictOf (putL name (PyData.keyHash X.w.params name) (.str name (tk + 1)) v es) (putN name es n)) := by
    rw [← e]
    exact Heap.get?_update_self _ hod (by rw [e]; rfl)
  have hle := putV_len name v l
  have hE : EnL (putL name (PyData.keyHash X.w.params name) (.str name (tk + 1)) v es) l' := hl ▸ hen.put
  have hlen := hE.len
  dsimp only
  rw [c]
  refine wpAny_updatePart hod ?_
  refine wpAny_bind (wpAny_lookBehind D' (pastItsLine_dict (by rw [List.size_toArray, sizeLine_eq]; rw [hl] at hle; walk_at "om")) ?_)
  have st : St X.g cs' (hp.update dx (Obj.putName name (PyData.keyHash X.w.params name) (.str name (tk + 1)) v)) := s.putB p (Heap.SameBut.update ..) ⟨_, D', _, _, rfl, hE⟩
  exact wpAny_pure (show X.post Q () (X.S _ (tk + 1 + 1)) from .mk st q)
end
end
section
-- facts of the type
theorem slot_ci_next : Slot "callable_iterator" "__next__" "callable_iterator.__next__" := .of (owner := "callable_iterator") (n := "__next__") (by rw [typeLookup_type, builtinLookup_eq_fast]; kernel_rfl) (by decide +kernel) (by decide +kernel) (by decide +kernel)
  (by first | exact .inl (by decide +kernel) | exact .inr (by decide +kernel)) (by rw [isSubtype_type]; kernel_rfl)
theorem slot_ci_iter : Slot "callable_iterator" "__iter__" "callable_iterator.__iter__" := .of (owner := "callable_iterator") (n := "__iter__") (by rw [typeLookup_type, builtinLookup_eq_fast]; kernel_rfl) (by decide +kernel) (by decide +kernel) (by decide +kernel)
  (by first | exact .inl (by decide +kernel) | exact .inr (by decide +kernel)) (by rw [isSubtype_type]; kernel_rfl)
theorem slot_me_call : Slot "method" "__call__" "method.__call__" := .of (owner := "method") (n := "__call__") (by rw [typeLookup_type, builtinLookup_eq_fast]; kernel_rfl) (by decide +kernel) (by decide +kernel) (by decide +kernel)
  (by first | exact .inl (by decide +kernel) | exact .inr (by decide +kernel)) (by rw [isSubtype_type]; kernel_rfl)
theorem entry_ci_next : entryFor table "callable_iterator.__next__" = some Builtin.«callable_iterator.__next__» := entryFor_of_tree (by kernel_rfl)
theorem entry_ci_iter : entryFor table "callable_iterator.__iter__" = some Builtin.«dict_keyiterator.__iter__» :=
  entryFor_alias (id' := "dict_keyiterator.__iter__") (by kernel_rfl) rfl (by decide +kernel) (by kernel_rfl)
theorem args_ci_next (a : Value) : argsOk "callable_iterator.__next__" ⟨[a], []⟩ := by unfold argsOk; kernel_rfl
theorem args_ci_iter (a : Value) : argsOk "callable_iterator.__iter__" ⟨[a], []⟩ := by unfold argsOk; kernel_rfl
theorem args_iter2 (a b : Value) : argsOk "iter" ⟨[a, b], []⟩ := by unfold argsOk; kernel_rfl
noncomputable abbrev noSign : Str := Str.ofString ""
noncomputable def CaI (m : Addr) (o : Obj) : Prop := o.cls = .type "callable_iterator" ∧ ∃ t, o.data = .fields #[.ref m, .str noSign t, .bool false]
noncomputable def CaE (o : Obj) : Prop := o.cls = .type "callable_iterator" ∧ o.data = .fields #[.none, .none, .bool true]
section
variable {X : XX} {k : Nat} {cs cs' : List Cl} {env : Env} {K : Frag}
theorem ciT {i m : Addr} (hm : (i, CaI m) ∈ cs) {h : Heap} {tk : Nat} (s : St X.g cs h) : (X.S h tk).TypeIs (.ref i) "callable_iterator" := by
  obtain ⟨o, ho, hc, _⟩ := s.get hm
  exact ⟨o, ho, hc⟩
theorem ceT {i : Addr} (hm : (i, CaE) ∈ cs) {h : Heap} {tk : Nat} (s : St X.g cs h) : (X.S h tk).TypeIs (.ref i) "callable_iterator" := by
  obtain ⟨o, ho, hc, _⟩ := s.get hm
  exact ⟨o, ho, hc⟩
theorem w_iterC {m x f : Addr} {t : Tok} {Q : Value → List Cl → Prop} (hm : (m, (· = methodObj (.ref f) (.ref x))) ∈ cs) (q : ∀ i, Q (.ref i) ((i, CaI m) :: cs)) : W X k (call (.builtin "iter") [.ref m, .str noSign t]) cs Q := .mk fun hp tk s => by
  obtain ⟨om, hom, rfl⟩ := s.get hm
  refine call_function_entry (by decide +kernel) (by decide +kernel) kdk_entry_iter (args_iter2 _ _) ?_
  unfold Builtin.«iter»
  refine wpAny_bind (m := someArgs "iter" 1 2 _) (wpAny_of_eq (a := [Value.ref m, .str noSign t]) (by first | rfl | kernel_rfl!) ?_)
  dsimp only
  refine wpAny_bind (wpAny_specialOf (name := Str.ofString "__call__") (T := "method") ⟨_, hom, rfl⟩ slot_me_call.lookup ?_)
  refine wpAny_ite_split (fun hab => absurd hab (by decide)) (fun _ => ?_)
  refine wpAny_bind (wpAny_rule (wpAny_bind (wpAny_newObj_type ?_ (by size_fits))))
  exact wpAny_pure ⟨_, rfl, .mk (s.push (P := CaI m) rfl ⟨rfl, _, rfl⟩) (q _)⟩
theorem w_pyIterC {i m : Addr} {Q : Value → List Cl → Prop} (hm : (i, CaI m) ∈ cs) (q : Q (.ref i) cs) : W X k (pyIter (.ref i)) cs Q := .mk fun hp tk s => by
  have hT := ciT hm (tk := tk) s
  refine wpAny_pyIter_slot hT slot_ci_iter (wpAny_call_entry slot_ci_iter hT entry_ci_iter ?_ (args_ci_iter _))
  show wpAny _ _ (ret (.ref i)) _ _ _
  exact wpAny_pure ⟨_, rfl, "callable_iterator", _, hT, slot_ci_next.lookup, .mk s q⟩
theorem stop_go {α : Type} {A : Around} {Q : Option Value → Shared → Prop} {s : Shared} {prog : Program} {w : World} (hh : A.handled = none) (hQ : ∀ h', (∀ b o, s.heap.get? b = some o → h'.get? b = some o) → Q none { s with heap := h' }) :
    wpAny (model prog w) A.in1 (Builtin.SmallTypes.stopIteration : Sem α) (fun _ _ => False)
      (fun e s' => wpAny (model prog w) A (do if ← isInstance e (.type "StopIteration") then pure none else throw e) Q NoE s') s := by
  show wpAny _ _ (newExc (.type "StopIteration") [] >>= _) _ _ _
  refine wpAny_bind ?_
  simp only [newExc, newTuple]
  refine wpAny_bind (wpAny_newObj_type ?_ (by size_fits))
  refine wpAny_bind (m := firstArgMember _ _) (wpAny_of_eq (a := Value.none) (by first | rfl | (simp only [firstArgMember]; rfl)) ?_)
  refine wpAny_newObj_type ?_ (by size_fits)
  simp only [raiseNew]
  refine wpAny_bind (wpAny_handled ?_)
  rw [show A.in1.handled = none from hh]
  refine wpAny_bind (wpAny_pure (wpAny_throw ?_))
  refine wpAny_bind (wpAny_isInstance (T := "StopIteration") (b := true) ⟨_, Heap.get?_push_size _ rfl, rfl⟩ isSubtype_stop ?_)
  exact wpAny_pure (hQ _ fun b o e => Heap.get?_push_of_some _ (Heap.get?_push_of_some _ e))
/-- the end is over -/
theorem w_pyNextE {i : Addr} {Q : Option Value → List Cl → Prop} (hm : (i, CaE) ∈ cs) (q : Q none cs) : W X k (pyNext (.ref i)) cs Q := .mk fun hp tk s => by
  have hT := ceT hm (tk := tk) s
  obtain ⟨o, ho, hc, hd⟩ := s.get hm
  unfold pyNext
  refine wpAny_bind (wpAny_attempt (wpAny_callSpecial?_slot (name := Str.ofString "__next__") hT slot_ci_next
    (wpAny_call_entry slot_ci_next hT entry_ci_next ?_ (args_ci_next _))))
  show wpAny _ _ (field (.ref i) 2 >>= _) _ _ _
  refine wpAny_bind (wpAny_field ho hd (x := .bool true) rfl ?_)
  show wpAny _ _ (if (Value.bool true == Value.bool true) = true then _ else _) _ _ _
  rw [if_pos (by decide)]
  refine wpAny_bind (wpAny_rule ?_)
  exact wpAny_bind (wpAny_mono (stop_go (A := AL k) (Q := X.post Q) rfl fun h' hk => .mk (s.grow hk) q) (fun _ _ h => h.elim) (fun _ _ h => h))
theorem wpAny_callBorrowed {M : Model} {A : Around} {E : Value → Shared → Prop} {s : Shared} {f : Value} {pos : List Value} {Q : Value → Shared → Prop}
    (hc : codeAny M A (.call f ⟨pos, []⟩) (fun r s' => match r with | .ok (.ret v) => Q v s' | .ok _ => False | .error e => E e s') s) : wpAny M A (callBorrowed f pos) Q E s := fun Γ p hΓ => by
  unfold callBorrowed
  rw [Sem.wp_call]
  refine wpCode_mono (fun r s' h => ?_) (hc _ p rfl (hΓ.enter (.call f ⟨pos, []⟩) none p (by intro x; cases x)))
  rcases r with e | (v | _ | _ | _) <;> exact h
/-- one turn -/
theorem w_pyNextC {i m x f : Addr} {Q : Option Value → List Cl → Prop} {of : Obj} {fd : FuncData} (hm : (i, CaI m) ∈ cs) (hmm : (m, (· = methodObj (.ref f) (.ref x))) ∈ cs) (hf : X.g.get? f = some of) (hfd : of.data = .func fd) (hk : k < 60)
    (h : WC X (k + 1) (.call (.ref f) ⟨[.ref x], []⟩) cs (fun fl c => ∃ v, fl = .ret v ∧ (i, CaI m) ∈ c ∧ (m, (· = methodObj (.ref f) (.ref x))) ∈ c ∧ ∃ y t, v = .str y t ∧ (y ≠ noSign → Q (some v) c) ∧ (y = noSign → ∃ c', Put i (CaI m) CaE c c' ∧ Q none c'))) : W X k (pyNext (.ref i)) cs Q := .mk fun hp tk s => by
  have hT := ciT hm (tk := tk) s
  obtain ⟨o, ho, hc, t₀, hd⟩ := s.get hm
  obtain ⟨om, hom, rfl⟩ := s.get hmm
  unfold pyNext
  refine wpAny_bind (wpAny_attempt (wpAny_callSpecial?_slot (name := Str.ofString "__next__") hT slot_ci_next
    (wpAny_call_entry slot_ci_next hT entry_ci_next ?_ (args_ci_next _))))
  show wpAny _ _ (field (.ref i) 2 >>= _) _ _ _
  refine wpAny_bind (wpAny_field ho hd (x := .bool false) rfl ?_)
  show wpAny _ _ (if (Value.bool false == Value.bool true) = true then _ else _) _ _ _
  rw [if_neg (by decide)]
  show wpAny _ _ (field (.ref i) 0 >>= _) _ _ _
  refine wpAny_bind (wpAny_field ho hd (x := .ref m) rfl ?_)
  have borrows : ∀ {A : Around} {E : Value → Shared → Prop} {Q : Bool → Shared → Prop} {c : List Cl} {h' : Heap} {tk' : Nat}, St X.g c h' → (m, (· = methodObj (.ref f) (.ref x))) ∈ c → Q true (X.S h' tk') → wpAny (MM X.w) A (borrowsExactly (.ref m)) Q E (X.S h' tk') := by
    intro A E Q c h' tk' s' hm' hq
    obtain ⟨om', hom', rfl⟩ := s'.get hm'
    unfold borrowsExactly
    dsimp only
    refine wpAny_bind (wpAny_load hom' ?_)
    dsimp only
    rw [if_pos (by decide)]
    show wpAny _ _ ((load f) >>= _) _ _ _
    refine wpAny_bind (wpAny_load (s'.keep _ _ hf) ?_)
    rw [hfd]
    exact wpAny_pure hq
  refine wpAny_bind (wpAny_attempt ?_)
  unfold callOutOfASlot
  refine wpAny_bind (borrows s hmm ?_)
  rw [if_pos rfl]
  refine wpAny_callBorrowed (ks_codeAny_call_bound hom ?_)
  refine code_up (k := k + 1) rfl (by simp only [Around.in1, AL]; walk_at "om") (by simp only [Around.in1, AL]; walk_at "om") ?_
  refine codeAny_mono (h.run hp tk s) fun r s' z => ?_
  cases r with
  | error e => exact z.elim
  | ok fl =>
  obtain ⟨c, h', tk', rfl, s', v, rfl, hi, hmm', y, t, rfl, z1, z2⟩ := z
  obtain ⟨o', ho', hc', t₁, hd'⟩ := s'.get hi
  show wpAny _ _ (field (.ref i) 2 >>= _) _ _ _
  refine wpAny_bind (wpAny_field ho' hd' (x := .bool false) rfl ?_)
  show wpAny _ _ (if (Value.bool false == Value.bool true) = true then _ else _) _ _ _
  rw [if_neg (by decide)]
  refine wpAny_bind (wpAny_field ho' hd' (x := .str noSign t₁) rfl (wpAny_bind (wpAny_holding (eqBool_str ?_))))
  by_cases hy : y = noSign
  · obtain ⟨c', hp', q⟩ := z2 hy
    rw [hy]
    show wpAny _ _ (if (!(noSign == noSign)) = true then _ else _) _ _ _
    rw [if_neg (by simp)]
    refine wpAny_bind (wpAny_rule ?_)
    have hi₀ : i < h'.objs.size := s'.lt hi
    refine wpAny_bind (wpAny_bind ?_)
    refine wpAny_field ho' hd' (x := .ref m) rfl ?_
    refine wpAny_bind ?_
    unfold slotLetsGo
    dsimp only
    refine wpAny_bind (borrows s' hmm' ?_)
    rw [if_pos rfl]
    refine wpAny_pure ?_
    refine wpAny_bind (wpAny_setField ho' hd' (by simp) ?_)
    have f1 := Heap.get?_update_self (Obj.mapFields (·.setIfInBounds 0 .none)) ho' (Obj.isFreed_of_fields (Obj.data_mapFields hd' _))
    have d1 := Obj.data_mapFields hd' (·.setIfInBounds 0 .none)
    refine wpAny_bind (wpAny_setField f1 d1 (by simp) ?_)
    have f2 := Heap.get?_update_self (Obj.mapFields (·.setIfInBounds 1 .none)) f1 (Obj.isFreed_of_fields (Obj.data_mapFields d1 _))
    have d2 := Obj.data_mapFields d1 (·.setIfInBounds 1 .none)
    refine wpAny_setField f2 d2 (by simp) ?_
    have f3 := Heap.get?_update_self (Obj.mapFields (·.setIfInBounds 2 (.bool true))) f2 (Obj.isFreed_of_fields (Obj.data_mapFields d2 _))
    have d3 := Obj.data_mapFields d2 (·.setIfInBounds 2 (.bool true))
    have sb := ((Heap.SameBut.update h' i (Obj.mapFields (·.setIfInBounds 0 .none))).trans (Heap.SameBut.update _ i (Obj.mapFields (·.setIfInBounds 1 .none)))).trans (Heap.SameBut.update _ i (Obj.mapFields (·.setIfInBounds 2 (.bool true))))
    have st : St X.g c' _ := s'.putB hp' sb ⟨_, f3, by rw [Obj.cls_mapFields, Obj.cls_mapFields, Obj.cls_mapFields]; exact hc', by rw [d3]; simp⟩
    exact wpAny_mono (stop_go (A := AL k) (Q := X.post Q) rfl fun h'' hk => .mk (st.grow hk) q) (fun _ _ h => h.elim) (fun _ _ h => h)
  · have q := z1 hy
    show wpAny _ _ (if (!(noSign == y)) = true then _ else _) _ _ _
    rw [if_pos (by simpa using fun z => hy z.symm)]
    exact wpAny_bind (wpAny_pure (wpAny_pure ⟨_, rfl, wpAny_pure (.mk s' q)⟩))
end
end
section
section
variable {X : XX} {k : Nat} {cs cs' : List Cl} {env : Env} {K : Frag}
theorem w_attr {x : Str} {xp : Pos} {attr : Str} {pos : Pos} {Q : Value → List Cl → Prop} (h : W X k (eval (.Name x xp) env) cs (fun v c => W X k (getAttr v attr true) c Q)) : W X k (eval (.Attribute (.Name x xp) attr pos) env) cs Q := .mk fun hp tk s => by
  rw [arm_eval_Attribute]
  refine wpAny_bind ?_
  show wpAny _ _ (eval (.Name x xp) env) _ _ _
  refine h.chain (fun v c h₁ t₁ s₁ y => ?_) s
  refine wpAny_bind (wpAny_standAt (wpAny_bind (wpAny_holding ?_)))
  refine y.chain (fun r c h₂ t₂ s₂ z => ?_) s₁
  exact wpAny_bind (wpAny_letTemporaryGo (wpAny_pure (.mk s₂ z)))
theorem w_assignA {o : Expr} {attr : Str} {pos' pos : Pos} {value : Expr} {Q : Flow → List Cl → Prop} (h : W X k (eval value env) cs (fun v c => W X k (eval o env) c (fun ov c => W X k (setAttr ov attr v) c (fun _ => Q .next))))
    (hs : swapsWith value (some (.Attribute o attr pos')) pos.line env = pure false) : W X k (exec (.Assign [.Attribute o attr pos'] value pos) env) cs Q := .mk fun hp tk s =>
  plainObj_wpAny_Assign_Attribute (h.chain (fun _ _ _ _ s x => x.chain (fun _ _ _ _ s x => x.chain (fun _ _ _ _ s x => .mk s x) s) s) s) hs
theorem w_cont {pos : Pos} {Q : Flow → List Cl → Prop} (q : Q .cont cs) : W X k (exec (.Continue pos) env) cs Q := .mk fun hp tk s => wpAny_Continue (.mk s q)
theorem w_methV {x dx : Addr} {l : List (Str × Value)} {name : Str} {v : Value} {pl : Sem Bool} {Q : Value × List Value → List Cl → Prop} (hI : StatI X K) (hx : (x, (· = instObj 86 dx)) ∈ cs) (hd : (dx, DcL l) ∈ cs) (hn : findIn K (.ref 86) name = some none) (hl : l.lookup name = some v) (hv : handedIn v = true) (q : Q (v, []) cs) :
    W X k (getMethod (.ref x) name pl) cs Q := .mk fun hp tk s => by
  obtain ⟨od, I, hod, hdl⟩ := inst_at s hx hd
  exact method_usual (hI.kin.keeps s.keep) I hI.ga hI.gt hn rfl (get_value (hI.kin.keeps s.keep) I hI.ga (findObj_own hI.hasD hn rfl (by rw [hdl.lookIn, hl])) hv (.mk s q))
theorem w_truthyL {l : Addr} {xs : List Value} {Q : Bool → List Cl → Prop} (hm : (l, LsL xs) ∈ cs) (hz : xs.length ≤ 100000) (q : Q (!xs.isEmpty) cs) : W X k (truthy (.ref l)) cs Q := .mk fun hp tk s => by
  refine wpAny_truthy_list (s.isList hm) (by rw [List.size_toArray]; walk_at "om") (.mk s ?_)
  rwa [List.isEmpty_toArray]
theorem Kp.cls (hI : StatI X K) : Kp X (.ref 86) cs := ⟨.machine, .inr (.inl rfl), fun h s => by
  obtain ⟨cd, hc, _⟩ := any_some hI.hasD
  unfold clsIn at hc
  split at hc
  · rename_i oc od cd' sl ho
    have hg := s.keep _ _ (hI.kin _ _ ho)
    unfold keeperOf
    refine (Looks.ld (part := none) hg).andThen ?_
    dsimp only
    refine (looks_specialIn (hI.kin.keeps s.keep) hI.call).andThen ?_
    rw [if_pos (by decide +kernel)]
    exact .now
  · cases hc⟩
noncomputable abbrev wsS : Str := "\n\t\r "
/-- an object made, its __init__ to be walked -/
theorem w_new (hI : StatI X K) (hk : k < 60) {fp : Value} {Q : Value → List Cl → Prop}
    (h : ∀ x dx, WC X (k + 1) (.call (.ref 62) ⟨[.ref x, fp], []⟩) ((x, (· = instObj 86 dx)) :: (dx, DcL []) :: cs) (fun fl c => fl = .ret .none ∧ Q (.ref x) c)) : W X k (call (.ref 86) [fp]) cs Q := .mk fun hp tk s => by
  have hK := hI.kin.keeps s.keep
  refine wpAny_call (make_core (makes_of hK hI.makes) (looks_findIn hK hI.init) (fun self => bind_fn hK self hI.y62) (.inl rfl) ?_)
  have s1 := (s.push (o := emptyDict) (P := DcL []) rfl ⟨[], 0, rfl, trivial⟩).push (o := instObj 86 hp.objs.size) (P := (· = instObj 86 hp.objs.size)) rfl rfl
  rw [Heap.size_push] at s1
  have hw : Code.weight (.builtin "type.__call__" ⟨[.ref 86, fp], []⟩) ≤ 9 := of_decide_eq_true (by kernel_rfl)
  have hu : Code.cUnits (.builtin "type.__call__" ⟨[.ref 86, fp], []⟩) ≤ 90 := of_decide_eq_true (by kernel_rfl)
  refine code_up (k := k + 1) rfl (by simp only [Around.under, AL]; walk_at "om") (by simp only [Around.under, AL]; walk_at "om") ?_
  refine codeAny_mono ((h _ _).run _ tk s1) fun r s' z => ?_
  cases r with
  | error e => exact z.elim
  | ok fl =>
    obtain ⟨c, h', tk', rfl, s', rfl, q⟩ := z
    exact ⟨rfl, .mk s' q⟩
end
end
section
noncomputable def valOf (s : Stmt) : Expr := match s with
  | .Assign _ v _ => v
  | _ => .Constant .none 0 default
noncomputable def lamPar (e : Expr) : Arguments := match e with
  | .Lambda a _ _ _ => a
  | _ => default
noncomputable def lamBody (e : Expr) : Expr := match e with
  | .Lambda _ b _ _ => b
  | _ => e
noncomputable def lamSc (e : Expr) : Scope := match e with
  | .Lambda _ _ s _ => s
  | _ => default
noncomputable def rLam : Expr := valOf ((bodyOf (stmtAt 12)).getD 2 (.Pass default))
noncomputable abbrev rQ : Str := "_law_lexer.<locals>.<lambda>"
noncomputable abbrev rObj (pm ctv : Value) (lc cw : Addr) : Obj := kla_obj "<lambda>" rQ (lamPar rLam) (lamBody rLam) (lamSc rLam) [("signs", cw)] pm lc ctv
noncomputable def Chars (vs : List Value) (r : List Nat) : Prop := Strs vs (r.map fun c => (⟨#[c]⟩ : Str))
theorem Chars.len {vs : List Value} {r : List Nat} (h : Chars vs r) : vs.length = r.length := by rw [Strs.length h, List.length_map]
theorem Chars.cons {v : Value} {vs : List Value} {c : Nat} {r : List Nat} (h : Chars (v :: vs) (c :: r)) : (∃ t, v = .str ⟨#[c]⟩ t) ∧ Chars vs r := by
  unfold Chars Strs at h
  simp only [List.map_cons, List.cons.injEq] at h
  exact ⟨sv_eq h.1, h.2⟩
/-- the lambda that reads, in the cells -/
noncomputable def ReadS (lam lc cw sg : Addr) (c : List Cl) : Prop := (∃ pm ctv, (lam, (· = rObj pm ctv lc cw)) ∈ c) ∧ (lc, CodeO rQ) ∈ c ∧ (cw, CellV (.ref sg)) ∈ c
theorem ReadS.mono {lam lc cw sg : Addr} {c c' : List Cl} (h : ReadS lam lc cw sg c) (hs : ∀ x ∈ c, x ∈ c') : ReadS lam lc cw sg c' := by
  obtain ⟨⟨pm, ctv, h1⟩, h2, h3⟩ := h
  exact ⟨⟨pm, ctv, hs _ h1⟩, hs _ h2, hs _ h3⟩
theorem ReadS.kp {X : XX} {lam lc cw sg : Addr} {c : List Cl} (h : ReadS lam lc cw sg c) : Kp X (.ref lam) c := by
  obtain ⟨⟨pm, ctv, h1⟩, h2, h3⟩ := h
  exact Kp.fn (o := rObj pm ctv lc cw) (fun hp s => by obtain ⟨o, ho, rfl⟩ := s.get h1; exact ho) rfl
section
variable {X : XX} {k : Nat} {cs cs' : List Cl} {env : Env} {K : Frag}
theorem w_evalEq {e e' : Expr} {Q : Value → List Cl → Prop} (he : e = e') (h : W X k (eval e' env) cs Q) : W X k (eval e env) cs Q := he ▸ h
theorem slice_upto (vs : List Value) (y : Nat) : slicePick vs.toArray none (some (y : Int)) none = (vs.take y).toArray := by
  rw [kms_pick_eq]
  unfold kms_pick kms_lo kms_hi
  have h : ¬ ((y : Int) < 0) := by walk_at "om"
  simp only [h, if_false, List.drop_zero, Nat.sub_zero, Int.toNat_natCast]
  rw [Nat.min_comm, List.take_eq_take_iff.mpr]
  simp [Nat.min_comm]
/-- read(1) -/
theorem c_read1 (hS : Stat X) (hk : k < 55) {lam lc cw sg : Addr} {vs : List Value} {r : List Nat} {t : Tok} (hR : ReadS lam lc cw sg cs) (hv : Chars vs r) (hz : r.length ≤ 100000)
    {Q : Value → List Cl → Prop} (q : ∀ t, Q (.str (strOf (r.take 1)) t) ((sg, LsL (vs.drop 1)) :: cs)) : W X k (call (.ref lam) [.int 1 t]) ((sg, LsL vs) :: cs) Q := by
  obtain ⟨⟨pm, ctv, h1⟩, h2, h3⟩ := hR
  have hlen := hv.len
  refine W.call (w_fnE (binds := [("size", .int 1 t)]) hS.lim (fun h s => by obtain ⟨o, ho, e⟩ := s.get (.tail _ h1); rw [e] at ho; exact ho) rfl (fun h s => by
      obtain ⟨o, ho, vs, t, hd, hv⟩ := s.get (.tail _ h2)
      exact ⟨lc, o, vs, t, rfl, ho, hd, hv⟩) (fun h tk s => BindsTo.of_eq (by kernel_rfl)) rfl (by kernel_rfl) (of_decide_eq_true (by kernel_rfl)) (by walk_at "om") fun L => ?_)
  have hcw : (cw, CellV (.ref sg)) ∈ (L, NsL [("size", .int 1 t)]) :: (sg, LsL vs) :: cs := .tail _ (.tail _ h3)
  refine w_evalEq (e' := .Call (.Attribute (.Constant _ _ _) _ _) [.ListComp _ _ _ _] _ _) rfl ?_
  repeat walk_at "w"
  with_reducible refine' w_comp [("signs", cw)] ?_ (by kernel_rfl) (fun _ => by kernel_rfl) (by kernel_rfl) (by kernel_rfl)
  repeat walk_at "w"
  refine w_slice (w_part0 (w_part1 ?_))
  repeat walk_at "w"
  refine w_part0 fun sl => ?_
  refine w_slP (xs := vs) (ys := vs.take 1) (by walk_at "mem") (.head _) .none (.int _ _) (by walk_at "om") (slice_upto vs 1) (fun sls => ?_) (by kernel_rfl)
  refine w_iterL (.head _) fun it => ?_
  refine compGo (itrL (l := sls) (xs := vs.take 1)) (fun j ys c => ys.length ≤ j ∧ j ≤ 1 ∧ Strs ys ((r.take j).map fun c => (⟨#[c]⟩ : Str)) ∧ Chars (vs.drop j) (r.drop j) ∧ c = (sls, LsL (vs.take 1)) :: (sl, SlO .none (.int 1 t) .none) :: (L, NsL [("size", .int 1 t)]) :: (sg, LsL (vs.drop j)) :: cs)
    (Nat.le_trans (List.length_take_le 1 vs) (by decide)) (fun j ys c h => h.1) (fun j ys c C D h => by rw [h.2.2.2.2]; walk_at "mem") ⟨Nat.zero_le _, by walk_at "om", Strs.nil, hv, rfl⟩ (fun C D j hj v hv' ys c h => ?_) fun D ys c h => ?_
  · obtain ⟨h1, h2, h3, h4, rfl⟩ := h
    have hj0 : j = 0 := by rw [List.length_take] at hj; walk_at "om"
    subst hj0
    have hl : 0 < vs.length := by rw [List.length_take] at hj; walk_at "om"
    cases vs with
    | nil => simp at hl
    | cons v₀ vs =>
    cases r with
    | nil => simp at hlen
    | cons c₀ r =>
    obtain ⟨⟨t₀, rfl⟩, hvr⟩ := Chars.cons hv
    refine w_tests0 ?_
    simp only [if_true]
    repeat walk_at "w"
    refine w_popAt (j := 0) rfl (y := .str ⟨#[c₀]⟩ t₀) rfl (by walk_at "put") (by simp only [List.length_cons, List.drop_zero] at hlen hz ⊢; exact (show _ ≤ 16777216 by walk_at "om")) ?_
    refine ⟨_, ent_turn, by simp only [List.length_append, List.length_singleton]; walk_at "om", by walk_at "om", ?_, hvr, rfl⟩
    exact Strs.snoc (ns := []) (by cases ys with | nil => rfl | cons a b => simp at h1)
  · obtain ⟨h1, h2, h3, h4, rfl⟩ := h
    have e1 : (vs.take 1).length = min 1 vs.length := List.length_take ..
    have e2 : vs.drop (vs.take 1).length = vs.drop 1 := by
      cases vs <;> rfl
    have e3 : r.take (vs.take 1).length = r.take 1 := by
      rw [e1, hlen]; cases r <;> simp
    rw [e3] at h3
    have e4 : catS ((r.take 1).map fun c => (⟨#[c]⟩ : Str)) = strOf (r.take 1) := catS_chars _
    repeat walk_at "w"
    refine w_join0 (.head _) h3 ?_ fun t' => ?_
    · rw [e4, strOf_len, List.length_take]; exact (show _ ≤ 16777216 by walk_at "om")
    · rw [e4, e2]
      exact ⟨_, Lay.ent (by walk_at "lay"), v_ret (q t')⟩
end
end
local macro_rules | `(tactic| walk_at "w") => `(tactic| first
  | (with_reducible refine' w_attr ?_)
  | ((with_reducible refine' w_getA (by assumption) ?x1 ?x2 ?x3 ?x4 ?x5 ?_); (case x1 => (repeat (first | exact List.Mem.head _ | assumption | refine' List.Mem.tail _ ?_))); (case x2 => (repeat (first | exact List.Mem.head _ | assumption | refine' List.Mem.tail _ ?_))); (case x3 => (with_reducible first | exact StatI.n1 (by assumption) | exact StatI.n2 (by assumption) | exact StatI.n3 (by assumption) | exact StatI.n4 (by assumption) | exact StatI.n5 (by assumption))); (case x4 => exact rfl); (case x5 => exact rfl))
  | ((with_reducible refine' w_setA (by assumption) ?x1 ?x3 ?x2 ?x4 ?x5 ?_); (case x1 => (repeat (first | exact List.Mem.head _ | assumption | refine' List.Mem.tail _ ?_))); (case x3 => (with_reducible first | exact StatI.n1 (by assumption) | exact StatI.n2 (by assumption) | exact StatI.n3 (by assumption) | exact StatI.n4 (by assumption) | exact StatI.n5 (by assumption))); (case x2 => (repeat (first | exact Put.head | apply Put.tail))); (case x4 => (with_reducible (repeat (first | exact ASet.here | exact ASet.new | (apply ASet.tail; kernel_rfl))))); (case x5 => kernel_rfl))
  | ((with_reducible refine' w_meth (by assumption) ?x1 ?x2 ?x3 ?x4 ?x5 ?_); (case x1 => (repeat (first | exact List.Mem.head _ | assumption | refine' List.Mem.tail _ ?_))); (case x2 => (repeat (first | exact List.Mem.head _ | assumption | refine' List.Mem.tail _ ?_))); (case x3 => with_reducible first | exact StatI.m69 (by assumption) | exact StatI.m76 (by assumption) | exact StatI.m83 (by assumption)); (case x4 => with_reducible first | exact StatI.y69 (by assumption) | exact StatI.y76 (by assumption) | exact StatI.y83 (by assumption)); (case x5 => exact rfl))
  | (with_reducible refine' w_assignA ?_ (by kernel_rfl))
  | (with_reducible refine' w_cont ?_)
  | (with_reducible refine' w_augA ?_))
section
section
variable {X : XX} {k : Nat} {cs cs' : List Cl} {env : Env} {K : Frag}
/-- a call of the text's def, as code -/
theorem w_defW {f : Addr} {s : Stmt} {qual : Str} {dV kV c : Value} {pos : List Value} {kw : List (Str × Value)} {binds : List (Str × Value)} {R : Flow → List Cl → Prop} (hS : Stat X) (hf : IsFn X f s qual dV kV c)
    (hbind : ∀ doc pm an ct h tk, St X.g cs h → BindsTo (X.S h tk) (fdOf s qual dV kV doc pm an c ct) ⟨pos, kw⟩ binds)
    (hsc : ((scOf s).names.all (fun x => x.2 != .cell), binds.all (fun x => (scOf s).names.lookup x.1 == some .local), (scOf s).isCoroutine, (scOf s).isGenerator, (scOf s).kind) = (true, true, false, false, .function))
    (hn : decide (binds.map Prod.fst).Nodup = true) (hk : k < 60)
    (h : ∀ L, W X (k + 1) (execs (bodyOf s) (ev (scOf s) qual L f c [])) ((L, NsL binds) :: cs) (fun fl c => ∃ c', Ent c c' ∧ R (.ret (retOf fl)) c')) : WC X k (.call (.ref f) ⟨pos, kw⟩) cs R := by
  obtain ⟨⟨doc, pm, an, ct, sl, e⟩, hcd⟩ := hf
  exact w_fn hS.lim (fun h s => s.keep _ _ e) rfl (fun h s => hcd.keeps s.keep) (hbind doc pm an ct) rfl hsc (of_decide_eq_true hn) hk h
/-- the names of an object -/
noncomputable abbrev lexL (n : Nat) (tn : Tok) (iv wv pv : Value) : List (Str × Value) := [("lineno", .int n tn), ("instream", iv), ("whitespace", wv), ("pushback", pv)]
/-- an object made -/
theorem c_new (hI : StatI X K) (hk : k < 50) {fp : Value} {Q : Value → List Cl → Prop} (q : ∀ x dx pb tn tw, Q (.ref x) ((pb, LsL []) :: (x, (· = instObj 86 dx)) :: (dx, DcL (lexL 1 tn fp (.str wsS tw) (.ref pb))) :: cs)) : W X k (call (.ref 86) [fp]) cs Q := by
  have hS := hI.toStat
  refine w_new hI (by walk_at "om") fun x dx => ?_
  with_reducible refine w_defW (binds := [("self", .ref x), ("fp", fp)]) hS hS.f62 (binds_of fun _ _ _ _ => by kernel_rfl) (by kernel_rfl) (by kernel_rfl) (by walk_at "om") fun L => ?_
  repeat walk_at "w"
  refine ⟨by decide, fun pb => ?_⟩
  repeat walk_at "w"
  exact ⟨(pb, LsL []) :: (x, (· = instObj 86 dx)) :: (dx, _) :: cs, Lay.ent (by walk_at "lay"), rfl, q x dx pb _ _⟩
noncomputable def nlc (r : List Nat) : Nat := if r.head? = some 10 then 1 else 0
structure LxA where
  (sg st dst lam lc cw lx dlx : Addr)
/-- what of a lexer stands -/
noncomputable def LexG (a : LxA) (c : List Cl) : Prop := ReadS a.lam a.lc a.cw a.sg c ∧ (a.st, (· = instObj 86 a.dst)) ∈ c ∧ (∃ v1 v2 v3 v4, (a.dst, DcL [("lineno", v1), ("instream", v2), ("whitespace", v3), ("pushback", v4), ("read", .ref a.lam)]) ∈ c) ∧ (a.lx, (· = instObj 86 a.dlx)) ∈ c
theorem LexG.mono {a : LxA} {c c' : List Cl} (h : LexG a c) (hs : ∀ x ∈ c, x ∈ c') : LexG a c' := by
  obtain ⟨h1, h2, ⟨v1, v2, v3, v4, h3⟩, h4⟩ := h
  exact ⟨h1.mono hs, hs _ h2, ⟨v1, v2, v3, v4, hs _ h3⟩, hs _ h4⟩
/-- _read_char -/
theorem c_readchar (hI : StatI X K) (hk : k < 50) {a : LxA} {vs : List Value} {r : List Nat} {n : Nat} {tn : Tok} {wv pv : Value} (hG : LexG a cs) (hv : Chars vs r) (hz : r.length ≤ 100000)
    {R : Flow → List Cl → Prop} (q : ∀ t tn', R (.ret (.str (strOf (r.take 1)) t)) ((a.sg, LsL (vs.drop 1)) :: (a.dlx, DcL (lexL (n + nlc r) tn' (.ref a.st) wv pv)) :: cs)) :
    WC X k (.call (.ref 69) ⟨[.ref a.lx], []⟩) ((a.sg, LsL vs) :: (a.dlx, DcL (lexL n tn (.ref a.st) wv pv)) :: cs) R := by
  have hS := hI.toStat
  obtain ⟨hR, h2, ⟨v1, v2, v3, v4, h3⟩, h4⟩ := hG
  with_reducible refine w_defW (binds := [("self", .ref a.lx)]) hS hS.f69 (binds_of fun _ _ _ _ => by kernel_rfl) (by kernel_rfl) (by kernel_rfl) (by walk_at "om") fun L => ?_
  repeat walk_at "w"
  refine w_methV hI (.tail _ (.tail _ (.tail _ h2))) (.tail _ (.tail _ (.tail _ h3))) hI.n5 rfl rfl ?_
  repeat walk_at "w"
  refine ⟨(hR.mono fun x hx => .tail _ (.tail _ (.tail _ hx))).kp, ?_⟩
  refine W.weak (Lay.ent (t := (a.sg, LsL vs) :: (L, NsL [("self", .ref a.lx)]) :: (a.dlx, DcL (lexL n tn (.ref a.st) wv pv)) :: cs) (by walk_at "lay")) ?_
  refine c_read1 hS (by walk_at "om") (hR.mono fun x hx => .tail _ (.tail _ hx)) hv hz fun t => ?_
  repeat walk_at "w"
  rw [show (strOf (r.take 1) == (Str.ofString "\n")) = decide (r.head? = some 10) from take_one_eq r 10]
  refine ifB (fun h => ?_) fun h => ?_
  · have h' := of_decide_eq_true h
    repeat walk_at "w"
    rw [show ((n : Int) + 1) = ((n + nlc r : Nat) : Int) by unfold nlc; rw [if_pos h']; walk_at "om"]
    exact w_back ⟨(a.sg, LsL (vs.drop 1)) :: (a.dlx, DcL _) :: cs, Lay.ent (by walk_at "lay"), q t _⟩
  · have h' := of_decide_eq_false h
    repeat walk_at "w"
    have q' := q t tn
    rw [show nlc r = 0 by unfold nlc; rw [if_neg h'], Nat.add_zero] at q'
    exact w_back ⟨(a.sg, LsL (vs.drop 1)) :: (a.dlx, DcL _) :: cs, Lay.ent (by walk_at "lay"), q'⟩
/-- push_token -/
theorem c_push (hI : StatI X K) (hk : k < 50) {x dx pb : Addr} {w : Value} {n : Nat} {tn : Tok} {iv wv : Value} {ws : List Value} {r : List (Str × Value)} (hx : (x, (· = instObj 86 dx)) ∈ cs) (hd : (dx, DcL (lexL n tn iv wv (.ref pb) ++ r)) ∈ cs) (hz : ws.length ≤ 100000)
    {Q : Value → List Cl → Prop} (p : Put pb (LsL ws) (LsL (ws ++ [w])) cs cs') (q : Q .none cs') : W X k (call (.ref 83) [.ref x, w]) cs Q := by
  have hS := hI.toStat
  with_reducible refine w_def (binds := [("self", .ref x), ("token", w)]) hS hS.f83 (binds_of fun _ _ _ _ => by kernel_rfl) (by kernel_rfl) (by kernel_rfl) (by walk_at "om") fun L => ?_
  repeat walk_at "w"
  have hpb := p.mem
  repeat walk_at "w"
  refine w_append (.tail p) (show ws.length ≤ 16777216 by walk_at "om") ?_
  repeat walk_at "w"
  exact ⟨cs', Lay.ent (by walk_at "lay"), q⟩
theorem w_isTrueA {x : Str} {xp : Pos} {attr : Str} {pos : Pos} {whole : Sem Value} {Q : Bool → List Cl → Prop} (h : W X k whole cs (fun v c => W X k (truthy v) c Q)) : W X k (isTrue (.Attribute (.Name x xp) attr pos) env whole) cs Q := w_tval h rfl
/-- get_token, something pushed -/
theorem c_getP (hI : StatI X K) (hk : k < 50) {x dx pb : Addr} {w : Value} {n : Nat} {tn : Tok} {iv wv : Value} {ws : List Value} {r : List (Str × Value)} (hx : (x, (· = instObj 86 dx)) ∈ cs) (hd : (dx, DcL (lexL n tn iv wv (.ref pb) ++ r)) ∈ cs) (hz : ws.length ≤ 10000)
    {Q : Value → List Cl → Prop} (p : Put pb (LsL (w :: ws)) (LsL ws) cs cs') (q : Q w cs') : W X k (call (.ref 76) [.ref x]) cs Q := by
  have hS := hI.toStat
  with_reducible refine w_def (binds := [("self", .ref x)]) hS hS.f76 (binds_of fun _ _ _ _ => by kernel_rfl) (by kernel_rfl) (by kernel_rfl) (by walk_at "om") fun L => ?_
  have hpb := p.mem
  repeat walk_at "w"
  refine w_truthyL (xs := w :: ws) (by walk_at "mem") (by simp only [List.length_cons]; have := hz; walk_at "om") ?_
  rw [if_pos (by rfl)]
  repeat walk_at "w"
  refine w_popAt (j := 0) rfl (y := w) rfl (.tail p) (by simp only [List.length_cons]; exact (show _ ≤ 16777216 by walk_at "om")) ?_
  exact w_back ⟨cs', Lay.ent (by walk_at "lay"), q⟩
end
end
section
-- plain: what the lexer reads
noncomputable def wht (c : Nat) : Bool := decide (c ∈ [10, 9, 13, 32])
noncomputable def nl1 (c : Nat) : Nat := if c = 10 then 1 else 0
structure Rd where
  (tok r : List Nat) (n : Nat)
/-- within quotation marks -/
noncomputable def rdq : List Nat → Nat → List Nat → Rd
  | [], n, tok => ⟨tok, [], n⟩
  | [c], n, tok => if c = 34 then ⟨tok, [], n + nl1 c⟩ else if c = 92 then ⟨tok, [], n + nl1 c⟩ else ⟨tok ++ [c], [], n + nl1 c⟩
  | c :: d :: r, n, tok => if c = 34 then ⟨tok, d :: r, n + nl1 c⟩ else if c = 92 then rdq r (n + nl1 c + nl1 d) (tok ++ [d]) else rdq (d :: r) (n + nl1 c) (tok ++ [c])
/-- bare -/
noncomputable def rdb : List Nat → Nat → List Nat → Rd
  | [], n, tok => ⟨tok, [], n⟩
  | [c], n, tok => if wht c then ⟨tok, [], n + nl1 c⟩ else if c = 92 then ⟨tok, [], n + nl1 c⟩ else ⟨tok ++ [c], [], n + nl1 c⟩
  | c :: d :: r, n, tok => if wht c then ⟨tok, d :: r, n + nl1 c⟩ else if c = 92 then rdb r (n + nl1 c + nl1 d) (tok ++ [d]) else rdb (d :: r) (n + nl1 c) (tok ++ [c])
noncomputable def rdt : List Nat → Nat → Rd
  | [], n => ⟨[], [], n⟩
  | c :: r, n => if wht c then rdt r (n + nl1 c) else if c = 34 then rdq r (n + nl1 c) [] else if c = 92 then rdb (r.drop 1) (n + nl1 c + nlc r) (r.take 1) else rdb r (n + nl1 c) [c]
theorem nlc_cons (c : Nat) (r : List Nat) : nlc (c :: r) = nl1 c := by unfold nlc nl1; simp
theorem nlc_nil : nlc [] = 0 := rfl
theorem rdq_cons (c : Nat) (r : List Nat) (n : Nat) (tok : List Nat) : rdq (c :: r) n tok = if c = 34 then ⟨tok, r, n + nl1 c⟩ else if c = 92 then rdq (r.drop 1) (n + nl1 c + nlc r) (tok ++ r.take 1) else rdq r (n + nl1 c) (tok ++ [c]) := by
  cases r with
  | nil => simp only [rdq, List.drop_nil, List.take_nil, List.append_nil, nlc_nil, Nat.add_zero]
  | cons d r => rw [rdq, nlc_cons]; rfl
theorem rdb_cons (c : Nat) (r : List Nat) (n : Nat) (tok : List Nat) : rdb (c :: r) n tok = if wht c then ⟨tok, r, n + nl1 c⟩ else if c = 92 then rdb (r.drop 1) (n + nl1 c + nlc r) (tok ++ r.take 1) else rdb r (n + nl1 c) (tok ++ [c]) := by
  cases r with
  | nil => simp only [rdb, List.drop_nil, List.take_nil, List.append_nil, nlc_nil, Nat.add_zero]
  | cons d r => rw [rdb, nlc_cons]; rfl
section
variable {X : XX} {k : Nat} {cs cs' : List Cl} {env : Env} {K : Frag}
theorem W.opq2 {α β : Type} {t : Sem α} {u : α → Sem β} {Q : β → List Cl → Prop} (h : ∀ Q' : β → List Cl → Prop, (∀ b c, Q b c → Q' b c) → W X k t cs (fun a c => W X k (u a) c Q')) : W X k t cs (fun a c => W X k (u a) c Q) := h Q fun _ _ h => h
/-- _read_char, called -/
theorem c_rc (hI : StatI X K) (hk : k < 50) {a : LxA} {vs : List Value} {r : List Nat} {n : Nat} {tn : Tok} {wv pv : Value} (hG : LexG a cs) (hv : Chars vs r) (hz : r.length ≤ 100000)
    {Q : Value → List Cl → Prop} (q : ∀ t tn', Q (.str (strOf (r.take 1)) t) ((a.sg, LsL (vs.drop 1)) :: (a.dlx, DcL (lexL (n + nlc r) tn' (.ref a.st) wv pv)) :: cs)) :
    W X k (call (.ref 69) [.ref a.lx]) ((a.sg, LsL vs) :: (a.dlx, DcL (lexL n tn (.ref a.st) wv pv)) :: cs) Q :=
  W.call (c_readchar hI hk hG hv hz fun t tn' => ⟨_, rfl, q t tn'⟩)
noncomputable abbrev gC (a : LxA) (L fi m pb : Addr) (tw : Tok) (P : Obj → Prop) (l : List (Str × Value)) (vs : List Value) (n : Nat) (tn : Tok) (cs : List Cl) : List Cl :=
  (fi, P) :: (m, (· = methodObj (.ref 69) (.ref a.lx))) :: (L, NsL l) :: (a.sg, LsL vs) :: (a.dlx, DcL (lexL n tn (.ref a.st) (.str wsS tw) (.ref pb))) :: cs
theorem strOf_nil : strOf [] = noSign := rfl
theorem strOf_ne {l : List Nat} (h : l ≠ []) : strOf l ≠ noSign := fun e => by
  cases l with
  | nil => exact h rfl
  | cons c r =>
    have := congrArg (fun s : Str => s.cps.size) e
    rw [show noSign.cps.size = 0 from rfl] at this
    simp [strOf] at this
theorem ent_gC {a : LxA} {L fi m pb : Addr} {tw : Tok} {P : Obj → Prop} {l l' : List (Str × Value)} {vs : List Value} {n : Nat} {tn : Tok} (h : ∀ p ∈ l', p ∈ l) : Ent (gC a L fi m pb tw P l vs n tn cs) (gC a L fi m pb tw P l' vs n tn cs) :=
  Ent.of (fun h => h) fun c hc => by
    rcases List.mem_cons.mp hc with rfl | hc
    · exact ⟨_, .head _, rfl, fun _ h => h⟩
    rcases List.mem_cons.mp hc with rfl | hc
    · exact ⟨_, .tail _ (.head _), rfl, fun _ h => h⟩
    rcases List.mem_cons.mp hc with rfl | hc
    · exact ⟨_, .tail _ (.tail _ (.head _)), rfl, NsL.sub h⟩
    · exact ⟨c, .tail _ (.tail _ (.tail _ hc)), rfl, fun _ h => h⟩
theorem chr_eq (c d : Nat) : ((⟨#[c]⟩ : Str) == strOf [d]) = decide (c = d) := by
  have := take_one_eq [c] d
  rw [show [c].take 1 = [c] from rfl] at this
  rw [show (⟨#[c]⟩ : Str) = strOf [c] from rfl, this]
  simp
theorem Chars.drop {vs : List Value} {c : Nat} {r : List Nat} (h : Chars vs (c :: r)) : Chars (vs.drop 1) r := by
  cases vs with
  | nil => have := h.len; simp at this
  | cons v vs => exact h.cons.2
theorem Chars.drop1 {vs : List Value} {r : List Nat} (h : Chars vs r) : Chars (vs.drop 1) (r.drop 1) := by
  cases r with
  | nil => have := h.len; rw [show vs = [] from List.eq_nil_of_length_eq_zero (by simpa using this)]; exact Strs.nil
  | cons c r => exact h.drop
/-- a turn -/
theorem next_r (hI : StatI X K) (hk : k < 48) {a : LxA} {L fi m pb : Addr} {vs : List Value} {r : List Nat} {n : Nat} {tn tw : Tok} {l : List (Str × Value)} (hG : LexG a cs) (hv : Chars vs r) (hz : r.length ≤ 100000)
    {Q : Option Value → List Cl → Prop} (q0 : r = [] → ∀ tn' c, Ent c (gC a L fi m pb tw CaE l [] n tn' cs) → Q none c) (q1 : ∀ ch r', r = ch :: r' → ∀ t tn' c, Ent c (gC a L fi m pb tw (CaI m) l (vs.drop 1) (n + nl1 ch) tn' cs) → Q (some (.str ⟨#[ch]⟩ t)) c) :
    W X k (pyNext (.ref fi)) (gC a L fi m pb tw (CaI m) l vs n tn cs) Q := by
  have hS := hI.toStat
  obtain ⟨⟨doc, pm, an, ct, sl, e⟩, _⟩ := hS.f69
  refine w_pyNextC (m := m) (x := a.lx) (f := 69) (by walk_at "mem") (by walk_at "mem") e rfl (by walk_at "om") ?_
  refine WC.weak (Lay.ent (t := (a.sg, LsL vs) :: (a.dlx, DcL (lexL n tn (.ref a.st) (.str wsS tw) (.ref pb))) :: (fi, CaI m) :: (m, (· = methodObj (.ref 69) (.ref a.lx))) :: (L, NsL l) :: cs) (by walk_at "lay")) ?_
  refine c_readchar hI (by walk_at "om") (hG.mono fun x hx => .tail _ (.tail _ (.tail _ hx))) hv hz fun t tn' => ⟨_, rfl, by walk_at "mem", by walk_at "mem", _, _, rfl, fun hne => ?_, fun he => ?_⟩
  · cases r with
    | nil => exact absurd rfl hne
    | cons ch r' =>
      have := q1 ch r' rfl t tn'
      rw [← nlc_cons ch r'] at this
      exact this _ (Lay.ent (by walk_at "lay"))
  · cases r with
    | nil =>
      have hvs : vs = [] := List.eq_nil_of_length_eq_zero (by have := hv.len; simpa using this)
      subst hvs
      refine ⟨_, by walk_at "put", ?_⟩
      exact q0 rfl tn' _ (Lay.ent (by walk_at "lay"))
    | cons ch r' => exact absurd he (strOf_ne (by simp))
/-- get_token, nothing pushed -/
theorem c_getR (hI : StatI X K) (hk : k < 45) {a : LxA} {pb : Addr} {vs : List Value} {r : List Nat} {n : Nat} {tn tw : Tok} (hG : LexG a cs) (hpb : (pb, LsL []) ∈ cs) (hv : Chars vs r) (hz : r.length ≤ 50000)
    {Q : Value → List Cl → Prop} (q : ∀ t tn' vs', Chars vs' (rdt r n).r → Q (.str (strOf (rdt r n).tok) t) ((a.sg, LsL vs') :: (a.dlx, DcL (lexL (rdt r n).n tn' (.ref a.st) (.str wsS tw) (.ref pb))) :: cs)) :
    W X k (call (.ref 76) [.ref a.lx]) ((a.sg, LsL vs) :: (a.dlx, DcL (lexL n tn (.ref a.st) (.str wsS tw) (.ref pb))) :: cs) Q := by
  have hS := hI.toStat
  obtain ⟨hR, h2, h3, h4⟩ := id hG
  with_reducible refine w_def (binds := [("self", .ref a.lx)]) hS hS.f76 (binds_of fun _ _ _ _ => by kernel_rfl) (by kernel_rfl) (by kernel_rfl) (by walk_at "om") fun L => ?_
  repeat walk_at "w"
  refine w_truthyL (xs := []) (by walk_at "mem") (by simp) ?_
  rw [if_neg (by simp)]
  repeat walk_at "w"
  refine w_bound hI (by walk_at "mem") (.tail _ (.tail _ (.head _))) hI.m69 hI.y69 hI.g69 hI.t69 (by decide +kernel) rfl fun m => ?_
  repeat walk_at "w"
  refine w_iterC (.head _) fun fi => ?_
  repeat walk_at "w"
  refine w_for ?_ (fun _ => by kernel_rfl)
  repeat walk_at "w"
  refine w_pyIterC (.head _) ?_
  generalize hT : rdt r n = T at q
  have hend : ∀ (P : Obj → Prop) tn tt c, T.r = [] → Ent c (gC a L fi m pb tw P [("self", .ref a.lx), ("token", .str (strOf T.tok) tt), ("fiter", .ref fi)] [] T.n tn cs) →
      WExecs X (k + 1) (ev (scOf (inClass (stmtAt 7) 2)) "_netrclex.get_token" L 76 (.ref 75) []) ((bodyOf (inClass (stmtAt 7) 2)).drop 4) (fun fl c => ∃ c', Ent c c' ∧ Q (retOf fl) c') .next c := fun P tn tt c hr he => by
    have h0 : (bodyOf (inClass (stmtAt 7) 2)).drop 4 = [.Return (some (.Name "token" _)) _] := rfl
    rw [h0]
    refine w_next (W.weak he ?_)
    repeat walk_at "w"
    refine w_back ⟨(a.sg, LsL []) :: (a.dlx, DcL _) :: cs, Lay.ent (by walk_at "lay"), ?_⟩
    exact q tt tn [] (by rw [hr]; exact Strs.nil)
  refine w_forLoop (fun d c => (∃ vs r n tn tt, d = r.length + 1 ∧ Chars vs r ∧ r.length ≤ 50000 ∧ rdt r n = T ∧ Ent c (gC a L fi m pb tw (CaI m) [("self", .ref a.lx), ("token", .str (strOf []) tt), ("fiter", .ref fi)] vs n tn cs)) ∨
    (d = 0 ∧ ∃ tn tt, T.r = [] ∧ Ent c (gC a L fi m pb tw CaE [("self", .ref a.lx), ("token", .str (strOf T.tok) tt), ("fiter", .ref fi)] [] T.n tn cs))) (fun _ => by kernel_rfl) (fun d c hJ => ?_) (n := r.length + 1) (.inl ⟨vs, r, n, tn, _, rfl, hv, hz, hT, Ent.rfl⟩)
  rcases hJ with ⟨vs, r, n, tn, tt, rfl, hv, hz, hT, he⟩ | ⟨rfl, tn, tt, hr, he⟩
  case inr => exact W.weak he (w_pyNextE (.head _) (hend _ _ _ _ hr .rfl))
  refine W.weak he (next_r hI (by walk_at "om") hG hv (by walk_at "om") (fun e tn' c he => ?_) fun ch r' e t tn' c he => ?_)
  · subst e; subst hT
    exact hend _ _ tt _ rfl he
  have hv' : Chars (vs.drop 1) r' := Chars.drop (e ▸ hv)
  subst e
  have hlen : (ch :: r').length = r'.length + 1 := rfl
  refine W.weak he (w_assignN (W.opq2 fun Qo hQo => ?_))
  repeat walk_at "w"
  refine ifB (fun h => ?_) fun h => ?_
  · -- a white sign
    have hw : wht ch = true := h
    repeat walk_at "w"
    refine hQo _ _ ⟨_, ?_, .inl ⟨_, r', _, _, tt, rfl, hv', by walk_at "om", ?_, ent_gC (by walk_at "subs")⟩⟩
    · walk_at "om"
    · rw [← hT, rdt, if_pos hw]
  have hw : ¬ wht ch = true := by rw [show wht ch = false from h]; simp
  rw [rdt, if_neg hw] at hT
  repeat walk_at "w"
  rw [show ((⟨#[ch]⟩ : Str) == (Str.ofString "\"")) = decide (ch = 34) from chr_eq ch 34]
  refine ifB (fun h => ?_) fun h => ?_
  · -- a word in quotation marks
    have h' := of_decide_eq_true h
    rw [if_pos h'] at hT
    repeat walk_at "w"
    refine w_for ?_ (fun _ => by kernel_rfl)
    repeat walk_at "w"
    refine w_pyIterC (.head _) ?_
    refine w_forLoop (fun d c => ∃ vs r n tn tok tt, d = r.length ∧ Chars vs r ∧ r.length + tok.length ≤ 50000 ∧ rdq r n tok = T ∧ Ent c (gC a L fi m pb tw (CaI m) [("self", .ref a.lx), ("token", .str (strOf tok) tt), ("fiter", .ref fi)] vs n tn cs)) (fun _ => by kernel_rfl) (fun d c hJ => ?_) (n := r'.length)
      ⟨_, r', _, _, [], tt, rfl, hv', by simp; walk_at "om", hT, ent_gC (by walk_at "subs")⟩
    clear hT hv' he hlen hv
    obtain ⟨vs, r, n, tn, tok, tt, rfl, hv, hz, hT, he⟩ := hJ
    refine W.weak he (next_r hI (by walk_at "om") hG hv (by walk_at "om") (fun e tn' c he => ?_) fun ch r' e t tn' c he => ?_)
    · subst e; subst hT
      refine w_next (W.weak he ?_)
      repeat walk_at "w"
      exact hQo _ _ ⟨0, by walk_at "om", .inr ⟨rfl, _, tt, rfl, .rfl⟩⟩
    have hv' : Chars (vs.drop 1) r' := Chars.drop (e ▸ hv)
    subst e
    have hlen : (ch :: r').length = r'.length + 1 := rfl
    rw [rdq_cons] at hT
    refine W.weak he (w_assignN (W.opq2 fun Qi hQi => ?_))
    repeat walk_at "w"
    rw [show ((⟨#[ch]⟩ : Str) == (Str.ofString "\"")) = decide (ch = 34) from chr_eq ch 34]
    refine ifB (fun h => ?_) fun h => ?_
    · -- the closing one
      rw [if_pos (of_decide_eq_true h)] at hT
      repeat walk_at "w"
      subst hT
      refine w_back (hQi _ _ ?_)
      repeat refine w_back ?_
      refine hQo _ _ ?_
      repeat refine w_back ?_
      exact ⟨(a.sg, LsL _) :: (a.dlx, DcL _) :: cs, Lay.ent (by walk_at "lay"), q _ _ _ hv'⟩
    rw [if_neg (of_decide_eq_false h)] at hT
    repeat walk_at "w"
    rw [show ((⟨#[ch]⟩ : Str) == (Str.ofString "\\")) = decide (ch = 92) from chr_eq ch 92]
    refine ifB (fun h => ?_) fun h => ?_
    · -- a backslash
      rw [if_pos (of_decide_eq_true h)] at hT
      repeat walk_at "w"
      refine ⟨Kp.of_fn hS.f69, ?_⟩
      refine W.weak (Lay.ent (t := (a.sg, LsL (vs.drop 1)) :: (a.dlx, DcL (lexL (n + nl1 ch) tn' (.ref a.st) (.str wsS tw) (.ref pb))) :: (fi, CaI m) :: (m, (· = methodObj (.ref 69) (.ref a.lx))) :: (L, NsL _) :: cs) (by walk_at "lay")) ?_
      refine c_rc hI (by walk_at "om") (hG.mono fun x hx => .tail _ (.tail _ (.tail _ hx))) hv' (by walk_at "om") fun t2 tn2 => ?_
      have htl : (r'.take 1).length ≤ 1 := List.length_take_le 1 r'
      have hdl : (r'.drop 1).length + (r'.take 1).length = r'.length := by rw [Nat.add_comm, ← List.length_append, List.take_append_drop]
      repeat walk_at "w"
      refine w_iaddT (a := tok) (b := r'.take 1) (by walk_at "om") fun t3 => ?_
      repeat walk_at "w"
      refine' hQi _ _ ⟨(r'.drop 1).length, ?h1, _, r'.drop 1, _, _, tok ++ r'.take 1, t3, rfl, hv'.drop1, ?h2, hT, Ent.trans (Lay.ent (t := gC a L fi m pb tw (CaI m) _ _ _ _ cs) ?lay) (ent_gC ?sub)⟩
      case lay => walk_at "lay"
      case sub => walk_at "subs"
      case h1 => walk_at "om"
      case h2 => rw [List.length_append]; walk_at "om"
    · rw [if_neg (of_decide_eq_false h)] at hT
      repeat walk_at "w"
      refine w_iaddT (a := tok) (b := [ch]) (by rw [List.length_singleton]; walk_at "om") fun t3 => ?_
      repeat walk_at "w"
      refine hQi _ _ ⟨r'.length, by walk_at "om", _, r', _, _, tok ++ [ch], t3, rfl, hv', by rw [List.length_append, List.length_singleton]; walk_at "om", hT, ent_gC (by walk_at "subs")⟩
  rw [if_neg (of_decide_eq_false h)] at hT
  repeat walk_at "w"
  rw [show ((⟨#[ch]⟩ : Str) == (Str.ofString "\\")) = decide (ch = 92) from chr_eq ch 92]
  refine ifB (fun h => ?_) fun h => ?_
  · -- a bare word, its first sign behind a backslash
    rw [if_pos (of_decide_eq_true h)] at hT
    repeat walk_at "w"
    refine ⟨Kp.of_fn hS.f69, ?_⟩
    refine W.weak (Lay.ent (t := (a.sg, LsL (vs.drop 1)) :: (a.dlx, DcL (lexL (n + nl1 ch) tn' (.ref a.st) (.str wsS tw) (.ref pb))) :: (fi, CaI m) :: (m, (· = methodObj (.ref 69) (.ref a.lx))) :: (L, NsL _) :: cs) (by walk_at "lay")) ?_
    refine c_rc hI (by walk_at "om") (hG.mono fun x hx => .tail _ (.tail _ (.tail _ hx))) hv' (by walk_at "om") fun t2 tn2 => ?_
    have htl : (r'.take 1).length ≤ 1 := List.length_take_le 1 r'
    have hdl : (r'.drop 1).length + (r'.take 1).length = r'.length := by rw [Nat.add_comm, ← List.length_append, List.take_append_drop]
    repeat walk_at "w"
    refine w_iaddT (a := []) (b := r'.take 1) (by simp only [List.length_nil]; walk_at "om") fun t3 => ?_
    rw [List.nil_append]
    repeat walk_at "w"
    refine w_for ?_ (fun _ => by kernel_rfl)
    repeat walk_at "w"
    refine w_pyIterC (by walk_at "mem") ?_
    refine' w_forLoop (fun d c => ∃ vs r n tn tok tt, d = r.length ∧ Chars vs r ∧ r.length + tok.length ≤ 50000 ∧ rdb r n tok = T ∧ Ent c (gC a L fi m pb tw (CaI m) [("self", .ref a.lx), ("token", .str (strOf tok) tt), ("fiter", .ref fi)] vs n tn cs)) (fun _ => by kernel_rfl) (fun d c hJ => ?_) (n := (r'.drop 1).length)
      ⟨_, r'.drop 1, _, _, r'.take 1, t3, rfl, hv'.drop1, ?h2, hT, Ent.trans (Lay.ent (t := gC a L fi m pb tw (CaI m) _ _ _ _ cs) ?lay) (ent_gC ?sub)⟩
    case lay => walk_at "lay"
    case sub => walk_at "subs"
    case h2 => walk_at "om"
    clear hT hv' he hlen hv
    obtain ⟨vs, r, n, tn, tok, tt, rfl, hv, hz, hT, he⟩ := hJ
    refine W.weak he (next_r hI (by walk_at "om") hG hv (by walk_at "om") (fun e tn' c he => ?_) fun ch r' e t tn' c he => ?_)
    · subst e; subst hT
      refine w_next (W.weak he ?_)
      repeat walk_at "w"
      exact hQo _ _ ⟨0, by walk_at "om", .inr ⟨rfl, _, tt, rfl, .rfl⟩⟩
    have hv' : Chars (vs.drop 1) r' := Chars.drop (e ▸ hv)
    subst e
    have hlen : (ch :: r').length = r'.length + 1 := rfl
    rw [rdb_cons] at hT
    refine W.weak he (w_assignN (W.opq2 fun Qi hQi => ?_))
    repeat walk_at "w"
    refine ifB (fun h => ?_) fun h => ?_
    · -- a white sign ends it
      rw [if_pos (show wht ch = true from h)] at hT
      repeat walk_at "w"
      subst hT
      refine w_back (hQi _ _ ?_)
      repeat refine w_back ?_
      refine hQo _ _ ?_
      repeat refine w_back ?_
      exact ⟨(a.sg, LsL _) :: (a.dlx, DcL _) :: cs, Lay.ent (by walk_at "lay"), q _ _ _ hv'⟩
    rw [if_neg (show ¬ wht ch = true by rw [show wht ch = false from h]; simp)] at hT
    repeat walk_at "w"
    rw [show ((⟨#[ch]⟩ : Str) == (Str.ofString "\\")) = decide (ch = 92) from chr_eq ch 92]
    refine ifB (fun h => ?_) fun h => ?_
    · -- a backslash
      rw [if_pos (of_decide_eq_true h)] at hT
      repeat walk_at "w"
      refine ⟨Kp.of_fn hS.f69, ?_⟩
      refine W.weak (Lay.ent (t := (a.sg, LsL (vs.drop 1)) :: (a.dlx, DcL (lexL (n + nl1 ch) tn' (.ref a.st) (.str wsS tw) (.ref pb))) :: (fi, CaI m) :: (m, (· = methodObj (.ref 69) (.ref a.lx))) :: (L, NsL _) :: cs) (by walk_at "lay")) ?_
      refine c_rc hI (by walk_at "om") (hG.mono fun x hx => .tail _ (.tail _ (.tail _ hx))) hv' (by walk_at "om") fun t2 tn2 => ?_
      have htl : (r'.take 1).length ≤ 1 := List.length_take_le 1 r'
      have hdl : (r'.drop 1).length + (r'.take 1).length = r'.length := by rw [Nat.add_comm, ← List.length_append, List.take_append_drop]
      repeat walk_at "w"
      refine w_iaddT (a := tok) (b := r'.take 1) (by walk_at "om") fun t3 => ?_
      repeat walk_at "w"
      refine' hQi _ _ ⟨(r'.drop 1).length, ?h1, _, r'.drop 1, _, _, tok ++ r'.take 1, t3, rfl, hv'.drop1, ?h2, hT, Ent.trans (Lay.ent (t := gC a L fi m pb tw (CaI m) _ _ _ _ cs) ?lay) (ent_gC ?sub)⟩
      case lay => walk_at "lay"
      case sub => walk_at "subs"
      case h1 => walk_at "om"
      case h2 => rw [List.length_append]; walk_at "om"
    · rw [if_neg (of_decide_eq_false h)] at hT
      repeat walk_at "w"
      refine w_iaddT (a := tok) (b := [ch]) (by rw [List.length_singleton]; walk_at "om") fun t3 => ?_
      repeat walk_at "w"
      refine hQi _ _ ⟨r'.length, by walk_at "om", _, r', _, _, tok ++ [ch], t3, rfl, hv', by rw [List.length_append, List.length_singleton]; walk_at "om", hT, ent_gC (by walk_at "subs")⟩
  · -- a bare word
    rw [if_neg (of_decide_eq_false h)] at hT
    repeat walk_at "w"
    refine w_iaddT (a := []) (b := [ch]) (by simp) fun t3 => ?_
    rw [List.nil_append]
    repeat walk_at "w"
    refine w_for ?_ (fun _ => by kernel_rfl)
    repeat walk_at "w"
    refine w_pyIterC (by walk_at "mem") ?_
    refine' w_forLoop (fun d c => ∃ vs r n tn tok tt, d = r.length ∧ Chars vs r ∧ r.length + tok.length ≤ 50000 ∧ rdb r n tok = T ∧ Ent c (gC a L fi m pb tw (CaI m) [("self", .ref a.lx), ("token", .str (strOf tok) tt), ("fiter", .ref fi)] vs n tn cs)) (fun _ => by kernel_rfl) (fun d c hJ => ?_) (n := r'.length)
      ⟨_, r', _, _, [ch], t3, rfl, hv', ?h2, hT, Ent.trans (Lay.ent (t := gC a L fi m pb tw (CaI m) _ _ _ _ cs) ?lay) (ent_gC ?sub)⟩
    case lay => walk_at "lay"
    case sub => walk_at "subs"
    case h2 => rw [List.length_singleton]; walk_at "om"
    clear hT hv' he hlen hv
    obtain ⟨vs, r, n, tn, tok, tt, rfl, hv, hz, hT, he⟩ := hJ
    refine W.weak he (next_r hI (by walk_at "om") hG hv (by walk_at "om") (fun e tn' c he => ?_) fun ch r' e t tn' c he => ?_)
    · subst e; subst hT
      refine w_next (W.weak he ?_)
      repeat walk_at "w"
      exact hQo _ _ ⟨0, by walk_at "om", .inr ⟨rfl, _, tt, rfl, .rfl⟩⟩
    have hv' : Chars (vs.drop 1) r' := Chars.drop (e ▸ hv)
    subst e
    have hlen : (ch :: r').length = r'.length + 1 := rfl
    rw [rdb_cons] at hT
    refine W.weak he (w_assignN (W.opq2 fun Qi hQi => ?_))
    repeat walk_at "w"
    refine ifB (fun h => ?_) fun h => ?_
    · -- a white sign ends it
      rw [if_pos (show wht ch = true from h)] at hT
      repeat walk_at "w"
      subst hT
      refine w_back (hQi _ _ ?_)
      repeat refine w_back ?_
      refine hQo _ _ ?_
      repeat refine w_back ?_
      exact ⟨(a.sg, LsL _) :: (a.dlx, DcL _) :: cs, Lay.ent (by walk_at "lay"), q _ _ _ hv'⟩
    rw [if_neg (show ¬ wht ch = true by rw [show wht ch = false from h]; simp)] at hT
    repeat walk_at "w"
    rw [show ((⟨#[ch]⟩ : Str) == (Str.ofString "\\")) = decide (ch = 92) from chr_eq ch 92]
    refine ifB (fun h => ?_) fun h => ?_
    · -- a backslash
      rw [if_pos (of_decide_eq_true h)] at hT
      repeat walk_at "w"
      refine ⟨Kp.of_fn hS.f69, ?_⟩
      refine W.weak (Lay.ent (t := (a.sg, LsL (vs.drop 1)) :: (a.dlx, DcL (lexL (n + nl1 ch) tn' (.ref a.st) (.str wsS tw) (.ref pb))) :: (fi, CaI m) :: (m, (· = methodObj (.ref 69) (.ref a.lx))) :: (L, NsL _) :: cs) (by walk_at "lay")) ?_
      refine c_rc hI (by walk_at "om") (hG.mono fun x hx => .tail _ (.tail _ (.tail _ hx))) hv' (by walk_at "om") fun t2 tn2 => ?_
      have htl : (r'.take 1).length ≤ 1 := List.length_take_le 1 r'
      have hdl : (r'.drop 1).length + (r'.take 1).length = r'.length := by rw [Nat.add_comm, ← List.length_append, List.take_append_drop]
      repeat walk_at "w"
      refine w_iaddT (a := tok) (b := r'.take 1) (by walk_at "om") fun t3 => ?_
      repeat walk_at "w"
      refine' hQi _ _ ⟨(r'.drop 1).length, ?h1, _, r'.drop 1, _, _, tok ++ r'.take 1, t3, rfl, hv'.drop1, ?h2, hT, Ent.trans (Lay.ent (t := gC a L fi m pb tw (CaI m) _ _ _ _ cs) ?lay) (ent_gC ?sub)⟩
      case lay => walk_at "lay"
      case sub => walk_at "subs"
      case h1 => walk_at "om"
      case h2 => rw [List.length_append]; walk_at "om"
    · rw [if_neg (of_decide_eq_false h)] at hT
      repeat walk_at "w"
      refine w_iaddT (a := tok) (b := [ch]) (by rw [List.length_singleton]; walk_at "om") fun t3 => ?_
      repeat walk_at "w"
      refine hQi _ _ ⟨r'.length, by walk_at "om", _, r', _, _, tok ++ [ch], t3, rfl, hv', by rw [List.length_append, List.length_singleton]; walk_at "om", hT, ent_gC (by walk_at "subs")⟩
end
end
section
section
variable {X : XX} {k : Nat} {cs cs' : List Cl} {env : Env} {K : Frag}
theorem w_listS {l : List Nat} {t : Tok} (hz : l.length ≤ 100000) {Q : Value → List Cl → Prop} (q : ∀ a vs, Chars vs l → Q (.ref a) ((a, LsL vs) :: cs)) : W X k (call (.type "list") [.str (strOf l) t]) cs Q := .mk fun hp tk s => by
  have hs : (strOf l).cps.size = l.length := List.size_toArray ..
  refine call_list_str rfl (strOf l) t (fun h' tk' acc' c' hk hS' hacc => ?_) (by rw [hs, sizeLine_eq]; walk_at "om")
  refine .mk (s.new (P := LsL acc'.toList) hk (Nat.le_refl _) ⟨_, hS', c', by simp⟩) (q _ _ ?_)
  obtain ⟨h1, h2⟩ := hacc
  rw [hs] at h1
  unfold Chars Strs
  refine List.ext_getElem? fun j => ?_
  rw [List.getElem?_map, List.getElem?_map, List.getElem?_map]
  cases e : acc'.toList[j]? with
  | none =>
    have : l.length ≤ j := by rw [List.getElem?_eq_none_iff, Array.length_toList] at e; walk_at "om"
    rw [List.getElem?_eq_none this]; rfl
  | some v =>
    rw [Array.getElem?_toList] at e
    obtain ⟨c, u, hc, rfl⟩ := h2 j v e
    have : l[j]? = some c := by rw [← hc]; show _ = l.toArray[j]?; rw [List.getElem?_toArray]
    rw [this]; rfl
theorem ent_perm {c c' : List Cl} (p : c.Perm c') : Ent c c' := Ent.of (fun h => (p.map Prod.fst).nodup_iff.mp h) fun x hx => ⟨x, p.symm.subset hx, rfl, fun _ h => h⟩
/-- _law_lexer -/
theorem c_lexer (hI : StatI X K) (hk : k < 45) {l : List Nat} {t : Tok} {d T : List Cl} (hz : l.length ≤ 50000) (hT : TabOK 107 rQ T)
    {Q : Value → List Cl → Prop} (q : ∀ (a : LxA) (pb : Addr) (vs : List Value) (tn tw : Tok) (F : List Cl), LexG a F → (∃ ps, ((107 : Addr), ((· = tabObj ps) : Obj → Prop)) ∈ F) → Chars vs l → Q (.ref a.lx) ((a.sg, LsL vs) :: (a.dlx, DcL (lexL 1 tn (.ref a.st) (.str wsS tw) (.ref pb))) :: (pb, LsL []) :: (d ++ F))) :
    W X k (call (.ref 112) [.str (strOf l) t]) (d ++ T) Q := by
  have hS := hI.toStat
  with_reducible refine w_defC (binds := [("text", .str (strOf l) t)]) hS hS.f112 (binds_of fun _ _ _ _ => by kernel_rfl) (by kernel_rfl) (by kernel_rfl) (of_decide_eq_true (by kernel_rfl)) (by walk_at "om") fun L => ?_
  have hc : cellsCl (cellsFrom (L + 1) (scOf (stmtAt 12)).names []) = [(L + 1, CellN)] := by kernel_rfl
  rw [hc]
  repeat walk_at "w"
  refine w_listS (by walk_at "om") fun sg vs hv => ?_
  repeat walk_at "w"
  refine ⟨Kp.cls hI, ?_⟩
  refine c_new hI (by walk_at "om") fun st dst pb0 tn tw => ?_
  repeat walk_at "w"
  refine' w_lambda hS hI.c111 hI.b107 (by decide) ?app hT (qual := rQ) (by kernel_rfl) rfl rfl (by kernel_rfl) (clos := [("signs", L + 1)]) (by kernel_rfl) fun lam lc T' ctv hT' hlc => ?_
  case app => walk_at "app"
  repeat walk_at "w"
  refine ⟨Kp.of_fn hS.f83, ?_⟩
  refine' c_push hI (by walk_at "om") (x := st) (dx := dst) (pb := pb0) (n := 1) (r := [("read", .ref lam)]) (ws := []) ?hx ?hd (by simp) ?pp ?_
  case hx => walk_at "mem"
  case hd => walk_at "mem"
  case pp => walk_at "put"
  repeat walk_at "w"
  refine ⟨Kp.cls hI, ?_⟩
  refine c_new hI (by walk_at "om") fun lx dlx pb tn2 tw2 => ?_
  repeat walk_at "w"
  let e : List Cl := [(st, (· = instObj 86 dst)), (dst, DcL [("lineno", .int 1 tn), ("instream", .none), ("whitespace", .str wsS tw), ("pushback", .ref pb0), ("read", .ref lam)]),
    (lam, (· = kla_obj "<lambda>" rQ (lamPar rLam) (lamBody rLam) (lamSc rLam) [("signs", L + 1)] ((X.mg "__name__").getD .none) lc ctv)), (L + 1, CellV (.ref sg)), (lx, (· = instObj 86 dlx))]
  refine w_back ⟨(sg, LsL vs) :: (dlx, DcL (lexL 1 tn2 (.ref st) (.str wsS tw2) (.ref pb))) :: (pb, LsL []) :: (d ++ (e ++ T')), Ent.trans (Lay.ent (t := (sg, LsL vs) :: (dlx, DcL (lexL 1 tn2 (.ref st) (.str wsS tw2) (.ref pb))) :: (pb, LsL []) :: (e ++ (d ++ T'))) ?_) (ent_perm ?_), ?_⟩
  · walk_at "lay"
  · refine List.Perm.cons _ (List.Perm.cons _ (List.Perm.cons _ ?_))
    rw [← List.append_assoc, ← List.append_assoc]
    exact List.Perm.append_right _ List.perm_append_comm
  refine q ⟨sg, st, dst, lam, lc, L + 1, lx, dlx⟩ pb vs tn2 tw2 (e ++ T') ⟨⟨⟨_, _, .tail _ (.tail _ (.head _))⟩, ?_, by walk_at "mem"⟩, by walk_at "mem", ⟨_, _, _, _, .tail _ (.head _)⟩, by walk_at "mem"⟩ (by obtain ⟨ps, R, hTe, _⟩ := hT'; exact ⟨ps, List.mem_append_right _ (hTe ▸ .head _)⟩) hv
  exact List.mem_append_right _ hlc
end
end
section
-- plain: Tenengolts
noncomputable def cntF (f : Nat → Bool) : Nat → Nat
  | 0 => 0
  | m + 1 => cntF f m + if f (m + 1) = true then 1 else 0
noncomputable def sumF (f : Nat → Bool) : Nat → Nat
  | 0 => 0
  | m + 1 => sumF f m + if f (m + 1) = true then m + 1 else 0
theorem range_snoc (m : Nat) : List.range' 1 (m + 1) = List.range' 1 m ++ [m + 1] := by
  rw [List.range'_1_concat, Nat.add_comm 1 m]
theorem len_filter (f : Nat → Bool) : ∀ m, ((List.range' 1 m).filter f).length = cntF f m
  | 0 => rfl
  | m + 1 => by
    rw [range_snoc, List.filter_append, List.length_append, len_filter f m, cntF]
    cases h : f (m + 1) <;> simp [h]
theorem sum_filter (f : Nat → Bool) : ∀ m, ((List.range' 1 m).filter f).sum = sumF f m
  | 0 => rfl
  | m + 1 => by
    rw [range_snoc, List.filter_append, List.sum_append, sum_filter f m, sumF]
    cases h : f (m + 1) <;> simp [h]
theorem cntF_mono (f : Nat → Bool) (a : Nat) : ∀ d, cntF f a ≤ cntF f (a + d)
  | 0 => Nat.le_refl _
  | d + 1 => by have := cntF_mono f a d; show _ ≤ cntF f (a + d) + _; walk_at "om"
theorem cntF_not (f g : Nat → Bool) (h : ∀ k, g k = !f k) : ∀ m, cntF g m + cntF f m = m
  | 0 => rfl
  | m + 1 => by
    have ih := cntF_not f g h m
    have := h (m + 1)
    rw [cntF, cntF, this]
    cases f (m + 1) <;> simp <;> walk_at "om"
theorem lo_of (f : Nat → Bool) : ∀ j, (0 :: (List.range' 1 j).filter f).getD (cntF f j) 0 ≤ j ∧ ∀ k, (0 :: (List.range' 1 j).filter f).getD (cntF f j) 0 < k → k ≤ j → f k = false
  | 0 => ⟨Nat.zero_le _, fun k h1 h2 => by simp [cntF] at h1; walk_at "om"⟩
  | j + 1 => by
    obtain ⟨i1, i2⟩ := lo_of f j
    have hl := len_filter f j
    rw [range_snoc, List.filter_append, cntF]
    cases h : f (j + 1) with
    | true =>
      have e : (0 :: (List.filter f (List.range' 1 j) ++ List.filter f [j + 1])).getD (cntF f j + 1) 0 = j + 1 := by
        rw [List.getD_eq_getElem?_getD, List.getElem?_cons_succ, List.getElem?_append_right (by walk_at "om"), hl]
        simp [h]
      rw [if_pos rfl, e]
      exact ⟨Nat.le_refl _, fun k h1 h2 => by walk_at "om"⟩
    | false =>
      have e : (0 :: (List.filter f (List.range' 1 j) ++ List.filter f [j + 1])).getD (cntF f j + 0) 0 = (0 :: (List.range' 1 j).filter f).getD (cntF f j) 0 := by
        simp [h]
      rw [if_neg (by simp), e]
      refine ⟨by walk_at "om", fun k h1 h2 => ?_⟩
      by_cases hk : k = j + 1
      · rw [hk]; exact h
      · exact i2 k h1 (by walk_at "om")
theorem hi_of (f : Nat → Bool) : ∀ d a, a ≤ ((List.range' a d).filter f ++ [a + d]).getD 0 0 ∧ ((List.range' a d).filter f ++ [a + d]).getD 0 0 ≤ a + d ∧ ∀ k, a ≤ k → k < ((List.range' a d).filter f ++ [a + d]).getD 0 0 → f k = false
  | 0, a => by simp; walk_at "om"
  | d + 1, a => by
    obtain ⟨i1, i2, i3⟩ := hi_of f d (a + 1)
    rw [List.range'_succ, show a + 1 + d = a + (d + 1) by walk_at "om"] at *
    cases h : f a with
    | true => simp [h]; walk_at "om"
    | false =>
      rw [List.filter_cons_of_neg (by simp [h])]
      refine ⟨by walk_at "om", i2, fun k h1 h2 => ?_⟩
      by_cases hk : k = a
      · rw [hk]; exact h
      · exact i3 k (by walk_at "om") h2
theorem bnd_of (f : Nat → Bool) {m q : Nat} (h1 : 1 ≤ q) (h2 : q ≤ m + 1) :
    let B := 0 :: ((List.range' 1 m).filter f ++ [m + 1])
    cntF f (q - 1) + 1 < B.length ∧ B.getD (cntF f (q - 1)) 0 < q ∧ q ≤ B.getD (cntF f (q - 1) + 1) 0 ∧ B.getD (cntF f (q - 1) + 1) 0 ≤ m + 1 ∧
      ∀ k, B.getD (cntF f (q - 1)) 0 < k → k < B.getD (cntF f (q - 1) + 1) 0 → f k = false := by
  intro B
  have hs : List.range' 1 m = List.range' 1 (q - 1) ++ List.range' q (m + 1 - q) := by
    have := @List.range'_append_1 1 (q - 1) (m + 1 - q)
    rw [show 1 + (q - 1) = q by walk_at "om", show q - 1 + (m + 1 - q) = m by walk_at "om"] at this
    exact this.symm
  have hB : B = (0 :: (List.range' 1 (q - 1)).filter f) ++ ((List.range' q (m + 1 - q)).filter f ++ [m + 1]) := by
    show 0 :: ((List.range' 1 m).filter f ++ [m + 1]) = _
    rw [hs, List.filter_append]; simp
  have hl := len_filter f (q - 1)
  obtain ⟨l1, l2⟩ := lo_of f (q - 1)
  obtain ⟨u1, u2, u3⟩ := hi_of f (m + 1 - q) q
  rw [show q + (m + 1 - q) = m + 1 by walk_at "om"] at u1 u2 u3
  have e1 : B.getD (cntF f (q - 1)) 0 = (0 :: (List.range' 1 (q - 1)).filter f).getD (cntF f (q - 1)) 0 := by
    rw [hB, List.getD_eq_getElem?_getD, List.getElem?_append_left (by rw [List.length_cons]; walk_at "om"), ← List.getD_eq_getElem?_getD]
  have e2 : B.getD (cntF f (q - 1) + 1) 0 = ((List.range' q (m + 1 - q)).filter f ++ [m + 1]).getD 0 0 := by
    rw [hB, List.getD_eq_getElem?_getD, List.getElem?_append_right (by rw [List.length_cons]; walk_at "om"), List.length_cons, hl, Nat.sub_self, ← List.getD_eq_getElem?_getD]
  refine ⟨?_, ?_, ?_, ?_, ?_⟩
  · rw [hB, List.length_append, List.length_cons, hl, List.length_append, List.length_singleton]; walk_at "om"
  · rw [e1]; walk_at "om"
  · rw [e2]; exact u1
  · rw [e2]; exact u2
  · rw [e1, e2]
    intro k h3 h4
    by_cases hk : k ≤ q - 1
    · exact l2 k h3 hk
    · exact u3 k (by walk_at "om") h4
-- bisection
theorem mono_of {K : Nat → Int} {lo hi : Nat} (h : ∀ k, lo < k → k < hi → K (k - 1) ≤ K k) : ∀ d i, lo ≤ i → i + d < hi → K i ≤ K (i + d)
  | 0, i, _, _ => Int.le_refl _
  | d + 1, i, h1, h2 => Int.le_trans (mono_of h d i h1 (by walk_at "om")) (by have := h (i + d + 1) (by walk_at "om") (by walk_at "om"); exact this)
theorem bisR_spec (K : Nat → Int) (x : Int) : ∀ (d lo hi : Nat), hi - lo = d → lo ≤ hi → (∀ k, lo < k → k < hi → K (k - 1) ≤ K k) →
    lo ≤ bisR K x lo hi ∧ bisR K x lo hi ≤ hi ∧ (∀ i, lo ≤ i → i < bisR K x lo hi → K i ≤ x) ∧ ∀ i, bisR K x lo hi ≤ i → i < hi → x < K i := by
  intro d
  induction d using Nat.strongRecOn with
  | ind d ih =>
    intro lo hi hd hle hm
    have mono := mono_of hm
    rw [bisR]
    split
    · rename_i hlt
      split
      · rename_i hx
        obtain ⟨i1, i2, i3, i4⟩ := ih _ (by walk_at "om") lo ((lo + hi) / 2) rfl (by walk_at "om") (fun k h1 h2 => hm k h1 (by walk_at "om"))
        refine ⟨i1, by walk_at "om", i3, fun i h1 h2 => ?_⟩
        by_cases hi' : i < (lo + hi) / 2
        · exact i4 i h1 hi'
        · have := mono (i - (lo + hi) / 2) ((lo + hi) / 2) (by walk_at "om") (by walk_at "om")
          rw [show (lo + hi) / 2 + (i - (lo + hi) / 2) = i by walk_at "om"] at this
          walk_at "om"
      · rename_i hx
        obtain ⟨i1, i2, i3, i4⟩ := ih _ (by walk_at "om") ((lo + hi) / 2 + 1) hi rfl (by walk_at "om") (fun k h1 h2 => hm k (by walk_at "om") h2)
        refine ⟨by walk_at "om", i2, fun i h1 h2 => ?_, i4⟩
        by_cases hi' : i ≤ (lo + hi) / 2
        · have := mono ((lo + hi) / 2 - i) i h1 (by walk_at "om")
          rw [show i + ((lo + hi) / 2 - i) = (lo + hi) / 2 by walk_at "om"] at this
          walk_at "om"
        · exact i3 i (by walk_at "om") h2
    · exact ⟨by walk_at "om", by walk_at "om", fun i h1 h2 => by walk_at "om", fun i h1 h2 => by walk_at "om"⟩
theorem bisL_spec (K : Nat → Int) (x : Int) : ∀ (d lo hi : Nat), hi - lo = d → lo ≤ hi → (∀ k, lo < k → k < hi → K (k - 1) ≤ K k) →
    lo ≤ bisL K x lo hi ∧ bisL K x lo hi ≤ hi ∧ (∀ i, lo ≤ i → i < bisL K x lo hi → K i < x) ∧ ∀ i, bisL K x lo hi ≤ i → i < hi → x ≤ K i := by
  intro d
  induction d using Nat.strongRecOn with
  | ind d ih =>
    intro lo hi hd hle hm
    have mono := mono_of hm
    rw [bisL]
    split
    · rename_i hlt
      split
      · rename_i hx
        obtain ⟨i1, i2, i3, i4⟩ := ih _ (by walk_at "om") ((lo + hi) / 2 + 1) hi rfl (by walk_at "om") (fun k h1 h2 => hm k (by walk_at "om") h2)
        refine ⟨by walk_at "om", i2, fun i h1 h2 => ?_, i4⟩
        by_cases hi' : i ≤ (lo + hi) / 2
        · have := mono ((lo + hi) / 2 - i) i h1 (by walk_at "om")
          rw [show i + ((lo + hi) / 2 - i) = (lo + hi) / 2 by walk_at "om"] at this
          walk_at "om"
        · exact i3 i (by walk_at "om") h2
      · rename_i hx
        obtain ⟨i1, i2, i3, i4⟩ := ih _ (by walk_at "om") lo ((lo + hi) / 2) rfl (by walk_at "om") (fun k h1 h2 => hm k h1 (by walk_at "om"))
        refine ⟨i1, by walk_at "om", i3, fun i h1 h2 => ?_⟩
        by_cases hi' : i < (lo + hi) / 2
        · exact i4 i h1 hi'
        · have := mono (i - (lo + hi) / 2) ((lo + hi) / 2) (by walk_at "om") (by walk_at "om")
          rw [show (lo + hi) / 2 + (i - (lo + hi) / 2) = i by walk_at "om"] at this
          walk_at "om"
    · exact ⟨by walk_at "om", by walk_at "om", fun i h1 h2 => by walk_at "om", fun i h1 h2 => by walk_at "om"⟩
theorem ins_step {α : Type} {v : α} : ∀ {l : List α} {j : Nat}, l[j]? = some v → l.insertIdx j v = l.insertIdx (j + 1) v
  | [], j, h => by simp at h
  | a :: l, 0, h => by simp at h; simp [h]
  | a :: l, j + 1, h => by simp only [List.insertIdx_succ_cons]; rw [ins_step (by simpa using h)]
theorem ins_same {α : Type} {v : α} {l : List α} {p : Nat} : ∀ {d : Nat}, (∀ i, p ≤ i → i < p + d → l[i]? = some v) → l.insertIdx (p + d) v = l.insertIdx p v
  | 0, _ => rfl
  | d + 1, h => by
    rw [← Nat.add_assoc, ← ins_step (h (p + d) (by walk_at "om") (by walk_at "om"))]
    exact ins_same fun i h1 h2 => h i h1 (by walk_at "om")
theorem seg_mem {l : List Nat} {s d x : Nat} (h : x ∈ (l.drop s).take d) : ∃ i, s ≤ i ∧ i < s + d ∧ l[i]? = some x := by
  obtain ⟨i, hi⟩ := List.mem_iff_getElem?.mp h
  rw [List.getElem?_take] at hi
  split at hi
  · rw [List.getElem?_drop] at hi
    exact ⟨s + i, by walk_at "om", by walk_at "om", hi⟩
  · cases hi
theorem seg_count {l : List Nat} {v lo a b hi : Nat} (h1 : lo ≤ a) (h2 : a ≤ b) (h3 : b ≤ hi) (h4 : hi ≤ l.length) (e1 : ∀ i, lo ≤ i → i < a → l.getD i 0 ≠ v) (e2 : ∀ i, a ≤ i → i < b → l.getD i 0 = v) (e3 : ∀ i, b ≤ i → i < hi → l.getD i 0 ≠ v) :
    ((l.drop lo).take (hi - lo)).count v = b - a := by
  have s1 : (l.drop lo).take (hi - lo) = (l.drop lo).take (a - lo) ++ ((l.drop a).take (b - a) ++ (l.drop b).take (hi - b)) := by
    rw [show hi - lo = (a - lo) + ((b - a) + (hi - b)) by walk_at "om", List.take_add, List.drop_drop, List.take_add, List.drop_drop]
    rw [show lo + (a - lo) = a by walk_at "om", show a + (b - a) = b by walk_at "om"]
  have g : ∀ i x, l[i]? = some x → l.getD i 0 = x := fun i x h => by rw [List.getD_eq_getElem?_getD, h]; rfl
  rw [s1, List.count_append, List.count_append]
  have c1 : ((l.drop lo).take (a - lo)).count v = 0 := List.count_eq_zero.mpr fun h => by
    obtain ⟨i, i1, i2, i3⟩ := seg_mem h
    exact e1 i i1 (by walk_at "om") (g _ _ i3)
  have c3 : ((l.drop b).take (hi - b)).count v = 0 := List.count_eq_zero.mpr fun h => by
    obtain ⟨i, i1, i2, i3⟩ := seg_mem h
    exact e3 i i1 (by walk_at "om") (g _ _ i3)
  have c2 : ((l.drop a).take (b - a)).count v = b - a := by
    have : ((l.drop a).take (b - a)).count v = ((l.drop a).take (b - a)).length := List.count_eq_length.mpr fun x h => by
      obtain ⟨i, i1, i2, i3⟩ := seg_mem h
      exact (e2 i i1 (by walk_at "om")).symm.trans (g _ _ i3)
    rw [this, List.length_take, List.length_drop]; walk_at "om"
  walk_at "om"
/-- the stretch is right -/
structure Good (ys : List Nat) (P : Int) (p v : Nat) : Prop where
  w : whichN ys P + 1 < (bnds ys P).length
  lo : lowN ys P ≤ p
  hi : p ≤ highN ys P
  n : highN ys P ≤ ys.length
  m : ∀ k, lowN ys P < k → k < highN ys P → keyN ys P (k - 1) ≤ keyN ys P k
  l : lowN ys P < p → keyN ys P (p - 1) ≤ wayI ys P * (v : Int)
  r : p < highN ys P → wayI ys P * (v : Int) ≤ keyN ys P p
theorem Good.all {ys : List Nat} {P : Int} {p v : Nat} (g : Good ys P p v) :
    ((beyondN ys P v : Int) - (placeN ys P v : Int) = ((((ys.drop (lowN ys P)).take (highN ys P - lowN ys P)).count v : Nat) : Int)) ∧ ys.insertIdx (beyondN ys P v) v = ys.insertIdx p v := by
  obtain ⟨b1, b2, b3, b4⟩ := bisR_spec (keyN ys P) (wayI ys P * (v : Int)) _ (lowN ys P) (highN ys P) rfl (Nat.le_trans g.lo g.hi) g.m
  obtain ⟨a1, a2, a3, a4⟩ := bisL_spec (keyN ys P) (wayI ys P * (v : Int)) _ (lowN ys P) (highN ys P) rfl (Nat.le_trans g.lo g.hi) g.m
  change lowN ys P ≤ beyondN ys P v at b1
  change beyondN ys P v ≤ _ at b2
  change lowN ys P ≤ placeN ys P v at a1
  change placeN ys P v ≤ _ at a2
  have mono := mono_of g.m
  have hn := g.n
  have hlo := g.lo
  have hhi := g.hi
  have hp1 : p ≤ beyondN ys P v := by
    refine Nat.le_of_not_lt fun h => ?_
    have h1 := b4 (beyondN ys P v) (Nat.le_refl _) (by walk_at "om")
    have h2 := mono (p - 1 - beyondN ys P v) (beyondN ys P v) b1 (by walk_at "om")
    rw [show beyondN ys P v + (p - 1 - beyondN ys P v) = p - 1 by walk_at "om"] at h2
    have h3 := g.l (by walk_at "om")
    walk_at "om"
  have hp2 : placeN ys P v ≤ p := by
    refine Nat.le_of_not_lt fun h => ?_
    have h1 := a3 p hlo h
    have h3 := g.r (by walk_at "om")
    walk_at "om"
  have key : ∀ i, keyN ys P i = wayI ys P * (v : Int) ↔ ys.getD i 0 = v := fun i => by
    unfold keyN wayI
    split <;> constructor <;> intro h <;> walk_at "om"
  have eqs : ∀ i, placeN ys P v ≤ i → i < beyondN ys P v → ys.getD i 0 = v := fun i h1 h2 => (key i).mp (by
    have c1 := a4 i h1 (by walk_at "om")
    have c2 := b3 i (by walk_at "om") h2
    walk_at "om")
  refine ⟨?_, ?_⟩
  · rw [seg_count a1 (Nat.le_trans hp2 hp1) b2 hn (fun i h1 h2 h => by have := a3 i h1 h2; rw [(key i).mpr h] at this; walk_at "om") eqs (fun i h1 h2 h => by have := b4 i h1 h2; rw [(key i).mpr h] at this; walk_at "om")]
    walk_at "om"
  · have := ins_same (l := ys) (v := v) (p := p) (d := beyondN ys P v - p) fun i h1 h2 => by
      have hl : i < ys.length := by walk_at "om"
      rw [List.getElem?_eq_getElem hl]
      have := eqs i (by walk_at "om") (by walk_at "om")
      rw [List.getD_eq_getElem?_getD, List.getElem?_eq_getElem hl] at this
      exact congrArg some this
    rwa [show p + (beyondN ys P v - p) = beyondN ys P v by walk_at "om"] at this
noncomputable def riseB (ys : List Nat) (k : Nat) : Bool := decide (ys.getD (k - 1) 0 ≤ ys.getD k 0)
noncomputable def fallB (ys : List Nat) (k : Nat) : Bool := decide (ys.getD k 0 < ys.getD (k - 1) 0)
theorem fall_not (ys : List Nat) (k : Nat) : fallB ys k = !riseB ys k := by
  unfold fallB riseB
  by_cases h : ys.getD k 0 < ys.getD (k - 1) 0
  · rw [decide_eq_true h, decide_eq_false (by walk_at "om")]; rfl
  · rw [decide_eq_false h, decide_eq_true (by walk_at "om")]; rfl
theorem good_up {ys : List Nat} {P : Int} {p q v : Nat} (hn : 1 ≤ ys.length) (hp : p ≤ ys.length) (hr : cntF (riseB ys) (ys.length - 1) < restN ys P) (hw : restN ys P = cntF (riseB ys) (ys.length - 1) + 1 + cntF (fallB ys) (q - 1))
    (q1 : 1 ≤ q) (q2 : q ≤ ys.length) (q3 : p ≤ q) (q4 : q ≤ p + 1) (h1 : 1 ≤ p → ys.getD (p - 1) 0 ≤ v ∨ (q = p + 1 ∧ fallB ys p = true)) (h2 : p < ys.length → v ≤ ys.getD p 0 ∨ (q = p ∧ fallB ys p = true)) : Good ys P p v := by
  have hup : wayUp ys P = true := by unfold wayUp rises; rw [len_filter]; exact decide_eq_true hr
  have e1 : whichN ys P = cntF (fallB ys) (q - 1) := by
    unfold whichN; rw [if_pos hup]; unfold rises
    rw [show (((List.range' 1 (ys.length - 1)).filter fun k => decide (ys.getD (k - 1) 0 ≤ ys.getD k 0)).length) = cntF (riseB ys) (ys.length - 1) from len_filter _ _]; walk_at "om"
  have e2 : bnds ys P = 0 :: ((List.range' 1 (ys.length - 1)).filter (fallB ys) ++ [ys.length - 1 + 1]) := by
    unfold bnds; rw [if_pos hup]; unfold falls; rw [Nat.sub_add_cancel hn]; rfl
  have e3 : wayI ys P = 1 := by unfold wayI; rw [if_pos hup]
  obtain ⟨b1, b2, b3, b4, b5⟩ := bnd_of (fallB ys) (m := ys.length - 1) (q := q) q1 (by walk_at "om")
  rw [← e2, ← e1] at b1 b2 b3 b4 b5
  change lowN ys P < q at b2
  change q ≤ highN ys P at b3
  change highN ys P ≤ _ at b4
  change ∀ k, lowN ys P < k → k < highN ys P → _ at b5
  refine ⟨b1, by walk_at "om", by walk_at "om", by walk_at "om", fun k k1 k2 => ?_, fun k1 => ?_, fun k1 => ?_⟩
  · have := b5 k k1 k2
    unfold fallB at this
    unfold keyN; rw [e3]
    have := of_decide_eq_false this
    walk_at "om"
  · unfold keyN; rw [e3]
    rcases h1 (by walk_at "om") with h | ⟨h, h'⟩
    · walk_at "om"
    · rw [b5 p k1 (by walk_at "om")] at h'; cases h'
  · unfold keyN; rw [e3]
    rcases h2 (by walk_at "om") with h | ⟨h, h'⟩
    · walk_at "om"
    · rw [b5 p (by walk_at "om") k1] at h'; cases h'
theorem good_down {ys : List Nat} {P : Int} {p q v : Nat} (hn : 1 ≤ ys.length) (hp : p ≤ ys.length) (hw : restN ys P + cntF (riseB ys) (q - 1) = cntF (riseB ys) (ys.length - 1))
    (q1 : 1 ≤ q) (q2 : q ≤ ys.length) (q3 : p ≤ q) (q4 : q ≤ p + 1) (h1 : 1 ≤ p → v ≤ ys.getD (p - 1) 0 ∨ (q = p + 1 ∧ riseB ys p = true)) (h2 : p < ys.length → ys.getD p 0 ≤ v ∨ (q = p ∧ riseB ys p = true)) : Good ys P p v := by
  have hup : wayUp ys P = false := by unfold wayUp rises; rw [len_filter]; exact decide_eq_false (by show ¬ cntF (riseB ys) (ys.length - 1) < restN ys P; walk_at "om")
  have hup' : ¬ wayUp ys P = true := by rw [hup]; simp
  have e1 : whichN ys P = cntF (riseB ys) (q - 1) := by
    unfold whichN; rw [if_neg hup']; unfold rises
    rw [show (((List.range' 1 (ys.length - 1)).filter fun k => decide (ys.getD (k - 1) 0 ≤ ys.getD k 0)).length) = cntF (riseB ys) (ys.length - 1) from len_filter _ _]; walk_at "om"
  have e2 : bnds ys P = 0 :: ((List.range' 1 (ys.length - 1)).filter (riseB ys) ++ [ys.length - 1 + 1]) := by
    unfold bnds; rw [if_neg hup']; unfold rises; rw [Nat.sub_add_cancel hn]; rfl
  have e3 : wayI ys P = -1 := by unfold wayI; rw [if_neg hup']
  obtain ⟨b1, b2, b3, b4, b5⟩ := bnd_of (riseB ys) (m := ys.length - 1) (q := q) q1 (by walk_at "om")
  rw [← e2, ← e1] at b1 b2 b3 b4 b5
  change lowN ys P < q at b2
  change q ≤ highN ys P at b3
  change highN ys P ≤ _ at b4
  change ∀ k, lowN ys P < k → k < highN ys P → _ at b5
  refine ⟨b1, by walk_at "om", by walk_at "om", by walk_at "om", fun k k1 k2 => ?_, fun k1 => ?_, fun k1 => ?_⟩
  · have := b5 k k1 k2
    unfold riseB at this
    unfold keyN; rw [e3]
    have := of_decide_eq_false this
    walk_at "om"
  · unfold keyN; rw [e3]
    rcases h1 (by walk_at "om") with h | ⟨h, h'⟩
    · walk_at "om"
    · rw [b5 p k1 (by walk_at "om")] at h'; cases h'
  · unfold keyN; rw [e3]
    rcases h2 (by walk_at "om") with h | ⟨h, h'⟩
    · walk_at "om"
    · rw [b5 p (by walk_at "om") k1] at h'; cases h'
theorem ins_get {ys : List Nat} {p v : Nat} (hp : p ≤ ys.length) (k : Nat) : (ys.insertIdx p v).getD k 0 = if k < p then ys.getD k 0 else if k = p then v else ys.getD (k - 1) 0 := by
  rw [List.getD_eq_getElem?_getD, List.getElem?_insertIdx]
  split
  · rw [← List.getD_eq_getElem?_getD]
  · split
    · rename_i h; rw [if_pos (by walk_at "om")]; rfl
    · rw [← List.getD_eq_getElem?_getD]
section
variable {ys : List Nat} {p v : Nat}
theorem sum_low (hp : p ≤ ys.length) : ∀ j, j < p → sumF (riseB (ys.insertIdx p v)) j = sumF (riseB ys) j
  | 0, _ => rfl
  | j + 1, h => by
    rw [sumF, sumF, sum_low hp j (by walk_at "om")]
    have : riseB (ys.insertIdx p v) (j + 1) = riseB ys (j + 1) := by
      unfold riseB; rw [ins_get hp, ins_get hp, if_pos (by walk_at "om"), if_pos (by walk_at "om")]
    rw [this]
theorem sum_high (hp : p ≤ ys.length) : ∀ d, sumF (riseB (ys.insertIdx p v)) (p + d + 1) + sumF (riseB ys) p + cntF (riseB ys) p = sumF (riseB (ys.insertIdx p v)) (p + 1) + sumF (riseB ys) (p + d) + cntF (riseB ys) (p + d)
  | 0 => by simp only [Nat.add_zero]
  | d + 1 => by
    have ih := sum_high hp d
    have e : riseB (ys.insertIdx p v) (p + d + 1 + 1) = riseB ys (p + d + 1) := by
      unfold riseB; rw [ins_get hp, ins_get hp, if_neg (by walk_at "om"), if_neg (by walk_at "om"), if_neg (by walk_at "om"), if_neg (by walk_at "om")]; rfl
    have s1 : sumF (riseB (ys.insertIdx p v)) (p + (d + 1) + 1) = sumF (riseB (ys.insertIdx p v)) (p + d + 1) + if riseB ys (p + d + 1) = true then p + d + 1 + 1 else 0 := by
      show sumF _ (p + d + 1 + 1) = _; rw [sumF, e]
    have s2 : sumF (riseB ys) (p + (d + 1)) = sumF (riseB ys) (p + d) + if riseB ys (p + d + 1) = true then p + d + 1 else 0 := rfl
    have s3 : cntF (riseB ys) (p + (d + 1)) = cntF (riseB ys) (p + d) + if riseB ys (p + d + 1) = true then 1 else 0 := rfl
    rw [s1, s2, s3]
    split <;> walk_at "om"
/-- a number put in: the stretch is right -/
theorem good_of (hn : 1 ≤ ys.length) (hp : p ≤ ys.length) : Good ys (((rises (ys.insertIdx p v)).sum % (ys.length + 1) : Nat) : Int) p v := by
  have hlen : (ys.insertIdx p v).length = ys.length + 1 := by rw [List.length_insertIdx, if_pos hp]
  generalize hP : ((((rises (ys.insertIdx p v)).sum % (ys.length + 1) : Nat)) : Int) = P
  have sx : (rises (ys.insertIdx p v)).sum = sumF (riseB (ys.insertIdx p v)) ys.length := by
    unfold rises; rw [hlen, Nat.add_sub_cancel]; exact sum_filter _ _
  have sy : (rises ys).sum = sumF (riseB ys) (ys.length - 1) := by unfold rises; exact sum_filter _ _
  have rest : ∀ D : Nat, sumF (riseB (ys.insertIdx p v)) ys.length = sumF (riseB ys) (ys.length - 1) + D → D ≤ ys.length → restN ys P = D := fun D h1 h2 => by
    unfold restN
    rw [← hP, sx, sy, Int.fmod_eq_emod_of_nonneg _ (by walk_at "om"), h1]
    have : ((((sumF (riseB ys) (ys.length - 1) + D) % (ys.length + 1) : Nat) : Int) - (sumF (riseB ys) (ys.length - 1) : Nat)) % ((ys.length : Int) + 1) = D := by
      rw [Int.natCast_emod, show (((ys.length + 1 : Nat)) : Int) = (ys.length : Int) + 1 by walk_at "om", Int.emod_sub_emod]
      rw [show (((sumF (riseB ys) (ys.length - 1) + D : Nat) : Int) - ((sumF (riseB ys) (ys.length - 1) : Nat) : Int)) = (D : Int) by walk_at "om"]
      exact Int.emod_eq_of_lt (by walk_at "om") (by walk_at "om")
    rw [this]; rfl
  have fc := cntF_not (riseB ys) (fallB ys) (fall_not ys)
  have hR0 : cntF (riseB ys) (ys.length - 1) ≤ ys.length - 1 := by have := fc (ys.length - 1); walk_at "om"
  -- at the begin
  by_cases p0 : p = 0
  · subst p0
    have hh := sum_high (v := v) hp (ys.length - 1)
    rw [show 0 + (ys.length - 1) + 1 = ys.length by walk_at "om"] at hh
    simp only [Nat.zero_add] at hh
    have e1 : riseB (ys.insertIdx 0 v) 1 = decide (v ≤ ys.getD 0 0) := by unfold riseB; rw [ins_get hp, ins_get hp]; simp
    have z1 : sumF (riseB ys) 0 = 0 := rfl
    have z2 : cntF (riseB ys) 0 = 0 := rfl
    have z3 : sumF (riseB (ys.insertIdx 0 v)) 1 = if v ≤ ys.getD 0 0 then 1 else 0 := by
      show 0 + (if riseB (ys.insertIdx 0 v) 1 = true then 0 + 1 else 0) = _; rw [e1]; simp
    rw [z1, z2, z3] at hh
    have f0 : cntF (fallB ys) (1 - 1) = 0 := rfl
    have r0 : cntF (riseB ys) (1 - 1) = 0 := rfl
    by_cases hv : v ≤ ys.getD 0 0
    · rw [if_pos hv] at hh
      have hr := rest (cntF (riseB ys) (ys.length - 1) + 1) (by walk_at "om") (by walk_at "om")
      exact good_up (q := 1) hn hp (by walk_at "om") (by walk_at "om") (by walk_at "om") (by walk_at "om") (by walk_at "om") (by walk_at "om") (fun h => by walk_at "om") fun _ => .inl hv
    · rw [if_neg hv] at hh
      have hr := rest (cntF (riseB ys) (ys.length - 1)) (by walk_at "om") (by walk_at "om")
      exact good_down (q := 1) hn hp (by walk_at "om") (by walk_at "om") (by walk_at "om") (by walk_at "om") (by walk_at "om") (fun h => by walk_at "om") fun _ => .inl (by walk_at "om")
  obtain ⟨p', rfl⟩ : ∃ p', p = p' + 1 := ⟨p - 1, by walk_at "om"⟩
  have hl := sum_low (v := v) hp p' (by walk_at "om")
  have e1 : riseB (ys.insertIdx (p' + 1) v) (p' + 1) = decide (ys.getD p' 0 ≤ v) := by
    unfold riseB; rw [ins_get hp, ins_get hp, if_pos (by walk_at "om"), if_neg (by walk_at "om"), if_pos rfl]; rfl
  have t1 : sumF (riseB (ys.insertIdx (p' + 1) v)) (p' + 1) = sumF (riseB ys) p' + if ys.getD p' 0 ≤ v then p' + 1 else 0 := by
    rw [sumF, hl, e1]; simp
  -- at the end
  by_cases pn : p' + 1 = ys.length
  · have hm : ys.length - 1 = p' := by walk_at "om"
    rw [← pn, show p' + 1 - 1 = p' by walk_at "om"] at rest
    have hfc := fc p'
    by_cases hv : ys.getD p' 0 ≤ v
    · rw [if_pos hv] at t1
      have hr := rest (p' + 1) (by walk_at "om") (by walk_at "om")
      refine good_up (q := p' + 1) hn hp (by walk_at "om") ?_ (by walk_at "om") (by walk_at "om") (by walk_at "om") (by walk_at "om") (fun _ => .inl hv) fun h => by walk_at "om"
      rw [hm, show p' + 1 - 1 = p' by walk_at "om"]; walk_at "om"
    · rw [if_neg hv] at t1
      have hr := rest 0 (by walk_at "om") (by walk_at "om")
      refine good_down (q := p' + 1) hn hp ?_ (by walk_at "om") (by walk_at "om") (by walk_at "om") (by walk_at "om") (fun _ => .inl ?_) fun h => by walk_at "om"
      · rw [hm, show p' + 1 - 1 = p' by walk_at "om"]; walk_at "om"
      · show v ≤ ys.getD p' 0; walk_at "om"
  -- amid
  have hh := sum_high (v := v) hp (ys.length - 1 - (p' + 1))
  rw [show p' + 1 + (ys.length - 1 - (p' + 1)) + 1 = ys.length by walk_at "om", show p' + 1 + (ys.length - 1 - (p' + 1)) = ys.length - 1 by walk_at "om"] at hh
  have e2 : riseB (ys.insertIdx (p' + 1) v) (p' + 1 + 1) = decide (v ≤ ys.getD (p' + 1) 0) := by
    unfold riseB; rw [ins_get hp, ins_get hp, if_neg (by walk_at "om"), if_pos (by walk_at "om"), if_neg (by walk_at "om"), if_neg (by walk_at "om")]; rfl
  have t2 : sumF (riseB (ys.insertIdx (p' + 1) v)) (p' + 1 + 1) = sumF (riseB ys) p' + (if ys.getD p' 0 ≤ v then p' + 1 else 0) + if v ≤ ys.getD (p' + 1) 0 then p' + 1 + 1 else 0 := by
    rw [sumF, t1, e2]; simp
  have e3 : riseB ys (p' + 1) = decide (ys.getD p' 0 ≤ ys.getD (p' + 1) 0) := rfl
  have e4 : fallB ys (p' + 1) = decide (ys.getD (p' + 1) 0 < ys.getD p' 0) := rfl
  have t3 : sumF (riseB ys) (p' + 1) = sumF (riseB ys) p' + if ys.getD p' 0 ≤ ys.getD (p' + 1) 0 then p' + 1 else 0 := by rw [sumF, e3]; simp
  have t4 : cntF (riseB ys) (p' + 1) = cntF (riseB ys) p' + if ys.getD p' 0 ≤ ys.getD (p' + 1) 0 then 1 else 0 := by rw [cntF, e3]; simp
  have hm1 := cntF_mono (riseB ys) (p' + 1) (ys.length - 1 - (p' + 1))
  rw [show p' + 1 + (ys.length - 1 - (p' + 1)) = ys.length - 1 by walk_at "om"] at hm1
  have f1 := fc p'
  have f2 := fc (p' + 1)
  have f3 := fc (ys.length - 1)
  have hm2 := cntF_mono (fallB ys) (p' + 1) (ys.length - 1 - (p' + 1))
  rw [show p' + 1 + (ys.length - 1 - (p' + 1)) = ys.length - 1 by walk_at "om"] at hm2
  have hm3 := cntF_mono (fallB ys) p' 1
  have q0 : p' + 1 - 1 = p' := by walk_at "om"
  have q1 : p' + 1 + 1 - 1 = p' + 1 := by walk_at "om"
  generalize hA : ys.getD p' 0 = A at *
  generalize hB : ys.getD (p' + 1) 0 = B at *
  have hA' : ys.getD (p' + 1 - 1) 0 = A := by rw [q0]; exact hA
  have b1 : 1 ≤ p' + 1 := Nat.succ_pos _
  have b2 : p' + 1 ≤ p' + 1 + 1 := Nat.le_succ _
  have b3 : p' + 1 + 1 ≤ ys.length := by walk_at "om"
  have b4 : 1 ≤ p' + 1 + 1 := Nat.succ_pos _
  clear hl e1 e2 t1 sx sy fc hP p0 pn
  by_cases c1 : A ≤ v <;> by_cases c2 : v ≤ B <;> by_cases c3 : A ≤ B <;> simp only [c1, c2, c3, if_true, if_false] at t2 t3 t4
  · have hr := rest (cntF (riseB ys) (ys.length - 1) + 1 + cntF (fallB ys) p') (by walk_at "om") (by walk_at "om")
    exact good_up (q := p' + 1) hn hp (by walk_at "om") (by rw [q0]; exact hr) (by walk_at "om") (by walk_at "om") (by walk_at "om") (by walk_at "om") (fun _ => .inl (by walk_at "om")) fun _ => .inl (by walk_at "om")
  · walk_at "om"
  · have hr := rest (cntF (riseB ys) (ys.length - 1) - cntF (riseB ys) p' - 1) (by walk_at "om") (by walk_at "om")
    refine good_down (q := p' + 1 + 1) hn hp ?_ (by walk_at "om") (by walk_at "om") (by walk_at "om") (by walk_at "om") (fun _ => .inr ⟨rfl, ?_⟩) fun _ => .inl (by walk_at "om")
    · rw [q1]; walk_at "om"
    · rw [e3]; exact decide_eq_true c3
  · have hr := rest (cntF (riseB ys) (ys.length - 1) + 1 + cntF (fallB ys) p') (by walk_at "om") (by walk_at "om")
    refine good_up (q := p' + 1) hn hp (by walk_at "om") (by rw [q0]; exact hr) (by walk_at "om") (by walk_at "om") (by walk_at "om") (by walk_at "om") (fun _ => .inl (by walk_at "om")) fun _ => .inr ⟨rfl, ?_⟩
    rw [e4]; exact decide_eq_true (by walk_at "om")
  · have hr := rest (cntF (riseB ys) (ys.length - 1) - cntF (riseB ys) p') (by walk_at "om") (by walk_at "om")
    refine good_down (q := p' + 1) hn hp ?_ (by walk_at "om") (by walk_at "om") (by walk_at "om") (by walk_at "om") (fun _ => .inl (by walk_at "om")) fun _ => .inr ⟨rfl, ?_⟩
    · rw [q0]; walk_at "om"
    · rw [e3]; exact decide_eq_true c3
  · have c4 : fallB ys (p' + 1) = true := by rw [e4]; exact decide_eq_true (by walk_at "om")
    have hr := rest (cntF (riseB ys) (ys.length - 1) + 1 + cntF (fallB ys) (p' + 1)) (by walk_at "om") (by walk_at "om")
    exact good_up (q := p' + 1 + 1) hn hp (by walk_at "om") (by rw [q1]; exact hr) (by walk_at "om") (by walk_at "om") (by walk_at "om") (by walk_at "om") (fun _ => .inr ⟨rfl, c4⟩) fun _ => .inl (by walk_at "om")
  · walk_at "om"
  · have hr := rest (cntF (riseB ys) (ys.length - 1) - cntF (riseB ys) p') (by walk_at "om") (by walk_at "om")
    refine good_down (q := p' + 1) hn hp ?_ (by walk_at "om") (by walk_at "om") (by walk_at "om") (by walk_at "om") (fun _ => .inl (by walk_at "om")) fun _ => .inl (by walk_at "om")
    rw [q0]; walk_at "om"
end
end
section
-- plain: the sort asked
/-- an array of the places, each once -/
noncomputable def PerA (n : Nat) (p : Array Nat) : Prop := p.Perm (List.toArray (List.range n))
theorem PerA.size {n : Nat} {p : Array Nat} (h : PerA n p) : p.size = n := by have := Array.Perm.size_eq h; simpa using this
theorem PerA.nodup {n : Nat} {p : Array Nat} (h : PerA n p) : p.toList.Nodup := by
  have := Array.perm_iff_toList_perm.mp h
  exact this.nodup_iff.mpr (by simpa using List.nodup_range)
theorem PerA.lt {n : Nat} {p : Array Nat} (h : PerA n p) {i : Nat} (hi : i < n) : p.getD i 0 < n := by
  have hs := h.size
  have e : p.getD i 0 = p[i]'(by walk_at "om") := by simp [Array.getD, hs, hi]
  have hm : p[i]'(by walk_at "om") ∈ p.toList := by simp
  have := (Array.perm_iff_toList_perm.mp h).subset hm
  rw [e]; simpa using this
theorem PerA.inj {n : Nat} {p : Array Nat} (h : PerA n p) {i j : Nat} (hi : i < n) (hj : j < n) (e : p.getD i 0 = p.getD j 0) : i = j := by
  have hs := h.size
  have e1 : p.getD i 0 = p.toList[i]'(by simp; walk_at "om") := by simp [Array.getD, hs, hi]
  have e2 : p.getD j 0 = p.toList[j]'(by simp; walk_at "om") := by simp [Array.getD, hs, hj]
  rw [e1, e2] at e
  have key := List.pairwise_iff_getElem.mp h.nodup
  rcases Nat.lt_trichotomy i j with hl | hl | hl
  · exact absurd e (key i j _ _ hl)
  · exact hl
  · exact absurd e.symm (key j i _ _ hl)
theorem getD_congr {p q : Array Nat} {i j : Nat} (h : p[i]? = q[j]?) : p.getD i 0 = q.getD j 0 := by
  rw [Array.getD_eq_getD_getElem?, Array.getD_eq_getD_getElem?, h]
section
variable {n : Nat} {ρ : Nat → Nat} {s : Shared} {cmp : Nat → Nat → (Bool → Shared → Prop) → Shared → Prop}
/-- comparisons that answer by rank -/
noncomputable def Cmp (n : Nat) (ρ : Nat → Nat) (s : Shared) (cmp : Nat → Nat → (Bool → Shared → Prop) → Shared → Prop) : Prop :=
  ∀ i j, i < n → j < n → ∀ C : Bool → Shared → Prop, C (decide (ρ i < ρ j)) s → cmp i j C s
noncomputable abbrev rk (ρ : Nat → Nat) (p : Array Nat) (i : Nat) : Nat := ρ (p.getD i 0)
noncomputable def Up (ρ : Nat → Nat) (p : Array Nat) (m : Nat) : Prop := ∀ i j, i < j → j < m → rk ρ p i < rk ρ p j
noncomputable def Down (ρ : Nat → Nat) (p : Array Nat) (m : Nat) : Prop := ∀ i j, i < j → j < m → rk ρ p j < rk ρ p i
theorem up_succ {p : Array Nat} {m : Nat} (h : Up ρ p m) (h' : 1 ≤ m → rk ρ p (m - 1) < rk ρ p m) : Up ρ p (m + 1) := fun i j h1 h2 => by
  by_cases hj : j < m
  · exact h i j h1 hj
  · have e : j = m := by walk_at "om"
    subst e
    by_cases hi : i = j - 1
    · rw [hi]; exact h' (by walk_at "om")
    · exact Nat.lt_trans (h i (j - 1) (by walk_at "om") (by walk_at "om")) (h' (by walk_at "om"))
theorem down_succ {p : Array Nat} {m : Nat} (h : Down ρ p m) (h' : 1 ≤ m → rk ρ p m < rk ρ p (m - 1)) : Down ρ p (m + 1) := fun i j h1 h2 => by
  by_cases hj : j < m
  · exact h i j h1 hj
  · have e : j = m := by walk_at "om"
    subst e
    by_cases hi : i = j - 1
    · rw [hi]; exact h' (by walk_at "om")
    · exact Nat.lt_trans (h' (by walk_at "om")) (h i (j - 1) (by walk_at "om") (by walk_at "om"))
theorem rk_ne (hρ : ∀ i j, i < n → j < n → ρ i = ρ j → i = j) {p : Array Nat} (hp : PerA n p) {i j : Nat} (hi : i < n) (hj : j < n) (hne : i ≠ j) : rk ρ p i ≠ rk ρ p j := fun e =>
  hne (hp.inj hi hj (hρ _ _ (hp.lt hi) (hp.lt hj) e))
theorem asc_spec (hc : Cmp n ρ s cmp) (hρ : ∀ i j, i < n → j < n → ρ i = ρ j → i = j) {p : Array Nat} (hp : PerA n p) : ∀ (f a : Nat), 1 ≤ a → a + f = n → Up ρ p a → ∀ Q : Nat → Shared → Prop,
    (∀ m, a ≤ m → m ≤ n → Up ρ p m → (m < n → rk ρ p m < rk ρ p (m - 1)) → Q m s) → (kas_asc p f a).kasWp cmp Q s
  | 0, a, h1, h2, hu, Q, q => q a (Nat.le_refl _) (by walk_at "om") hu (by walk_at "om")
  | f + 1, a, h1, h2, hu, Q, q => by
    refine hc _ _ (hp.lt (by walk_at "om")) (hp.lt (by walk_at "om")) _ ?_
    by_cases h : rk ρ p a < rk ρ p (a - 1)
    · rw [show decide (ρ (p.getD a 0) < ρ (p.getD (a - 1) 0)) = true from decide_eq_true h]; dsimp only; rw [if_pos rfl]
      exact q a (Nat.le_refl _) (by walk_at "om") hu fun _ => h
    · rw [show decide (ρ (p.getD a 0) < ρ (p.getD (a - 1) 0)) = false from decide_eq_false h]; dsimp only; rw [if_neg (by simp)]
      refine asc_spec hc hρ hp f (a + 1) (by walk_at "om") (by walk_at "om") (up_succ hu fun _ => ?_) Q fun m m1 m2 m3 m4 => q m (by walk_at "om") m2 m3 m4
      have := rk_ne hρ hp (i := a - 1) (j := a) (by walk_at "om") (by walk_at "om") (by walk_at "om")
      walk_at "om"
theorem desc_spec (hc : Cmp n ρ s cmp) (hρ : ∀ i j, i < n → j < n → ρ i = ρ j → i = j) {p : Array Nat} (hp : PerA n p) : ∀ (f a : Nat), 1 ≤ a → a + f = n → Down ρ p a → ∀ Q : (Array Nat × Nat × Nat) → Shared → Prop,
    (∀ m, a ≤ m → m ≤ n → Down ρ p m → Q (p, m, 0) s) → (kas_desc f p a 0).kasWp cmp Q s
  | 0, a, h1, h2, hu, Q, q => q a (Nat.le_refl _) (by walk_at "om") hu
  | f + 1, a, h1, h2, hu, Q, q => by
    refine hc _ _ (hp.lt (by walk_at "om")) (hp.lt (by walk_at "om")) _ ?_
    by_cases h : rk ρ p a < rk ρ p (a - 1)
    · rw [show decide (ρ (p.getD a 0) < ρ (p.getD (a - 1) 0)) = true from decide_eq_true h]; dsimp only; rw [if_pos rfl, if_neg (by walk_at "om")]
      exact desc_spec hc hρ hp f (a + 1) (by walk_at "om") (by walk_at "om") (down_succ hu fun _ => h) Q fun m m1 m2 m3 => q m (by walk_at "om") m2 m3
    · rw [show decide (ρ (p.getD a 0) < ρ (p.getD (a - 1) 0)) = false from decide_eq_false h]; dsimp only; rw [if_neg (by simp)]
      have := rk_ne hρ hp (i := a - 1) (j := a) (by walk_at "om") (by walk_at "om") (by walk_at "om")
      refine hc _ _ (hp.lt (by walk_at "om")) (hp.lt (by walk_at "om")) _ ?_
      rw [show decide (ρ (p.getD (a - 1) 0) < ρ (p.getD a 0)) = true from decide_eq_true (by show rk ρ p (a - 1) < rk ρ p a; walk_at "om")]; dsimp only; rw [if_pos rfl]
      exact q a (Nat.le_refl _) (by walk_at "om") hu
theorem count_spec (hc : Cmp n ρ s cmp) (hρ : ∀ i j, i < n → j < n → ρ i = ρ j → i = j) {p : Array Nat} (hp : PerA n p) (h2 : 2 ≤ n) {Q : Nat × Array Nat → Shared → Prop}
    (q : ∀ m p', PerA n p' → 1 ≤ m → m ≤ n → Up ρ p' m → Q (m, p') s) : (kas_count n p).kasWp cmp Q s := by
  unfold kas_count
  rw [KasT.kasWp_bind]
  refine asc_spec hc hρ hp (n - 1) 1 (Nat.le_refl _) (by walk_at "om") (fun i j h1 h2 => by walk_at "om") _ fun m m1 m2 m3 m4 => ?_
  by_cases hm : m = n
  · rw [if_pos (by simpa using hm)]
    exact q m p hp m1 m2 m3
  rw [if_neg (by simpa using hm)]
  by_cases hm1 : m > 1
  · rw [if_pos hm1]
    refine hc _ _ (hp.lt (by walk_at "om")) (hp.lt (by walk_at "om")) _ ?_
    rw [show decide (ρ (p.getD 0 0) < ρ (p.getD (m - 1) 0)) = true from decide_eq_true (m3 0 (m - 1) (by walk_at "om") (by walk_at "om"))]; dsimp only; rw [if_pos rfl]
    exact q m p hp m1 m2 m3
  rw [if_neg hm1]
  have e1 : m = 1 := by walk_at "om"
  subst e1
  unfold kas_descPart
  rw [KasT.kasWp_bind]
  refine desc_spec hc hρ hp (n - (1 + 1)) (1 + 1) (by walk_at "om") (by walk_at "om") (down_succ (fun i j h1 h2 => by walk_at "om") fun _ => m4 (by walk_at "om")) _ fun m d1 d2 d3 => ?_
  dsimp only
  rw [if_neg (by walk_at "om")]
  unfold kas_tail3
  rw [KasT.kasWp_bind]
  have hsz := hp.size
  have hp' : PerA n (kas_rev p 0 m) := (mirror_perm p 0 m ((m - 0) / 2)).trans hp
  have hr : ∀ k, k < m → rk ρ (kas_rev p 0 m) k = rk ρ p (m - 1 - k) := fun k hk => by
    have := getElem?_mirror_all (xs := p) (i := 0) (j := m) (by walk_at "om") k
    rw [if_pos ⟨Nat.zero_le _, hk⟩] at this
    show ρ _ = ρ _
    rw [show (kas_rev p 0 m).getD k 0 = p.getD (0 + m - 1 - k) 0 from getD_congr this, Nat.zero_add]
  refine asc_spec hc hρ hp' (n - m) m (by walk_at "om") (by walk_at "om") (fun i j h1 h2 => ?_) _ fun m' a1 a2 a3 a4 => q m' _ hp' (by walk_at "om") a2 a3
  rw [hr i (by walk_at "om"), hr j h2]
  exact d3 _ _ (by walk_at "om") (by walk_at "om")
theorem place_spec (hc : Cmp n ρ s cmp) (hρ : ∀ i j, i < n → j < n → ρ i = ρ j → i = j) {p : Array Nat} (hp : PerA n p) {k : Nat} (hk : k < n) (hu : Up ρ p k) : ∀ (f l r : Nat), l ≤ r → r ≤ k → r - l ≤ f →
    (∀ i, i < l → rk ρ p i < rk ρ p k) → (∀ i, r ≤ i → i < k → rk ρ p k < rk ρ p i) → ∀ Q : Nat → Shared → Prop,
    (∀ l, l ≤ k → (∀ i, i < l → rk ρ p i < rk ρ p k) → (∀ i, l ≤ i → i < k → rk ρ p k < rk ρ p i) → Q l s) → (kas_place p k f l r).kasWp cmp Q s
  | 0, l, r, h1, h2, h3, a, b, Q, q => q l (by walk_at "om") a (by rw [show l = r by walk_at "om"]; exact b)
  | f + 1, l, r, h1, h2, h3, a, b, Q, q => by
    rw [kas_place]
    by_cases hlr : l ≥ r
    · rw [if_pos hlr]; exact q l (by walk_at "om") a (by rw [show l = r by walk_at "om"]; exact b)
    rw [if_neg hlr]
    refine hc _ _ (hp.lt (by walk_at "om")) (hp.lt (by walk_at "om")) _ ?_
    by_cases h : rk ρ p k < rk ρ p ((l + r) / 2)
    · rw [show decide (ρ (p.getD k 0) < ρ (p.getD ((l + r) / 2) 0)) = true from decide_eq_true h]; dsimp only; rw [if_pos rfl]
      refine place_spec hc hρ hp hk hu f l ((l + r) / 2) (by walk_at "om") (by walk_at "om") (by walk_at "om") a (fun i i1 i2 => ?_) Q q
      by_cases e : i = (l + r) / 2
      · rw [e]; exact h
      · exact Nat.lt_trans h (hu _ _ (by walk_at "om") i2)
    · rw [show decide (ρ (p.getD k 0) < ρ (p.getD ((l + r) / 2) 0)) = false from decide_eq_false h]; dsimp only; rw [if_neg (by simp)]
      have hne := rk_ne hρ hp (i := k) (j := (l + r) / 2) hk (by walk_at "om") (by walk_at "om")
      refine place_spec hc hρ hp hk hu f ((l + r) / 2 + 1) r (by walk_at "om") h2 (by walk_at "om") (fun i i1 => ?_) b Q q
      by_cases e : i = (l + r) / 2
      · rw [e]; walk_at "om"
      · exact Nat.lt_trans (hu i ((l + r) / 2) (by walk_at "om") (by walk_at "om")) (by walk_at "om")
theorem bin_spec (hc : Cmp n ρ s cmp) (hρ : ∀ i j, i < n → j < n → ρ i = ρ j → i = j) : ∀ (f : Nat) (p : Array Nat) (k : Nat), PerA n p → k + f = n → Up ρ p k → ∀ Q : Array Nat → Shared → Prop,
    (∀ p', PerA n p' → Up ρ p' n → Q p' s) → (kas_bin f p k).kasWp cmp Q s
  | 0, p, k, hp, h2, hu, Q, q => q p hp (by rw [show n = k by walk_at "om"]; exact hu)
  | f + 1, p, k, hp, h2, hu, Q, q => by
    rw [kas_bin, KasT.kasWp_bind]
    have hs := hp.size
    refine place_spec hc hρ hp (by walk_at "om") hu k 0 k (by walk_at "om") (by walk_at "om") (by walk_at "om") (fun i hi => by walk_at "om") (fun i i1 i2 => by walk_at "om") _ fun l hl a b => ?_
    have hp' : PerA n (bubble p k (k - l)) := (bubble_perm p k (k - l)).trans hp
    have e : ∀ i, rk ρ (bubble p k (k - l)) i = if i = l then rk ρ p k else if l < i ∧ i ≤ k then rk ρ p (i - 1) else rk ρ p i := fun i => by
      have := getElem?_bubble (xs := p) (src := k) (by walk_at "om") (k - l) (by walk_at "om") i
      rw [show k - (k - l) = l by walk_at "om"] at this
      split
      · rename_i h; rw [if_pos h] at this; exact congrArg ρ (getD_congr this)
      · rename_i h; rw [if_neg h] at this
        split
        · rename_i h'; rw [if_pos h'] at this; exact congrArg ρ (getD_congr this)
        · rename_i h'; rw [if_neg h'] at this; exact congrArg ρ (getD_congr this)
    refine bin_spec hc hρ f _ (k + 1) hp' (by walk_at "om") (fun i j h1 h2 => ?_) Q q
    rw [e i, e j]
    repeat' split
    all_goals first
      | walk_at "om"
      | exact a _ (by walk_at "om")
      | exact b _ (by walk_at "om") (by walk_at "om")
      | exact hu _ _ (by walk_at "om") (by walk_at "om")
theorem sort_spec (hc : Cmp n ρ s cmp) (hρ : ∀ i j, i < n → j < n → ρ i = ρ j → i = j) (h2 : 2 ≤ n) {Q : Array Nat → Shared → Prop} (q : ∀ p, PerA n p → Up ρ p n → Q p s) : (kas_sort n).kasWp cmp Q s := by
  unfold kas_sort
  rw [KasT.kasWp_bind]
  refine count_spec hc hρ (Array.Perm.refl _) h2 fun m p hp m1 m2 m3 => ?_
  dsimp only
  by_cases h : m < n
  · rw [if_pos h, show max m 1 = m by walk_at "om"]
    exact bin_spec hc hρ (n - m) p m hp (by walk_at "om") m3 Q q
  · rw [if_neg h]
    exact q p hp (by rw [show n = m by walk_at "om"]; exact m3)
end
end
section
-- plain: the order of the thrown ones
noncomputable abbrev kkey (ns : List Nat) (l : List Nat) (i : Nat) : Int := ((ns.getD (l.getD i 0) 0 : Nat) : Int)
noncomputable def kord (ns : List Nat) : Nat → List Nat
  | 0 => []
  | j + 1 => (kord ns j).insertIdx (bisR (kkey ns (kord ns j)) ((ns.getD j 0 : Nat) : Int) 0 j) j
noncomputable def rho (ns : List Nat) (i : Nat) : Nat := ns.getD i 0 * 64 + i
theorem kord_len (ns : List Nat) : ∀ j, (kord ns j).length = j
  | 0 => rfl
  | j + 1 => by
    have ih := kord_len ns j
    have hb := bisR_le (kkey ns (kord ns j)) ((ns.getD j 0 : Nat) : Int) _ 0 j rfl (Nat.zero_le _)
    rw [kord, List.length_insertIdx, ih, if_pos (by walk_at "om")]
theorem kord_perm (ns : List Nat) : ∀ j, (kord ns j).Perm (List.range j)
  | 0 => .refl _
  | j + 1 => by
    have ih := kord_perm ns j
    have hb := bisR_le (kkey ns (kord ns j)) ((ns.getD j 0 : Nat) : Int) _ 0 j rfl (Nat.zero_le _)
    rw [kord, List.range_succ]
    refine (List.perm_insertIdx _ _ (by rw [kord_len]; walk_at "om")).trans ?_
    exact (List.Perm.cons _ ih).trans (List.perm_append_singleton _ _).symm
theorem kord_lt (ns : List Nat) {j i : Nat} (hi : i < j) : (kord ns j).getD i 0 < j := by
  have hl := kord_len ns j
  have : (kord ns j).getD i 0 ∈ kord ns j := by
    rw [List.getD_eq_getElem?_getD, List.getElem?_eq_getElem (by walk_at "om")]; exact List.getElem_mem _
  simpa using (kord_perm ns j).subset this
theorem kord_sorted (ns : List Nat) : ∀ j, j ≤ 64 → ∀ a b, a < b → b < j → rho ns ((kord ns j).getD a 0) < rho ns ((kord ns j).getD b 0) := by
  intro j
  induction j with
  | zero => intro _ a b h1 h2; walk_at "om"
  | succ j ih0 =>
    intro hj a b h1 h2
    have ih := ih0 (by walk_at "om")
    have hl := kord_len ns j
    have mono : ∀ k, 0 < k → k < j → kkey ns (kord ns j) (k - 1) ≤ kkey ns (kord ns j) k := fun k k1 k2 => by
      have h := ih (k - 1) k (by walk_at "om") k2
      have l1 := kord_lt ns (j := j) (i := k - 1) (by walk_at "om")
      have l2 := kord_lt ns (j := j) (i := k) k2
      unfold rho at h
      show ((ns.getD ((kord ns j).getD (k - 1) 0) 0 : Nat) : Int) ≤ ((ns.getD ((kord ns j).getD k 0) 0 : Nat) : Int)
      walk_at "om"
    obtain ⟨b1, b2, b3, b4⟩ := bisR_spec (kkey ns (kord ns j)) ((ns.getD j 0 : Nat) : Int) _ 0 j rfl (Nat.zero_le _) mono
    have e : ∀ i, (kord ns (j + 1)).getD i 0 = if i < bisR (kkey ns (kord ns j)) ((ns.getD j 0 : Nat) : Int) 0 j then (kord ns j).getD i 0 else if i = bisR (kkey ns (kord ns j)) ((ns.getD j 0 : Nat) : Int) 0 j then j else (kord ns j).getD (i - 1) 0 := fun i => by
      rw [kord]; exact ins_get (by walk_at "om") i
    rw [e a, e b]
    have lo : ∀ i, i < bisR (kkey ns (kord ns j)) ((ns.getD j 0 : Nat) : Int) 0 j → rho ns ((kord ns j).getD i 0) < rho ns j := fun i hi => by
      have h := b3 i (Nat.zero_le _) hi
      have l1 := kord_lt ns (j := j) (i := i) (by walk_at "om")
      unfold kkey at h
      unfold rho
      walk_at "om"
    have hi' : ∀ i, bisR (kkey ns (kord ns j)) ((ns.getD j 0 : Nat) : Int) 0 j ≤ i → i < j → rho ns j < rho ns ((kord ns j).getD i 0) := fun i h1 h2 => by
      have h := b4 i h1 h2
      unfold kkey at h
      unfold rho
      walk_at "om"
    clear b3 b4 e mono ih0
    generalize bisR (kkey ns (kord ns j)) ((ns.getD j 0 : Nat) : Int) 0 j = B at *
    generalize kord ns j = O at *
    by_cases c1 : a < B
    · rw [if_pos c1]
      by_cases c2 : b < B
      · rw [if_pos c2]; exact ih _ _ h1 (by walk_at "om")
      rw [if_neg c2]
      by_cases c3 : b = B
      · rw [if_pos c3]; exact lo _ c1
      · rw [if_neg c3]; exact ih _ _ (by walk_at "om") (by walk_at "om")
    rw [if_neg c1, if_neg (show ¬ b < B by walk_at "om"), if_neg (show ¬ b = B by walk_at "om")]
    by_cases c4 : a = B
    · rw [if_pos c4]; exact hi' _ (by walk_at "om") (by walk_at "om")
    · rw [if_neg c4]; exact ih _ _ (by walk_at "om") (by walk_at "om")
/-- the sorted order is the same -/
theorem kord_uniq {ns : List Nat} {n : Nat} (hn : n ≤ 64) {p : Array Nat} (hp : PerA n p) (hu : Up (rho ns) p n) : p.toList = kord ns n := by
  have h1 : p.toList.Perm (kord ns n) := by
    have := Array.perm_iff_toList_perm.mp hp
    exact this.trans (by simpa using (kord_perm ns n).symm)
  have hs := hp.size
  have hkl := kord_len ns n
  refine List.Perm.eq_of_pairwise (le := fun a b => rho ns a < rho ns b) (fun a b _ _ x y => by walk_at "om") ?_ ?_ h1
  · refine List.pairwise_iff_getElem.mpr fun i j hi hj hij => ?_
    have := hu i j hij (by simpa [hs] using hj)
    unfold rk at this
    simp only [Array.length_toList] at hi hj
    have e1 : p.getD i 0 = p[i] := by simp [Array.getD, hi]
    have e2 : p.getD j 0 = p[j] := by simp [Array.getD, hj]
    rw [e1, e2] at this
    simpa using this
  · refine List.pairwise_iff_getElem.mpr fun i j hi hj hij => ?_
    have := kord_sorted ns n hn i j hij (by walk_at "om")
    rw [List.getD_eq_getElem?_getD, List.getElem?_eq_getElem hi, List.getD_eq_getElem?_getD, List.getElem?_eq_getElem hj] at this
    exact this
theorem rho_inj (ns : List Nat) {n : Nat} (hn : n ≤ 64) : ∀ i j, i < n → j < n → rho ns i = rho ns j → i = j := fun i j h1 h2 e => by unfold rho at e; walk_at "om"
theorem lex1 (a b : Int) : lexLt [a] [b] = decide (a < b) := by
  rw [lexLt, lexLt]
  by_cases h : a = b
  · rw [if_pos h, decide_eq_false (by walk_at "om")]
  · rw [if_neg h]
theorem lex2 (ns : List Nat) {n : Nat} (hn : n ≤ 64) (i j : Nat) (hi : i < n) (hj : j < n) : lexLt [((ns.getD i 0 : Nat) : Int), (i : Int)] [((ns.getD j 0 : Nat) : Int), (j : Int)] = decide (rho ns i < rho ns j) := by
  rw [lexLt, lex1]
  unfold rho
  by_cases h : ((ns.getD i 0 : Nat) : Int) = ((ns.getD j 0 : Nat) : Int)
  · rw [if_pos h]
    by_cases h2 : (i : Int) < j
    · rw [decide_eq_true h2, decide_eq_true (by walk_at "om")]
    · rw [decide_eq_false h2, decide_eq_false (by walk_at "om")]
  · rw [if_neg h]
    by_cases h2 : ((ns.getD i 0 : Nat) : Int) < ((ns.getD j 0 : Nat) : Int)
    · rw [decide_eq_true h2, decide_eq_true (by walk_at "om")]
    · rw [decide_eq_false h2, decide_eq_false (by walk_at "om")]
end
section
section
variable {X : XX} {k : Nat} {cs cs' : List Cl} {env : Env}
theorem keyLt_list {prog : Program} {w : World} {A : Around} {E : Value → Shared → Prop} {s : Shared} {l b : Addr} {vs us : List Value} {xs ys : List Int} {n n2 : Nat} {Q : Bool → Shared → Prop} (hl : IsL s.heap l vs.toArray n) (hb : IsL s.heap b us.toArray n2) (hv : Ints vs xs) (hu : Ints us ys) (hr : A.units < cLine)
    (q : Q (lexLt xs ys) s) : wpAny (model prog w) A (keyLt' oneType' (.ref l) (.ref b)) Q E s := by
  rw [keyLt'_oneType, oneLt'_eq]
  simp only [if_true]
  refine wpAny_bind (wpAny_cRoomFor hr ?_)
  refine wpAny_bind (wpAny_callSpecialIfBound?_slot ⟨_, hl, rfl⟩ F.slot_list_lt (call_meets F.slot_list_lt ⟨_, hl, rfl⟩ F.entry_list_lt (F.args_list_lt_2 _ _) (list_lt_meets l b vs us xs ys n n2 _ _ _ _ hv hu) ⟨hl, hb, ?_⟩))
  exact wpAny_truthy_bool q
/-- sorted, a list of lists of ints -/
theorem w_sortedL {l L : Addr} {vs : List Value} {ns : List (Str × Value)} {ρ : Nat → Nat} (hk : k < 60) (hm : (l, LsL vs) ∈ cs) (hL : (L, NsL ns) ∈ cs) (h2 : 2 ≤ vs.length) (h64 : vs.length < 64)
    (hρ : ∀ i j, i < vs.length → j < vs.length → ρ i = ρ j → i = j) (hrow : ∃ (xs : Nat → List Int), (∀ i, i < vs.length → ∃ a us, vs[i]? = some (.ref a) ∧ (a, LsL us) ∈ cs ∧ Ints us (xs i)) ∧ ∀ i j, i < vs.length → j < vs.length → lexLt (xs i) (xs j) = decide (ρ i < ρ j))
    {Q : Value → List Cl → Prop} (q : ∀ D p, PerA vs.length p → Up ρ p vs.length → Q (.ref D) ((D, LsL (p.toList.map fun i => vs.getD i .none)) :: cs)) : W X k (call (.builtin "sorted") [.ref l]) cs Q := .mk fun hp tk s => by
  obtain ⟨xs, hrow, hlt⟩ := hrow
  obtain ⟨m, hn, hf⟩ := NsL.ns s hL
  let news : List (Addr × Obj) := (List.range hp.objs.size).filterMap fun b => if b = L then none else (hp.get? b).map fun o => (b, o)
  have hnews : ∀ b o, (b, o) ∈ news ↔ b ≠ L ∧ hp.get? b = some o := fun b o => by
    simp only [news, List.mem_filterMap, List.mem_range]
    constructor
    · rintro ⟨c, h1, h2⟩
      split at h2
      · cases h2
      · rename_i h3
        obtain ⟨o', h4, h5⟩ := Option.map_eq_some_iff.mp h2
        cases h5
        exact ⟨h3, h4⟩
    · rintro ⟨h1, h2⟩
      exact ⟨b, Heap.lt_size h2, by rw [if_neg h1, h2]; rfl⟩
  let h₀ : Heap := { objs := #[] }
  have h0 : ∀ b, h₀.get? b = none := fun b => by
    cases e : h₀.get? b with
    | none => rfl
    | some o => have := Heap.lt_size e; simp [h₀] at this
  have F : Fr h₀ L hp m := ⟨hn, (fun b o e => by rw [h0] at e; exact nomatch e), Nat.zero_le _⟩
  have N : News h₀ L hp news := fun p hp' => by
    obtain ⟨b, o⟩ := p
    obtain ⟨h1, h2⟩ := (hnews b o).mp hp'
    exact ⟨h2, h1, h0 b⟩
  have live : ∀ {h' : Heap}, News h₀ L h' news → ∀ {a : Addr} {us : List Value}, (a, LsL us) ∈ cs → ∃ n, IsL h' a us.toArray n := fun {h'} N' {a us} ha => by
    obtain ⟨n, e⟩ := s.lsl ha
    have hne : a ≠ L := fun e' => by
      subst e'
      have hnd := s.nd
      obtain ⟨o1, g1, es, ep, d1, _⟩ := s.get hL
      rw [e] at g1
      cases g1
      cases d1
    exact ⟨n, (N' (a, _) ((hnews _ _).mpr ⟨hne, e⟩)).1⟩
  refine kas_sorted (T := .type "list") F N (s.isList hm) h2 h64 (fun h' F' N' v hv => ?_) (by decide +kernel) fun D e1 h' F' N' hlt' => ?_
  · obtain ⟨i, hi⟩ := List.mem_iff_getElem?.mp hv
    obtain ⟨a, us, ha, hc, _⟩ := hrow i (List.getElem?_eq_some_iff.mp hi).1
    rw [hi] at ha
    cases ha
    obtain ⟨n, e⟩ := live N' hc
    exact (Looks.ld (part := none) e).andThen .now
  · have N₁ : News h₀ L h' news := fun p hp' => N' p (.tail _ hp')
    refine sort_spec (ρ := ρ) (fun i j hi hj C hC => ?_) hρ h2 fun p hpa hup => ?_
    · obtain ⟨a, us, ha, hca, hia⟩ := hrow i hi
      obtain ⟨b, vs', hb, hcb, hib⟩ := hrow j hj
      obtain ⟨n1, e1⟩ := live N₁ hca
      obtain ⟨n2, e2⟩ := live N₁ hcb
      show wpAny _ _ (keyLt' oneType' (vs.getD i Value.none) (vs.getD j Value.none)) _ _ _
      rw [List.getD_eq_getElem?_getD, ha, List.getD_eq_getElem?_getD, hb]
      refine keyLt_list e1 e2 hia hib ?_ ?_
      · have hcl : cLine = 9900 := rfl
        simp only [Around.in1, AL, hcl]; walk_at "om"
      · rw [hlt i j hi hj]; exact hC
    · refine KasFin.intro F' N' (UpdF.head fun p hp' => Nat.ne_of_lt (hlt' p hp')) fun h'' c F'' N'' => ?_
      have N₂ : News h₀ L h'' news := fun p hp' => N'' p (.tail _ hp')
      have ND := N'' _ (.head _)
      refine .mk (cs := (D, LsL (p.toList.map fun i => vs.getD i .none)) :: cs) ?_ (q D p hpa hup)
      have hDo : h''.get? D = some (listOf (List.toArray (p.toList.map fun i => vs.getD i Value.none)) c) := ND.1
      have hold : ∀ b o, b ≠ L → hp.get? b = some o → h''.get? b = some o := fun b o hb e => (N₂ (b, o) ((hnews _ _).mpr ⟨hb, e⟩)).1
      have hfresh : ∀ b o, hp.get? b = some o → b ≠ D := fun b o e hbd => by
        subst hbd
        exact Nat.lt_irrefl _ (hlt' (b, o) ((hnews _ _).mpr ⟨ND.2.1, e⟩))
      have hLg : X.g.get? L = none := s.off _ hL
      refine ⟨fun b o e => hold b o (fun e' => by rw [e', hLg] at e; cases e) (s.keep _ _ e), ?_, fun c' hc' => ?_, fun c' hc' => ?_⟩
      · rw [List.map_cons, List.nodup_cons]
        refine ⟨fun hm' => ?_, s.nd⟩
        obtain ⟨c', hc', e⟩ := List.mem_map.mp hm'
        obtain ⟨o, ho, _⟩ := s.has c' hc'
        exact hfresh _ _ ho e
      · rcases List.mem_cons.mp hc' with rfl | hc'
        · show X.g.get? D = none
          cases e : X.g.get? D with
          | none => rfl
          | some o => exact absurd rfl (hfresh _ _ (s.keep _ _ e))
        · exact s.off c' hc'
      · rcases List.mem_cons.mp hc' with rfl | hc'
        · exact ⟨_, hDo, c, rfl⟩
        · by_cases hcL : c'.1 = L
          · have : c' = (L, NsL ns) := by
              have key : ∀ l : List Cl, (l.map Prod.fst).Nodup → c' ∈ l → (L, NsL ns) ∈ l → c' = (L, NsL ns) := by
                intro l
                induction l with
                | nil => exact fun _ h => nomatch h
                | cons x r ih =>
                  intro hnd h1 h2
                  rw [List.map_cons, List.nodup_cons] at hnd
                  rcases List.mem_cons.mp h1 with rfl | h1' <;> rcases List.mem_cons.mp h2 with h2' | h2'
                  · exact h2'.symm
                  · exact absurd (hcL ▸ List.mem_map_of_mem h2' : c'.1 ∈ r.map Prod.fst) hnd.1
                  · subst h2'; exact absurd (show L ∈ r.map Prod.fst from hcL ▸ List.mem_map_of_mem h1') hnd.1
                  · exact ih hnd.2 h1' h2'
              exact key cs s.nd hc' hL
            subst this
            obtain ⟨oL, es, ep, g1, g2, g3, g4⟩ := F''.ns
            exact ⟨oL, g1, es, ep, g2, g3, fun pr hpr => (g4 pr.1).trans (hf pr hpr)⟩
          · obtain ⟨o, ho, hP⟩ := s.has c' hc'
            exact ⟨o, hold _ _ hcL ho, hP⟩
end
end
section
-- plain: what the law builds
noncomputable def drawnZ (sc : List Int) : List Int := [262148, 16777286, 70, 16779042, 10] ++ sc.take 5
noncomputable def numsN (sc : List Int) : List Nat := (drawnZ sc).map fun x => (x.fmod 16777216).toNat
noncomputable def plc (sc : List Int) : Nat := (rises (numsN sc)).sum % (numsN sc).length
noncomputable def tot (sc : List Int) : Nat := (numsN sc).sum % 16777216
noncomputable def wordsL (sc : List Int) : List (List Nat) := (oct (plc sc) ++ oct (tot sc)) :: (numsN sc).map oct
theorem drawn_len (sc : List Int) : 5 ≤ (drawnZ sc).length ∧ (drawnZ sc).length ≤ 10 := by
  unfold drawnZ
  simp only [List.length_append, List.length_cons, List.length_nil, List.length_take]
  walk_at "om"
theorem nums_len (sc : List Int) : (numsN sc).length = (drawnZ sc).length := List.length_map ..
theorem words_len (sc : List Int) : (wordsL sc).length = (numsN sc).length + 1 := by simp [wordsL]
theorem fmod_nat (x : Int) : x.fmod 16777216 = (((x.fmod 16777216).toNat : Nat) : Int) ∧ (x.fmod 16777216).toNat < 16777216 := by
  rw [Int.fmod_eq_emod_of_nonneg _ (by decide)]
  walk_at "om"
theorem nums_lt (sc : List Int) : ∀ y ∈ numsN sc, y < 64 ^ 4 := fun y hy => by
  obtain ⟨x, _, rfl⟩ := List.mem_map.mp hy
  exact (fmod_nat x).2
theorem plc_lt (sc : List Int) : plc sc < 64 ^ 4 := by
  have h1 := drawn_len sc
  have h2 := nums_len sc
  have : plc sc < (numsN sc).length := Nat.mod_lt _ (by walk_at "om")
  have h3 : (64 : Nat) ^ 4 = 16777216 := by decide
  walk_at "om"
theorem tot_lt (sc : List Int) : tot sc < 64 ^ 4 := Nat.mod_lt _ (by decide)
-- plain: the text, and the lexer over it
theorem rdq_sgns (w : List Nat) (R : List Nat) : ∀ (n : Nat) (tok : List Nat), rdq (sgns false w ++ R) n tok = rdq R (n + (sgns false w).count 10) (tok ++ w) := by
  induction w with
  | nil => intro n tok; simp [sgns]
  | cons c w ih =>
    intro n tok
    have e : sgns false (c :: w) = sgn false c ++ sgns false w := rfl
    rw [e, List.append_assoc, List.count_append]
    unfold sgn
    by_cases h : need false c = true
    · rw [if_pos h, show [92, c] ++ (sgns false w ++ R) = 92 :: c :: (sgns false w ++ R) from rfl, rdq_cons, if_neg (by decide), if_pos rfl]
      rw [show (c :: (sgns false w ++ R)).drop 1 = sgns false w ++ R from rfl, show (c :: (sgns false w ++ R)).take 1 = [c] from rfl, nlc_cons, ih, List.append_assoc]
      have e2 : [92, c].count 10 = nl1 c := by unfold nl1; by_cases hc : c = 10 <;> simp [hc, List.count_cons]
      rw [e2, show nl1 92 = 0 from rfl, Nat.add_zero, Nat.add_assoc]; rfl
    · have hn : ¬ (c = 92 ∨ c = 34) := fun hc => h (by unfold need needs; rcases hc with rfl | rfl <;> simp)
      rw [if_neg h, show [c] ++ (sgns false w ++ R) = c :: (sgns false w ++ R) from rfl, rdq_cons, if_neg (fun h => hn (.inr h)), if_neg (fun h => hn (.inl h)), ih, List.append_assoc]
      have e2 : [c].count 10 = nl1 c := by unfold nl1; by_cases hc : c = 10 <;> simp [hc, List.count_cons]
      rw [e2, Nat.add_assoc]; rfl
theorem wht_need {c : Nat} (h : ¬ need true c = true) : wht c = false ∧ c ≠ 92 := by
  unfold need needs at h
  unfold wht
  simp only [if_true, Bool.or_eq_true, decide_eq_true_eq, beq_iff_eq, not_or] at h
  have h1 := h.1
  simp only [List.mem_cons, List.not_mem_nil, or_false, not_or] at h1
  simp only [List.mem_cons, List.not_mem_nil, or_false, decide_eq_false_iff_not, not_or]
  walk_at "om"
theorem rdb_sgns (w : List Nat) (R : List Nat) : ∀ (n : Nat) (tok : List Nat), rdb (sgns true w ++ R) n tok = rdb R (n + (sgns true w).count 10) (tok ++ w) := by
  induction w with
  | nil => intro n tok; simp [sgns]
  | cons c w ih =>
    intro n tok
    have e : sgns true (c :: w) = sgn true c ++ sgns true w := rfl
    rw [e, List.append_assoc, List.count_append]
    unfold sgn
    by_cases h : need true c = true
    · rw [if_pos h, show [92, c] ++ (sgns true w ++ R) = 92 :: c :: (sgns true w ++ R) from rfl, rdb_cons, if_neg (by decide), if_pos rfl]
      rw [show (c :: (sgns true w ++ R)).drop 1 = sgns true w ++ R from rfl, show (c :: (sgns true w ++ R)).take 1 = [c] from rfl, nlc_cons, ih, List.append_assoc]
      have e2 : [92, c].count 10 = nl1 c := by unfold nl1; by_cases hc : c = 10 <;> simp [hc, List.count_cons]
      rw [e2, show nl1 92 = 0 from rfl, Nat.add_zero, Nat.add_assoc]; rfl
    · obtain ⟨h1, h2⟩ := wht_need h
      rw [if_neg h, show [c] ++ (sgns true w ++ R) = c :: (sgns true w ++ R) from rfl, rdb_cons, if_neg (by rw [h1]; simp), if_neg h2, ih, List.append_assoc]
      have e2 : [c].count 10 = nl1 c := by unfold nl1; by_cases hc : c = 10 <;> simp [hc, List.count_cons]
      rw [e2, Nat.add_assoc]; rfl
theorem count_sgl (c : Nat) : [c].count 10 = nl1 c := by unfold nl1; by_cases hc : c = 10 <;> simp [hc, List.count_cons]
noncomputable def wsign (w : List Nat) : Nat := [9, 13, 10, 32].getD (w.getLastD 0 % 4) 0
theorem wsign_wht (w : List Nat) : wht (wsign w) = true ∧ wsign w ≠ 34 := by
  unfold wsign
  have : w.getLastD 0 % 4 < 4 := Nat.mod_lt _ (by decide)
  generalize w.getLastD 0 % 4 = j at *
  match j, this with
  | 0, _ => decide
  | 1, _ => decide
  | 2, _ => decide
  | 3, _ => decide
  | j + 4, h => walk_at "om"
/-- one word read -/
theorem rdt_word (b : Bool) {w : List Nat} (hw : w ≠ []) (R : List Nat) (n : Nat) : rdt (spell b w ++ R) n = ⟨w, R, n + (spell b w).count 10⟩ := by
  cases b with
  | false =>
    have e : spell false w = 34 :: (sgns false w ++ [34]) := by simp [spell]
    rw [e]
    rw [show 34 :: (sgns false w ++ [34]) ++ R = 34 :: (sgns false w ++ 34 :: R) by simp]
    rw [rdt, if_neg (by decide), if_pos rfl, rdq_sgns, rdq_cons, if_pos rfl, List.nil_append]
    rw [List.count_cons, List.count_append, count_sgl]
    simp only [show nl1 34 = 0 from rfl, Nat.add_zero]
    rfl
  | true =>
    obtain ⟨h1, h2⟩ := wsign_wht w
    have e : spell true w = (if (sgns true w).head? = some 34 then [92] else []) ++ sgns true w ++ [wsign w] := by simp [spell, wsign]
    have fin : ∀ (w' : List Nat) (n : Nat) (tok : List Nat), rdb (sgns true w' ++ wsign w :: R) n tok = ⟨tok ++ w', R, n + (sgns true w').count 10 + nl1 (wsign w)⟩ := fun w' n tok => by
      rw [rdb_sgns, rdb_cons, if_pos h1]
    cases w with
    | nil => exact absurd rfl hw
    | cons c w' =>
    have e0 : sgns true (c :: w') = sgn true c ++ sgns true w' := rfl
    rw [e, List.count_append, List.count_append, count_sgl]
    by_cases hn : need true c = true
    · have e1 : sgn true c = [92, c] := by unfold sgn; rw [if_pos hn]
      have e2 : (sgns true (c :: w')).head? ≠ some 34 := by rw [e0, e1]; simp
      rw [if_neg e2, e0, e1]
      rw [show [] ++ ([92, c] ++ sgns true w') ++ [wsign (c :: w')] ++ R = 92 :: c :: (sgns true w' ++ wsign (c :: w') :: R) by simp]
      rw [rdt, if_neg (by decide), if_neg (by decide), if_pos rfl, List.drop_one, List.tail_cons, nlc_cons, fin]
      rw [List.count_append, List.count_cons, count_sgl]
      simp only [List.take_succ_cons, List.take_zero, List.singleton_append, show nl1 92 = 0 from rfl, Nat.add_zero, List.count_nil, Nat.zero_add]
      congr 1
      simp
      walk_at "om"
    · have e1 : sgn true c = [c] := by unfold sgn; rw [if_neg hn]
      obtain ⟨g1, g2⟩ := wht_need hn
      by_cases hq : c = 34
      · subst hq
        have e2 : (sgns true (34 :: w')).head? = some 34 := by rw [e0, e1]; rfl
        rw [if_pos e2, e0, e1]
        rw [show [92] ++ ([34] ++ sgns true w') ++ [wsign (34 :: w')] ++ R = 92 :: 34 :: (sgns true w' ++ wsign (34 :: w') :: R) by simp]
        rw [rdt, if_neg (by decide), if_neg (by decide), if_pos rfl, List.drop_one, List.tail_cons, nlc_cons, fin]
        rw [List.count_append, count_sgl, count_sgl]
        simp only [List.take_succ_cons, List.take_zero, List.singleton_append, show nl1 92 = 0 from rfl, show nl1 34 = 0 from rfl, Nat.add_zero, Nat.zero_add]
        congr 1
        walk_at "om"
      · have e2 : (sgns true (c :: w')).head? ≠ some 34 := by rw [e0, e1]; simpa using hq
        rw [if_neg e2, e0, e1]
        rw [show [] ++ ([c] ++ sgns true w') ++ [wsign (c :: w')] ++ R = c :: (sgns true w' ++ wsign (c :: w') :: R) by simp]
        rw [rdt, if_neg (by rw [g1]; simp), if_neg hq, if_neg g2, fin]
        rw [List.count_append, count_sgl]
        simp only [List.singleton_append, List.count_nil, Nat.zero_add]
        congr 1
        walk_at "om"
theorem rdt_ws {a : Nat} (h : wht a = true) (R : List Nat) (n : Nat) : rdt (a :: R) n = rdt R (n + nl1 a) := by rw [rdt, if_pos h]
theorem rdt_last (w : List Nat) (n : Nat) : rdt (34 :: sgns false w) n = ⟨w, [], n + (sgns false w).count 10⟩ := by
  rw [rdt, if_neg (by decide), if_pos rfl]
  have := rdq_sgns w [] (n + nl1 34) []
  rw [List.append_nil] at this
  rw [this]; rfl
noncomputable def asign (k : Nat) : Nat := [10, 9, 32, 13].getD (k % 4) 0
noncomputable def ahd (k : Nat) (q : Bool) : List Nat := if q then [] else [asign k]
theorem asign_wht (k : Nat) : wht (asign k) = true := by
  unfold asign
  have : k % 4 < 4 := Nat.mod_lt _ (by decide)
  generalize k % 4 = j at *
  match j, this with
  | 0, _ => decide
  | 1, _ => decide
  | 2, _ => decide
  | 3, _ => decide
  | j + 4, h => walk_at "om"
/-- the words spelled, one behind the other -/
noncomputable def sfx : List (Bool × List Nat) → Nat → Bool → List Nat
  | [], _, _ => []
  | (b, w) :: r, k, q => ahd k q ++ (spell b w ++ sfx r (k + 1) (!b))
noncomputable def lq : List (Bool × List Nat) → Bool → Bool
  | [], q => q
  | (b, _) :: r, _ => lq r (!b)
theorem sfx_snoc (b : Bool) (w : List Nat) : ∀ (l : List (Bool × List Nat)) (k : Nat) (q : Bool), sfx (l ++ [(b, w)]) k q = sfx l k q ++ (ahd (k + l.length) (lq l q) ++ spell b w)
  | [], k, q => by simp [sfx, lq]
  | (b', w') :: l, k, q => by
    rw [List.cons_append, sfx, sfx_snoc b w l (k + 1) (!b'), sfx, lq, List.length_cons]
    simp only [List.append_assoc]
    rw [show k + 1 + l.length = k + (l.length + 1) by walk_at "om"]
theorem lq_last : ∀ (l : List (Bool × List Nat)) (k : Nat) (q : Bool) (t : List Nat), (t.getLast? = some 34 ↔ q = true) → ((t ++ sfx l k q).getLast? = some 34 ↔ lq l q = true)
  | [], k, q, t, h => by simpa [sfx, lq] using h
  | (b, w) :: l, k, q, t, h => by
    rw [sfx, lq, ← List.append_assoc, ← List.append_assoc]
    refine lq_last l (k + 1) (!b) _ ?_
    cases b with
    | false =>
      rw [show spell false w = (34 :: sgns false w) ++ [34] by simp [spell], ← List.append_assoc, List.getLast?_append]
      simp
    | true =>
      have := (wsign_wht w).2
      simp only [spell, if_true]
      rw [← List.append_assoc, List.getLast?_append]
      simp only [List.getLast?_singleton, Option.some_or, Option.some.injEq, Bool.not_true, Bool.false_eq_true, iff_false]
      exact this
theorem rdt_sfx {b : Bool} {w : List Nat} (hw : w ≠ []) (l : List (Bool × List Nat)) (k : Nat) (q : Bool) (R : List Nat) (n : Nat) :
    ∃ n', rdt (sfx ((b, w) :: l) k q ++ R) n = ⟨w, sfx l (k + 1) (!b) ++ R, n'⟩ ∧ n' + (sfx l (k + 1) (!b)).count 10 = n + (sfx ((b, w) :: l) k q).count 10 := by
  refine ⟨n + (ahd k q).count 10 + (spell b w).count 10, ?_, ?_⟩
  · rw [sfx, List.append_assoc, List.append_assoc]
    unfold ahd
    cases q with
    | true => rw [if_pos rfl, List.nil_append, rdt_word b hw]; rfl
    | false =>
      rw [if_neg (by simp), List.singleton_append, rdt_ws (asign_wht k), rdt_word b hw, count_sgl]
  · rw [sfx, List.count_append, List.count_append]; walk_at "om"
noncomputable def bares (sc : List Int) : List Bool := (16777216 :: drawnZ sc).map fun x => (x.fdiv 16777216).fmod 2 == 1
noncomputable def items (sc : List Int) : List (Bool × List Nat) := (bares sc).zip (wordsL sc)
noncomputable def begunL (sc : List Int) : List Nat := sfx (items sc) 0 false
noncomputable def word0 (sc : List Int) : List Nat := oct (plc sc) ++ oct (tot sc)
noncomputable def tailL (sc : List Int) : List Nat := 10 :: 32 :: 34 :: sgns false (word0 sc)
noncomputable def textL (sc : List Int) : List Nat := begunL sc ++ tailL sc
theorem bares_len (sc : List Int) : (bares sc).length = (wordsL sc).length := by rw [words_len, nums_len]; simp [bares]
theorem items_len (sc : List Int) : (items sc).length = (wordsL sc).length := by
  unfold items; rw [List.length_zip, bares_len, Nat.min_self]
theorem word_ne {sc : List Int} {w : List Nat} (h : w ∈ wordsL sc) : w ≠ [] ∧ w.length ≤ 8 := by
  rcases List.mem_cons.mp h with rfl | h
  · refine ⟨fun e => ?_, ?_⟩
    · have := oct_pos (plc sc)
      rw [(List.append_eq_nil_iff.mp e).1] at this
      simp at this
    · have h1 := oct_len (plc_lt sc)
      have h2 := oct_len (tot_lt sc)
      rw [List.length_append]; walk_at "om"
  · obtain ⟨y, hy, rfl⟩ := List.mem_map.mp h
    refine ⟨fun e => ?_, ?_⟩
    · have := oct_pos y; rw [e] at this; simp at this
    · have := oct_len (nums_lt sc y hy); walk_at "om"
theorem items_get {sc : List Int} {j : Nat} (hj : j < (wordsL sc).length) : ∃ b w, (items sc)[j]? = some (b, w) ∧ (bares sc)[j]? = some b ∧ (wordsL sc)[j]? = some w := by
  have h1 : j < (bares sc).length := by rw [bares_len]; exact hj
  refine ⟨(bares sc)[j], (wordsL sc)[j], ?_, List.getElem?_eq_getElem h1, List.getElem?_eq_getElem hj⟩
  unfold items
  rw [List.getElem?_zip_eq_some]
  exact ⟨List.getElem?_eq_getElem h1, List.getElem?_eq_getElem hj⟩
theorem spell_le (b : Bool) (w : List Nat) : (spell b w).length ≤ 2 * w.length + 2 := by
  have := sgns_le b w
  unfold spell
  split
  · split <;> simp <;> walk_at "om"
  · simp; walk_at "om"
theorem sfx_len : ∀ (l : List (Bool × List Nat)) (k : Nat) (q : Bool), (∀ p ∈ l, p.2.length ≤ 8) → (sfx l k q).length ≤ 19 * l.length
  | [], k, q, _ => by simp [sfx]
  | (b, w) :: l, k, q, h => by
    have ih := sfx_len l (k + 1) (!b) fun p hp => h p (.tail _ hp)
    have hw := h (b, w) (.head _)
    have hs := spell_le b w
    rw [sfx, List.length_append, List.length_append, List.length_cons]
    have : (ahd k q).length ≤ 1 := by unfold ahd; split <;> simp
    dsimp only at hw
    walk_at "om"
theorem items_word {sc : List Int} {p : Bool × List Nat} (h : p ∈ items sc) : p.2 ∈ wordsL sc := List.of_mem_zip h |>.2
theorem take_len (sc : List Int) (j : Nat) : (sfx ((items sc).take j) 0 false).length ≤ 209 := by
  have h := sfx_len ((items sc).take j) 0 false fun p hp => (word_ne (items_word (List.mem_of_mem_take hp))).2
  have h1 := items_len sc
  have h2 := words_len sc
  have h3 := nums_len sc
  have h4 := drawn_len sc
  have : ((items sc).take j).length ≤ 11 := by rw [List.length_take]; walk_at "om"
  walk_at "om"
theorem begun_len (sc : List Int) : (begunL sc).length ≤ 209 := by
  have := take_len sc (items sc).length
  rwa [List.take_length] at this
theorem text_len (sc : List Int) : (textL sc).length ≤ 300 := by
  have h1 := begun_len sc
  have h2 := sgns_le false (word0 sc)
  have h3 : (word0 sc).length ≤ 8 := (word_ne (List.mem_cons_self (a := word0 sc) (l := (numsN sc).map oct))).2
  unfold textL tailL
  rw [List.length_append, List.length_cons, List.length_cons, List.length_cons]
  walk_at "om"
end
section
noncomputable abbrev lawE (L fa : Addr) (cd : Value) : Env := ev (scOf (stmtAt 14)) "law" L fa cd (cellsFrom (L + 1) (scOf (stmtAt 14)).names [])
section
variable {X : XX} {k : Nat} {cs cs' : List Cl} {env : Env} {K : Frag}
/-- a slice of a standing list -/
theorem w_slG {value slice : Expr} {l sl : Addr} {xs : List Value} {vl vu : Value} {lo hi : Option Int} {Q : Value → List Cl → Prop} (hg : X.g.IsList l xs.toArray) (hsm : (sl, SlO vl vu .none) ∈ cs) (pl : IsPart vl lo) (pu : IsPart vu hi) (hsz : xs.length ≤ 16777216)
    {ys : List Value} (hy : slicePick xs.toArray lo hi none = ys.toArray) (q : ∀ a, Q (.ref a) ((a, LsL ys) :: cs)) (hs : subscripted slice false (.ref l) (.ref sl) = operate [.ref sl, .ref l] (getItem (.ref l) (.ref sl))) : W X k (subscriptTail value slice (.ref l) (.ref sl)) cs Q := .mk fun hp tk s => by
  obtain ⟨o₁, ho₁, hc₁, n₁, hd₁⟩ := hg
  have e : hp.IsList l xs.toArray := ⟨o₁, s.keep _ _ ho₁, hc₁, n₁, hd₁⟩
  obtain ⟨o, ho, e2⟩ := s.get hsm
  unfold SlO at e2
  subst e2
  refine PyProof.Rows.tail_any e.typeIs slot_list_getitem.lookup (wpAny_getItem_list_slice e ⟨_, ho, rfl, rfl⟩ pl pu .none (by simp) ?_ (by rw [List.size_toArray]; exact hsz)) hs
  rw [hy]
  exact .mk (s.push (P := LsL ys) rfl ⟨_, rfl⟩) (q _)
theorem Ints.take {xs : List Value} {ns : List Int} (h : Ints xs ns) (j : Nat) : Ints (xs.take j) (ns.take j) := by
  unfold Ints at *; rw [List.map_take, h, List.map_take]
theorem Ints.append {xs us : List Value} {ns ms : List Int} (h : Ints xs ns) (h' : Ints us ms) : Ints (xs ++ us) (ns ++ ms) := by
  unfold Ints at *; rw [List.map_append, h, h', List.map_append]
/-- the law, up to the words -/
theorem lawA (hS : Stat X) {L fa sl : Addr} {cd : Value} {sv : List Value} {sc : List Int} {T : List Cl} (hg : X.g.IsList sl sv.toArray) (hsv : Ints sv sc) (hl : sc.length ≤ 63)
    {Q : Flow → List Cl → Prop}
    (q : ∀ dr nl wl dv nv wv tp tt, Ints dv (drawnZ sc) → Nats nv (numsN sc) → Strs wv ((wordsL sc).map strOf) → W X 0 (execs ((bodyOf (stmtAt 14)).drop 5) (lawE L fa cd))
      ((L, NsL [("script", .ref sl), ("drawn", .ref dr), ("places", .int ((plc sc : Nat) : Int) tp), ("total", .int ((tot sc : Nat) : Int) tt), ("words", .ref wl)]) :: (L + 2, CellN) :: (L + 1, CellV (.ref nl)) :: (dr, LsL dv) :: (nl, LsL nv) :: (wl, LsL wv) :: T) Q) :
    W X 0 (execs (bodyOf (stmtAt 14)) (lawE L fa cd)) ((L, NsL [("script", .ref sl)]) :: (L + 2, CellN) :: (L + 1, CellN) :: T) Q := by
  have hsl : sv.length = sc.length := hsv.length
  repeat walk_at "w"
  refine ⟨of_decide_eq_true (by kernel_rfl), fun a0 => ?_⟩
  repeat walk_at "w"
  refine w_slice (w_part0 (w_part1 ?_))
  repeat walk_at "w"
  refine w_part0 fun s1 => ?_
  refine w_slG (xs := sv) (ys := sv.take 5) hg (.head _) .none (.int _ _) (show sv.length ≤ 16777216 by walk_at "om") (slice_upto sv 5) (fun a1 => ?_) (by kernel_rfl)
  refine w_addL (.tail _ (.tail _ (.head _))) (.head _) (by simp only [List.length_cons, List.length_nil, List.length_take]; exact (show _ ≤ 16777216 by walk_at "om")) fun dr => ?_
  generalize hdv : (_ ++ List.take 5 sv : List Value) = dv
  have hd : Ints dv (drawnZ sc) := by
    subst hdv
    unfold drawnZ
    exact Ints.append (by simp [Ints, iv]) (hsv.take 5)
  clear hdv
  have hdl := hd.length
  have hdl1 := drawn_len sc
  have hnl := nums_len sc
  repeat walk_at "w"
  with_reducible refine' w_assign ?_ (by kernel_rfl)
  walk_at "comp0"
  repeat walk_at "w"
  refine w_iterL (xs := dv) (by walk_at "mem") fun it => ?_
  refine compI0 (itrL (l := dr) (xs := dv)) (fun j vs => Nats vs ((numsN sc).take j)) (show dv.length ≤ 16777216 by walk_at "om") (fun j ys C D => by walk_at "mem") Nats.nil (fun C D j hj v hv vs hl hi => ?_) fun nl nv hl hi => ?_
  · obtain ⟨x, t, hx, rfl⟩ := hd.get hv
    repeat walk_at "w"
    refine ⟨ent_turn, ?_⟩
    have hx2 : (numsN sc)[j]? = some (x.fmod 16777216).toNat := by unfold numsN; rw [List.getElem?_map, hx]; rfl
    rw [take_snoc hx2]
    exact hi.snoc (fmod_nat x).1
  rw [hdl, List.take_of_length_le (by walk_at "om")] at hi
  have hvl : nv.length = (numsN sc).length := hi.length
  have hnl1 : (nv.length : Int) - 1 = (((numsN sc).length - 1 : Nat) : Int) := by walk_at "om"
  repeat walk_at "w"
  with_reducible refine' w_comp [("numbers", L + 1)] ?_ (by kernel_rfl) (fun _ => by kernel_rfl) (by kernel_rfl) (by kernel_rfl)
  repeat walk_at "w"
  refine w_len (xs := nv) (by walk_at "mem") (show nv.length ≤ 16777216 by walk_at "om") fun _ => ?_
  repeat walk_at "w"
  refine w_range2 fun rg => ?_
  refine w_iterR (.head _) (by walk_at "om") (by rw [hvl]; exact small_ok (by walk_at "om")) fun it2 => ?_
  rw [hnl1]
  generalize hys : numsN sc = ys at *
  refine compI itrR (fun j us => Nats us ((List.range' 1 j).filter fun k => decide (ys.getD (k - 1) 0 ≤ ys.getD k 0))) (show ys.length - 1 ≤ 16777216 by walk_at "om") (fun j ys C D => trivial) Nats.nil (fun C D' j hj v hv us hl hi' => ?_) fun risesA usrises hl hirises => ?_
  · obtain ⟨t, rfl⟩ := hv
    have e1 : (1 : Int) + (j : Int) = ((1 + j : Nat) : Int) := by walk_at "om"
    rw [e1]
    obtain ⟨ta, ga⟩ := hi.at (j := 1 + j) (List.getElem?_eq_getElem (by walk_at "om"))
    obtain ⟨tb, gb⟩ := hi.at (j := j) (List.getElem?_eq_getElem (by walk_at "om"))
    have da : ys.getD (1 + j) 0 = ys[1 + j] := (List.getElem_eq_getD 0).symm
    have db : ys.getD (1 + j - 1) 0 = ys[j] := by rw [show 1 + j - 1 = j by walk_at "om"]; exact (List.getElem_eq_getD 0).symm
    refine w_tests1 ?_
    repeat walk_at "w"
    refine w_itemL (xs := nv) (by walk_at "mem") rfl ga (show nv.length ≤ 16777216 by walk_at "om") ?_ (by kernel_rfl)
    repeat walk_at "w"
    refine w_itemL (xs := nv) (by walk_at "mem") (show ((1 + j : Nat) : Int) - 1 = (j : Int) by walk_at "om") gb (show nv.length ≤ 16777216 by walk_at "om") ?_ (by kernel_rfl)
    repeat walk_at "w"
    have hsn : (List.range' 1 (j + 1)).filter (fun k => decide (ys.getD (k - 1) 0 ≤ ys.getD k 0)) = (List.range' 1 j).filter (fun k => decide (ys.getD (k - 1) 0 ≤ ys.getD k 0)) ++ (if decide (ys.getD ((1 + j) - 1) 0 ≤ ys.getD (1 + j) 0) then [1 + j] else []) := by
      rw [List.range'_1_concat, List.filter_append]
      congr 1
      simp only [List.filter_cons, List.filter_nil]
    rw [hsn, da, db]
    refine ifB (fun h => ?_) fun h => ?_
    · rw [if_pos (by simpa using h)]
      repeat walk_at "w"
      exact ⟨ent_turn, hi'.snoc rfl⟩
    · rw [if_neg (by simpa using h), List.append_nil]
      exact ⟨ent_turn, hi'⟩
  repeat walk_at "w"
  refine w_sum (xs := usrises) (by walk_at "mem") hirises fun _ => ?_
  repeat walk_at "w"
  refine w_len (xs := nv) (by walk_at "mem") (show nv.length ≤ 16777216 by walk_at "om") fun _ => ?_
  repeat walk_at "w"
  refine w_mod (by walk_at "om") fun tp => ?_
  have eP : ((List.map (fun n : Nat => (n : Int)) ((List.range' 1 (ys.length - 1)).filter fun k => decide (ys.getD (k - 1) 0 ≤ ys.getD k 0))).sum).fmod (nv.length : Int) = ((plc sc : Nat) : Int) := by
    rw [sum_cast, hvl, fmodN]
    unfold plc
    rw [hys]
    rfl
  rw [eP]
  repeat walk_at "w"
  refine w_sum (xs := nv) (by walk_at "mem") hi fun _ => ?_
  have eT : ((List.map (fun n : Nat => (n : Int)) ys).sum).fmod 16777216 = ((tot sc : Nat) : Int) := by
    rw [sum_cast, show (16777216 : Int) = ((16777216 : Nat) : Int) from rfl, fmodN]
    unfold tot
    rw [hys]
  repeat walk_at "w"
  rw [eT]
  refine ⟨Kp.of_fn hS.f95, c_octets hS (by walk_at "om") (plc sc) _ (plc_lt sc) fun t1 => ?_⟩
  repeat walk_at "w"
  refine ⟨Kp.of_fn hS.f95, c_octets hS (by walk_at "om") (tot sc) _ (tot_lt sc) fun t2 => ?_⟩
  have o1 := oct_len (plc_lt sc)
  have o2 := oct_len (tot_lt sc)
  refine w_addT (a := oct (plc sc)) (b := oct (tot sc)) (by walk_at "om") fun t3 => ?_
  repeat walk_at "w"
  refine ⟨of_decide_eq_true (by kernel_rfl), fun a2 => ?_⟩
  walk_at "comp0"
  repeat walk_at "w"
  refine w_iterL (xs := nv) (by walk_at "mem") fun it3 => ?_
  refine compI0 (itrL (l := nl) (xs := nv)) (fun j vs => Strs vs ((ys.take j).map octS)) (show nv.length ≤ 16777216 by walk_at "om") (fun j ys C D => by walk_at "mem") Strs.nil (fun C D j hj v hv vs hl hi' => ?_) fun wa wn hwl hwi => ?_
  · obtain ⟨y, t, hy, rfl⟩ := hi.get hv
    have hyl : y < 64 ^ 4 := nums_lt sc y (hys ▸ List.mem_of_getElem? hy)
    repeat walk_at "w"
    refine ⟨Kp.of_fn hS.f95, c_octets hS (by walk_at "om") y _ hyl fun t4 => ⟨ent_turn, ?_⟩⟩
    rw [take_snoc hy, List.map_append]
    exact hi'.snoc
  rw [hvl, List.take_of_length_le (Nat.le_refl _)] at hwi
  refine w_addL (.tail _ (.head _)) (.head _) (by simp only [List.length_cons, List.length_nil]; exact (show _ ≤ 16777216 by walk_at "om")) fun wl => ?_
  walk_at "w"
  walk_at "w"
  have hw : Strs ([.str (strOf (oct (plc sc) ++ oct (tot sc))) t3] ++ wn) ((wordsL sc).map strOf) := by
    unfold wordsL
    rw [hys]
    unfold Strs at hwi ⊢
    rw [List.map_append, hwi, List.map_cons, List.map_cons]
    simp only [List.map_cons, List.map_nil, List.singleton_append, List.map_map]
    rfl
  refine' W.weak (Lay.ent ?lay) (q dr nl wl dv nv _ tp _ hd (hys ▸ hi) hw)
  case lay => walk_at "lay"
end
end
section
/-- the text of the first j words -/
noncomputable abbrev txt (sc : List Int) (j : Nat) : List Nat := sfx ((items sc).take j) 0 false
theorem txt_succ {sc : List Int} {j : Nat} {b : Bool} {w : List Nat} (h : (items sc)[j]? = some (b, w)) : txt sc (j + 1) = txt sc j ++ (ahd j (lq ((items sc).take j) false) ++ spell b w) := by
  unfold txt
  rw [take_snoc h, sfx_snoc, List.length_take, Nat.zero_add]
  have hj : j < (items sc).length := (List.getElem?_eq_some_iff.mp h).1
  rw [show min j (items sc).length = j by walk_at "om"]
theorem last_eq (l : List Nat) : (strOf (l.drop (l.length - 1)) == strOf [34]) = decide (l.getLast? = some 34) := by
  by_cases h : l = []
  · subst h; rfl
  · have hp := List.length_pos_iff.mpr h
    have e : l.drop (l.length - 1) = [l.getLast h] := by
      have e1 := List.dropLast_concat_getLast h
      have e2 : l.length - 1 = l.dropLast.length := by rw [List.length_dropLast]
      rw [e2]
      conv => lhs; rw [← e1]
      rw [List.drop_left' (by simp)]
    rw [e, List.getLast?_eq_some_getLast h]
    have := take_one_eq [l.getLast h] 34
    rw [show [l.getLast h].take 1 = [l.getLast h] from rfl] at this
    rw [this]; rfl
theorem txt_last (sc : List Int) (j : Nat) : decide ((txt sc j).getLast? = some 34) = lq ((items sc).take j) false := by
  have := lq_last ((items sc).take j) 0 false [] (by simp)
  rw [List.nil_append] at this
  cases h : lq ((items sc).take j) false with
  | true => exact decide_eq_true (this.mpr h)
  | false => exact decide_eq_false fun z => by rw [this.mp z] at h; cases h
theorem small_ok0 {n : Nat} (h : n ≤ 100000) : Builtin.Range.small 0 n 1 = true := by
  unfold Builtin.Range.small Builtin.Range.rangeFitsLong Builtin.Range.rangeSize
  simp
  split <;> walk_at "om"
theorem ent_ns2 {i L : Addr} {P : Obj → Prop} {l l' : List (Str × Value)} {r : List Cl} (h : ∀ p ∈ l', p ∈ l) : Ent ((i, P) :: (L, NsL l) :: r) ((i, P) :: (L, NsL l') :: r) :=
  Ent.of (fun h => h) fun c hc => by
    rcases List.mem_cons.mp hc with rfl | hc
    · exact ⟨_, .head _, rfl, fun _ h => h⟩
    rcases List.mem_cons.mp hc with rfl | hc
    · exact ⟨_, .tail _ (.head _), rfl, NsL.sub h⟩
    · exact ⟨c, .tail _ (.tail _ hc), rfl, fun _ h => h⟩
theorem clip_last (n d : Nat) : clipL n d (some (-1)) = n - 1 := by
  show (max 0 (min (if (-1 : Int) < 0 then -1 + (n : Int) else -1) (n : Int))).toNat = n - 1
  rw [if_pos (by decide)]
  walk_at "om"
theorem WExecs.of {X : XX} {k : Nat} {env : Env} {rest : List Stmt} {c : List Cl} {Q : Flow → List Cl → Prop} (h : W X k (execs rest env) c Q) : WExecs X k env rest Q .next c := h
section
variable {X : XX} {k : Nat} {cs cs' : List Cl} {env : Env} {K : Frag}
/-- the law, the text -/
theorem lawB (hS : Stat X) {L fa sl dr nl wl : Addr} {cd : Value} {sc : List Int} {dv nv wv : List Value} {tp tt : Tok} {T : List Cl} (hd : Ints dv (drawnZ sc)) (hn : Nats nv (numsN sc)) (hw : Strs wv ((wordsL sc).map strOf))
    {Q : Flow → List Cl → Prop}
    (q : ∀ t1 t2, W X 0 (execs ((bodyOf (stmtAt 14)).drop 9) (lawE L fa cd))
      ((L, NsL [("places", .int ((plc sc : Nat) : Int) tp), ("total", .int ((tot sc : Nat) : Int) tt), ("words", .ref wl), ("text", .str (strOf (textL sc)) t1), ("begun", .str (strOf (begunL sc)) t2)]) :: (L + 2, CellN) :: (L + 1, CellV (.ref nl)) :: (nl, LsL nv) :: (wl, LsL wv) :: T) Q) :
    W X 0 (execs ((bodyOf (stmtAt 14)).drop 5) (lawE L fa cd)) ((L, NsL [("script", .ref sl), ("drawn", .ref dr), ("places", .int ((plc sc : Nat) : Int) tp), ("total", .int ((tot sc : Nat) : Int) tt), ("words", .ref wl)]) :: (L + 2, CellN) :: (L + 1, CellV (.ref nl)) :: (dr, LsL dv) :: (nl, LsL nv) :: (wl, LsL wv) :: T) Q := by
  have hdl := hd.length
  have hdl1 := drawn_len sc
  have hnl := nums_len sc
  have hwl : wv.length = (wordsL sc).length := by rw [hw.length, List.length_map]
  have hwl1 := words_len sc
  have hil := items_len sc
  repeat walk_at "w"
  refine w_for ?_ (fun _ => by kernel_rfl)
  repeat walk_at "w"
  refine w_len (xs := wv) (by walk_at "mem") (show wv.length ≤ 16777216 by walk_at "om") fun _ => ?_
  repeat walk_at "w"
  refine w_range1 fun rg => ?_
  refine w_iterR (.head _) (by walk_at "om") (small_ok0 (n := wv.length) (by walk_at "om")) fun it => ?_
  rw [Int.sub_zero, hwl]
  refine' WC.weak (Lay.ent ?lay) (w_forItr (i := it) itrR (fun j c => ∃ t1, c = (L, NsL [("script", .ref sl), ("drawn", .ref dr), ("places", .int ((plc sc : Nat) : Int) tp), ("total", .int ((tot sc : Nat) : Int) tt), ("words", .ref wl), ("text", .str (strOf (txt sc j)) t1)]) :: (L + 2, CellN) :: (L + 1, CellV (.ref nl)) :: (dr, LsL dv) :: (nl, LsL nv) :: (wl, LsL wv) :: T)
    (fun j c h => trivial) (fun j hj v hv c hJ => ?_) (fun c hJ => ?_) ⟨_, rfl⟩)
  case lay => walk_at "lay"
  · obtain ⟨t, rfl⟩ := hv
    obtain ⟨t1, rfl⟩ := hJ
    rw [Int.zero_add]
    obtain ⟨b, w, hi1, hi2, hi3⟩ := items_get hj
    have htl : (txt sc j).length ≤ 209 := take_len sc j
    obtain ⟨hwne, hwle⟩ := word_ne (List.mem_of_getElem? hi3)
    obtain ⟨tw, gw⟩ := hw.at (j := j) (n := strOf w) (by rw [List.getElem?_map, hi3]; rfl)
    iterate 3 walk_at "w"
    refine W.mono (Q := fun v c => ∃ ta, v = .str (strOf (ahd j (lq ((items sc).take j) false))) ta ∧ Ent c ((it, RgI 0 (wordsL sc).length (j + 1)) :: (L, NsL [("script", .ref sl), ("drawn", .ref dr), ("places", .int ((plc sc : Nat) : Int) tp), ("total", .int ((tot sc : Nat) : Int) tt), ("words", .ref wl), ("text", .str (strOf (txt sc j)) t1), ("k", .int j t)]) :: (L + 2, CellN) :: (L + 1, CellV (.ref nl)) :: (dr, LsL dv) :: (nl, LsL nv) :: (wl, LsL wv) :: T)) ?_ fun v c h => ?_
    · repeat walk_at "w"
      refine w_slice (w_part1 ?_)
      repeat walk_at "w"
      refine w_part0 ?_
      refine w_part0 fun s1 => ?_
      refine w_sliceT (l := txt sc j) (some (-1, _)) none (.head _) (by walk_at "om") (r := (txt sc j).drop ((txt sc j).length - 1)) ?_ (fun u1 => ?_) (by kernel_rfl)
      · show ((txt sc j).drop (clipL (txt sc j).length 0 (some (-1)))).take (clipL (txt sc j).length (txt sc j).length none - clipL (txt sc j).length 0 (some (-1))) = _
        rw [clip_last]
        exact List.take_of_length_le (by rw [List.length_drop]; exact Nat.le_refl _)
      repeat walk_at "w"
      rw [show (strOf ((txt sc j).drop ((txt sc j).length - 1)) == (Str.ofString "\"")) = lq ((items sc).take j) false from (last_eq _).trans (txt_last sc j)]
      refine ifB (fun h => ?_) fun h => ?_
      · repeat walk_at "w"
        rw [h]
        refine ⟨_, rfl, Lay.ent (by walk_at "lay")⟩
      · repeat walk_at "w"
        rw [h]
        rw [show ((j : Nat) : Int).fmod 4 = ((j % 4 : Nat) : Int) from fmodN j 4]
        have h4 : j % 4 < 4 := Nat.mod_lt _ (by decide)
        refine w_itemT (l := [10, 9, 32, 13]) (c := asign j) (by walk_at "om") (by
            rw [if_neg (by walk_at "om"), Int.toNat_natCast]
            unfold asign
            generalize j % 4 = r at h4
            match r, h4 with
            | 0, _ => rfl
            | 1, _ => rfl
            | 2, _ => rfl
            | 3, _ => rfl) (by rw [if_neg (by walk_at "om")]; walk_at "om") (fun u5 => ?_) (by kernel_rfl)
        exact ⟨u5, rfl, Lay.ent (by walk_at "lay")⟩
    obtain ⟨ta, rfl, he⟩ := h
    refine W.weak he ?_
    repeat walk_at "w"
    refine w_itemL (xs := wv) (by walk_at "mem") rfl gw (show wv.length ≤ 16777216 by walk_at "om") ?_ (by kernel_rfl)
    repeat walk_at "w"
    refine ⟨of_decide_eq_true (by kernel_rfl), fun a0 => ?_⟩
    repeat walk_at "w"
    refine w_addL (.head _) (by walk_at "mem") (by simp only [List.length_cons, List.length_nil]; exact (show _ ≤ 16777216 by walk_at "om")) fun a1 => ?_
    generalize hDV : ([_] ++ dv : List Value) = DV
    have hD : Ints DV (16777216 :: drawnZ sc) := by
      subst hDV
      exact Ints.append (xs := [_]) (ns := [16777216]) (by simp [Ints, iv]) hd
    have hDl := hD.length
    rw [List.length_cons] at hDl
    clear hDV
    obtain ⟨x, hx, rfl⟩ : ∃ x, (16777216 :: drawnZ sc)[j]? = some x ∧ ((x.fdiv 16777216).fmod 2 == 1) = b := by
      unfold bares at hi2
      rw [List.getElem?_map] at hi2
      exact Option.map_eq_some_iff.mp hi2
    obtain ⟨t7, g7⟩ := hD.at hx
    repeat walk_at "w"
    refine w_itemL (xs := DV) (by walk_at "mem") rfl g7 (show DV.length ≤ 16777216 by walk_at "om") ?_ (by kernel_rfl)
    repeat walk_at "w"
    refine ⟨Kp.of_fn hS.f105, ?_⟩
    refine c_spelled hS (by walk_at "om") hwne hwle fun t8 => ?_
    have hsl := spell_le ((x.fdiv 16777216).fmod 2 == 1) w
    have hal : (ahd j (lq ((items sc).take j) false)).length ≤ 1 := by unfold ahd; split <;> simp
    refine w_addT (by walk_at "om") fun t9 => ?_
    refine w_iaddT (by rw [List.length_append]; walk_at "om") fun t10 => ?_
    rw [← txt_succ hi1]
    repeat walk_at "w"
    refine' ⟨_, Ent.trans (Lay.ent ?lay) (ent_ns2 ?sub), t10, rfl⟩
    case lay => walk_at "lay"
    case sub => walk_at "subs"
  · obtain ⟨t1, rfl⟩ := hJ
    refine w_next ?_
    have hb : txt sc (wordsL sc).length = begunL sc := by unfold txt begunL; rw [← hil, List.take_length]
    have hbl := begun_len sc
    rw [hb]
    obtain ⟨tw, gw⟩ := hw.at (j := 0) (n := strOf (word0 sc)) rfl
    obtain ⟨hne, hle⟩ := word_ne (List.mem_cons_self (a := word0 sc) (l := (numsN sc).map oct))
    repeat walk_at "w"
    refine w_itemL (xs := wv) (j := 0) (by walk_at "mem") rfl gw (show wv.length ≤ 16777216 by walk_at "om") ?_ (by kernel_rfl)
    repeat walk_at "w"
    refine ⟨Kp.of_fn hS.f105, ?_⟩
    refine c_spelled hS (by walk_at "om") hne hle fun t8 => ?_
    have hsl := spell_le false (word0 sc)
    have hst : (34 :: sgns false (word0 sc)).length ≤ 30 := by have := sgns_le false (word0 sc); rw [List.length_cons]; walk_at "om"
    repeat walk_at "w"
    refine w_slice (w_part0 (w_part1 ?_))
    repeat walk_at "w"
    refine w_part0 fun s1 => ?_
    refine w_sliceT (l := spell false (word0 sc)) none (some (-1, _)) (.head _) (by walk_at "om") (r := 34 :: sgns false (word0 sc)) ?_ (fun u1 => ?_) (by kernel_rfl)
    · show ((spell false (word0 sc)).drop 0).take (clipL (spell false (word0 sc)).length (spell false (word0 sc)).length (some (-1)) - 0) = _
      rw [clip_last, List.drop_zero, Nat.sub_zero]
      have e : spell false (word0 sc) = (34 :: sgns false (word0 sc)) ++ [34] := by simp [spell]
      rw [e, List.length_append, List.length_singleton, Nat.add_sub_cancel, List.take_left' rfl]
    repeat walk_at "w"
    refine w_addT (a := [10, 32]) (by rw [List.length_cons, List.length_singleton]; walk_at "om") fun t9 => ?_
    repeat walk_at "w"
    refine w_iaddT (a := begunL sc) (by rw [List.length_append, List.length_cons, List.length_singleton]; walk_at "om") fun t10 => ?_
    rw [show begunL sc ++ ([10, 32] ++ 34 :: sgns false (word0 sc)) = textL sc from rfl]
    walk_at "w"
    walk_at "w"
    refine' W.weak (Ent.trans (Lay.ent ?lay) (ent_ns ?sub)) (q t10 t1)
    case lay => walk_at "lay"
    case sub => walk_at "subs"
end
end
section
section
variable {X : XX} {k : Nat} {cs cs' : List Cl} {env : Env} {K : Frag}
/-- list of an iterator at its end -/
theorem w_listEnd {it l : Addr} {xs : List Value} {Q : Value → List Cl → Prop} (hit : (it, LiI l xs.length) ∈ cs) (hl : (l, LsL xs) ∈ cs) (p : Pick (it, LiI l xs.length) cs cs') (q : ∀ a, Q (.ref a) ((a, LsL []) :: cs')) : W X k (call (.type "list") [.ref it]) cs Q := .mk fun hp tk s => by
  obtain ⟨oi, hoi, hci, hdi⟩ := s.get hit
  have hlist := s.isList hl
  have hli : it < hp.objs.size := s.lt hit
  refine callType_codes (Q₁ := fun obj s₁ => obj = .ref hp.objs.size ∧ s₁ = { X.S hp tk with heap := hp.push { cls := .type "list", data := .seq #[] } }) F.called_list (F.typeCall_list_1 _) F.entry_list_init
    (code_list_new _ ⟨rfl, rfl⟩) fun obj s₁ h₁ => ?_
  obtain ⟨rfl, rfl⟩ := h₁
  have hS : (hp.push { cls := .type "list", data := .seq #[] }).get? hp.objs.size = some { cls := .type "list", data := .seq #[] } := Heap.get?_push_size _ rfl
  refine ⟨⟨_, hS, rfl⟩, F.args_list_init_2 _ _, ?_⟩
  have hne : it ≠ hp.objs.size := Nat.ne_of_lt hli
  show wpAny _ _ (do let old ← Builtin.List.listItems (.ref hp.objs.size); Builtin.List.listUpdate (.ref hp.objs.size) (fun _ => #[]); letGo old.toList.reverse; Builtin.List.listExtendWith (.ref hp.objs.size) (.ref it) .none) _ _ _
  refine wpAny_bind ?_
  unfold Builtin.List.listItems
  refine wpAny_bind (wpAny_seqItems hS rfl (wpAny_pure ?_))
  show wpAny _ _ (updateSeq hp.objs.size (fun _ => #[]) >>= fun _ => letGo (#[] : Array Value).toList.reverse >>= fun _ => Builtin.List.listExtendWith (.ref hp.objs.size) (.ref it) .none) _ _ _
  refine wpAny_bind (wpAny_updateSeq hS rfl ?_)
  have hS₂ := Heap.get?_update_self (Obj.mapSeq (fun _ => (#[] : Array Value))) hS rfl
  have oth : ∀ b o, hp.get? b = some o → ((hp.push { cls := .type "list", data := .seq #[] }).update hp.objs.size (Obj.mapSeq (fun _ => (#[] : Array Value)))).get? b = some o :=
    fun b o e => (Heap.get?_update_other _ _ (Nat.ne_of_gt (Heap.lt_size e))).trans (Heap.get?_push_of_some _ e)
  refine wpAny_bind (wpAny_letGo ?_)
  generalize hh : (hp.push { cls := .type "list", data := .seq #[] }).update hp.objs.size (Obj.mapSeq (fun _ => (#[] : Array Value))) = h₁ at hS₂ oth
  have hT : ∀ t, (X.S h₁ t).TypeIs (.ref it) "list_iterator" := fun t => ⟨oi, oth _ _ hoi, hci⟩
  have hIt : h₁.IsListIter it l xs.length := ⟨oi, oth _ _ hoi, hci, hdi⟩
  have hLs : h₁.IsList l xs.toArray := by
    obtain ⟨ol, hol, hcl, nl, hdl⟩ := hlist
    exact ⟨ol, oth _ _ hol, hcl, nl, hdl⟩
  show wpAny _ _ _ _ _ (X.S h₁ tk)
  unfold Builtin.List.listExtendWith
  refine wpAny_bind (wpAny_typeOf (hT _) ?_)
  rw [if_neg (by rw [show Builtin.List.listSameRef (.ref hp.objs.size) (.ref it) = false by simp [Builtin.List.listSameRef, Ne.symm hne]]; decide)]
  refine wpAny_bind (wpAny_pyIter_listiter hIt ?_)
  refine wpAny_bind (wpAny_holding ?_)
  unfold Builtin.List.listLengthHint
  refine wpAny_bind (wpAny_specialOf (hT _) F.nolen_li ?_)
  show wpAny _ _ (specialOf (Value.ref it) (Str.ofString "__length_hint__") >>= _) _ _ _
  refine wpAny_bind (wpAny_specialOf (hT _) F.hint_li ?_)
  generalize hid : ("list_iterator.__length_hint__" : String) = id0
  wp_delta
  rw [show splitId id0 = some ("list_iterator", "__length_hint__") from by subst hid; decide +kernel]
  subst hid
  refine wpAny_bind (wpAny_isInstance (b := true) (hT _) (by rw [isSubtype_type]; kernel_rfl) ?_)
  refine wpAny_pure ?_
  rw [if_neg (by decide)]
  refine wpAny_pure ⟨plainId_quiet F.plain_extend_loop _, codeAny_builtin F.entry_extend_loop ?_⟩
  rw [Around.under_plainId F.plain_extend_loop _]
  refine wpAny_bind (wpAny_pyNext_list_end rfl hIt hLs (by rw [List.getElem?_toArray]; exact List.getElem?_eq_none (Nat.le_refl _)) fun h' hx => ?_)
  refine wpAny_pure ⟨rfl, ?_⟩
  have s1 : St X.g cs' h' := s.drop p fun b o hb e => hx b o hb (oth b o e)
  refine .mk (cs := (hp.objs.size, LsL []) :: cs') ?_ (q _)
  have hlt : ∀ c ∈ cs', c.1 < hp.objs.size := fun c hc => s.lt (p.perm.symm.subset (.tail _ hc))
  refine ⟨s1.keep, ?_, fun c hc => ?_, fun c hc => ?_⟩
  · rw [List.map_cons, List.nodup_cons]
    refine ⟨fun hm => ?_, s1.nd⟩
    obtain ⟨c, hc, e⟩ := List.mem_map.mp hm
    have := hlt c hc
    exact Nat.lt_irrefl _ (e ▸ this)
  · rcases List.mem_cons.mp hc with rfl | hc
    · show X.g.get? hp.objs.size = none
      cases e : X.g.get? hp.objs.size with
      | none => rfl
      | some o => exact absurd (Heap.lt_size (s.keep _ _ e)) (Nat.lt_irrefl _)
    · exact s1.off c hc
  · rcases List.mem_cons.mp hc with rfl | hc
    · exact ⟨_, hx _ _ (Ne.symm hne) hS₂, _, rfl⟩
    · exact s1.has c hc
end
end
section
noncomputable def forBody (s : Stmt) : List Stmt := match s with
  | .For _ _ body _ _ => body
  | _ => []
/-- one row a cell -/
noncomputable def rowsC (tgs : List Addr) (ls : List (List Value)) : List Cl := List.zipWith (fun a l => (a, LsL l)) tgs ls
theorem rowsC_snoc {tgs : List Addr} {ls : List (List Value)} {a : Addr} {l : List Value} (h : tgs.length = ls.length) : rowsC (tgs ++ [a]) (ls ++ [l]) = rowsC tgs ls ++ [(a, LsL l)] := by
  unfold rowsC; rw [List.zipWith_append h]; rfl
theorem rowsC_mem {tgs : List Addr} {ls : List (List Value)} {i : Nat} {a : Addr} {l : List Value} (h1 : tgs[i]? = some a) (h2 : ls[i]? = some l) : (a, LsL l) ∈ rowsC tgs ls := by
  refine List.mem_iff_getElem?.mpr ⟨i, ?_⟩
  unfold rowsC
  rw [List.getElem?_zipWith, h1, h2]
/-- the names at the turn's begin, the cells -/
noncomputable abbrev dC (a : LxA) (L nl wl pb rl tl kl : Addr) (l : List (Str × Value)) (n : Nat) (tn tw : Tok) (vs nv wv rv : List Value) (ps tv kv : List Value) (R : List Cl) : List Cl :=
  (L, NsL l) :: (L + 2, CellV (.ref a.lx)) :: (L + 1, CellV (.ref nl)) :: (a.sg, LsL vs) :: (a.dlx, DcL (lexL n tn (.ref a.st) (.str wsS tw) (.ref pb))) :: (pb, LsL ps) :: (nl, LsL nv) :: (wl, LsL wv) :: (rl, LsL rv) :: (tl, LsL tv) :: (kl, LsL kv) :: R
theorem ns_erase : ∀ {ys : List Nat} {j : Nat}, j < ys.length → (ys.eraseIdx j).insertIdx j (ys.getD j 0) = ys
  | [], _, h => absurd h (by simp)
  | y :: ys, 0, _ => rfl
  | y :: ys, j + 1, h => by
    rw [List.eraseIdx_cons_succ, List.insertIdx_succ_cons, List.getD_cons_succ, ns_erase (by simpa using h)]
theorem Strs.erase : ∀ {xs : List Value} {ss : List Str} (j : Nat), Strs xs ss → Strs (xs.eraseIdx j) (ss.eraseIdx j)
  | [], [], _, _ => rfl
  | x :: xs, s :: ss, 0, h => by unfold Strs at h ⊢; simp only [List.map_cons, List.cons.injEq] at h; exact h.2
  | x :: xs, s :: ss, j + 1, h => by
    unfold Strs at h
    simp only [List.map_cons, List.cons.injEq] at h
    have ih := Strs.erase (xs := xs) (ss := ss) j h.2
    unfold Strs at ih ⊢
    rw [List.eraseIdx_cons_succ, List.eraseIdx_cons_succ, List.map_cons, List.map_cons, ih, h.1]
  | [], _ :: _, _, h => by simp [Strs] at h
  | _ :: _, [], _, h => by simp [Strs] at h
theorem map_erase {α β : Type} (f : α → β) : ∀ (l : List α) (j : Nat), (l.eraseIdx j).map f = (l.map f).eraseIdx j
  | [], _ => rfl
  | _ :: _, 0 => rfl
  | a :: l, j + 1 => by rw [List.eraseIdx_cons_succ, List.map_cons, List.map_cons, List.eraseIdx_cons_succ, map_erase f l j]
theorem sum_erase : ∀ {ys : List Nat} {j : Nat}, j < ys.length → ys.sum = ys.getD j 0 + (ys.eraseIdx j).sum
  | [], _, h => absurd h (by simp)
  | y :: ys, 0, _ => by simp
  | y :: ys, j + 1, h => by
    have ih := sum_erase (ys := ys) (j := j) (by simpa using h)
    rw [List.eraseIdx_cons_succ, List.sum_cons, List.sum_cons, List.getD_cons_succ]; walk_at "om"
theorem strs_oct (l : List Nat) : (l.map oct).map strOf = l.map octS := by rw [List.map_map]; rfl
theorem slice_from (vs : List Value) (y : Nat) : slicePick vs.toArray (some (y : Int)) none none = (vs.drop y).toArray := by
  rw [kms_pick_eq]
  unfold kms_pick kms_lo kms_hi
  have h : ¬ ((y : Int) < 0) := by walk_at "om"
  simp only [h, if_false, Int.toNat_natCast]
  by_cases hy : y ≤ vs.length
  · rw [Nat.min_eq_left hy, List.take_of_length_le (by rw [List.length_drop]; walk_at "om")]
  · rw [Nat.min_eq_right (by walk_at "om"), List.drop_length, List.drop_eq_nil_of_le (by walk_at "om")]; simp
theorem put_good {sc : List Int} {j : Nat} (hj : j < (numsN sc).length) : Good ((numsN sc).eraseIdx j) ((plc sc : Nat) : Int) j ((numsN sc).getD j 0) := by
  have hdl := drawn_len sc
  have hnl := nums_len sc
  have hl : ((numsN sc).eraseIdx j).length = (numsN sc).length - 1 := List.length_eraseIdx_of_lt hj
  have := good_of (ys := (numsN sc).eraseIdx j) (p := j) (v := (numsN sc).getD j 0) (by walk_at "om") (by walk_at "om")
  rw [ns_erase hj, hl, show (numsN sc).length - 1 + 1 = (numsN sc).length by walk_at "om"] at this
  exact this
theorem put_lost {sc : List Int} {j : Nat} (hj : j < (numsN sc).length) : (((tot sc : Nat) : Int) - (((numsN sc).eraseIdx j).map fun n : Nat => (n : Int)).sum).fmod 16777216 = (((numsN sc).getD j 0 : Nat) : Int) := by
  have h1 := sum_erase hj
  have h2 : (numsN sc).getD j 0 < 64 ^ 4 := nums_lt sc _ (by rw [List.getD_eq_getElem?_getD, List.getElem?_eq_getElem hj]; exact List.getElem_mem _)
  rw [sum_cast, Int.fmod_eq_emod_of_nonneg _ (by decide)]
  unfold tot
  have h3 : (64 : Nat) ^ 4 = 16777216 := by decide
  walk_at "om"
section
variable {X : XX} {k : Nat} {cs cs' : List Cl} {env : Env} {K : Frag}
theorem w_neS {x y : Str} {t u : Tok} {Q : Value → List Cl → Prop} (q : Q (.bool (x != y)) cs) : W X k (compareOp .NotEq (.str x t) (.str y u)) cs Q := .mk fun hp tk s => PyProof.Rows.ne_str (.mk s q)
/-- one turn -/
theorem lawTurn (hI : StatI X K) {L fa nl wl pb rl tl kl it : Addr} {a : LxA} {cd : Value} {sc : List Int} {P0 : Obj → Prop} {nv wv rv vs tv kv : List Value} {n j : Nat} {tp tt tn tw tg t1 t2 : Tok} {F T : List Cl} {tgs : List Addr} {ls : List (List Value)}
    (hG : LexG a F) (hn : Nats nv (numsN sc)) (hw : Strs wv ((wordsL sc).map strOf)) (hr : Strs rv ((numsN sc).map octS)) (hj : j < (numsN sc).length) (hT : TabOK 114 kQ T)
    (htv : tv = tgs.map .ref) (htl : tgs.length = j) (hls : ls.length = j) (hll : ∀ i, i < j → ∃ t, ls[i]? = some [.int (((numsN sc).getD i 0 : Nat) : Int) t]) (hkv : kv = (kord (numsN sc) j).map fun i => .ref (tgs.getD i 0)) :
    W X 0 (execs (forBody ((bodyOf (stmtAt 14)).getD 17 (.Pass default))) (lawE L fa cd))
      ((it, P0) :: dC a L nl wl pb rl tl kl [("places", .int ((plc sc : Nat) : Int) tp), ("total", .int ((tot sc : Nat) : Int) tt), ("words", .ref wl), ("text", .str (strOf (textL sc)) t1), ("begun", .str (strOf (begunL sc)) t2), ("row", .ref rl), ("thrown", .ref tl), ("kept", .ref kl), ("gone", .int j tg)] n tn tw vs nv wv rv [] tv kv ((rowsC tgs ls ++ F) ++ T))
      (fun f c => f = .next ∧ ∃ (rl' b : Addr) (rv' : List Value) (t' : Tok) (T' : List Cl), Strs rv' ((numsN sc).map octS) ∧ TabOK 114 kQ T' ∧
        Ent c ((it, P0) :: dC a L nl wl pb rl' tl kl [("places", .int ((plc sc : Nat) : Int) tp), ("total", .int ((tot sc : Nat) : Int) tt), ("words", .ref wl), ("text", .str (strOf (textL sc)) t1), ("begun", .str (strOf (begunL sc)) t2), ("row", .ref rl'), ("thrown", .ref tl), ("kept", .ref kl)] n tn tw vs nv wv rv' []
          ((tgs ++ [b]).map .ref) ((kord (numsN sc) (j + 1)).map fun i => .ref ((tgs ++ [b]).getD i 0)) ((rowsC (tgs ++ [b]) (ls ++ [[.int (((numsN sc).getD j 0 : Nat) : Int) t']]) ++ F) ++ T'))) := by
  have hS := hI.toStat
  have hwl : wv.length = (wordsL sc).length := by rw [hw.length, List.length_map]
  have hwl1 := words_len sc
  have hnl := nums_len sc
  have hdl := drawn_len sc
  have hrl : rv.length = (numsN sc).length := by rw [hr.length, List.length_map]
  have hnvl : nv.length = (numsN sc).length := hn.length
  generalize hR : (rowsC tgs ls ++ F) ++ T = R
  have hGR : LexG a R := hR ▸ hG.mono fun x hx => List.mem_append_left _ (List.mem_append_right _ hx)
  obtain ⟨hRd, h2, h3, h4⟩ := id hGR
  repeat walk_at "w"
  refine w_for ?_ (fun _ => by kernel_rfl)
  repeat walk_at "w"
  refine ⟨of_decide_eq_true (by kernel_rfl), fun a0 => ?_⟩
  refine w_addL (xs := rv) (by walk_at "mem") (.head _) (by simp only [List.length_cons, List.length_nil]; exact (show _ ≤ 16777216 by walk_at "om")) fun ml => ?_
  generalize hmv : (rv ++ _ : List Value) = mv
  have hml : mv.length = (numsN sc).length + 1 := by rw [← hmv, List.length_append, List.length_singleton]; walk_at "om"
  refine w_iterL (.head _) fun wi => ?_
  refine' WC.weak (Lay.ent ?lay) (w_forItr (i := wi) (itrL (l := ml) (xs := mv)) (fun i c => c = (L, NsL [("places", .int ((plc sc : Nat) : Int) tp), ("total", .int ((tot sc : Nat) : Int) tt), ("words", .ref wl), ("text", .str (strOf (textL sc)) t1), ("begun", .str (strOf (begunL sc)) t2), ("row", .ref rl), ("thrown", .ref tl), ("kept", .ref kl), ("gone", .int j tg)]) :: (it, P0) :: (L + 2, CellV (.ref a.lx)) :: (L + 1, CellV (.ref nl)) :: (a.sg, LsL vs) :: (a.dlx, DcL (lexL n tn (.ref a.st) (.str wsS tw) (.ref pb))) :: (pb, LsL (mv.take i)) :: (nl, LsL nv) :: (wl, LsL wv) :: (rl, LsL rv) :: (tl, LsL tv) :: (kl, LsL kv) :: (ml, LsL mv) :: R) (fun i c h => by subst h; walk_at "mem") (fun i hi v hv c hJ => ?_) (fun c hJ => ?_) rfl)
  case lay => walk_at "lay"
  · subst hJ
    repeat walk_at "w"
    refine ⟨Kp.of_fn hS.f83, ?_⟩
    refine' c_push hI (by walk_at "om") (x := a.lx) (dx := a.dlx) (pb := pb) (n := n) (r := []) (ws := mv.take i) (.tail _ (.tail _ (.tail _ (.tail _ (.tail _ (.tail _ (.tail _ (.tail _ (.tail _ (.tail _ (.tail _ (.tail _ (.tail _ (.tail _ h4)))))))))))))) ?hd (by rw [List.length_take]; walk_at "om") ?pp ?_
    case hd => walk_at "mem"
    case pp => walk_at "put"
    repeat walk_at "w"
    rw [if_neg (by simp)]
    repeat walk_at "w"
    rw [← take_snoc hv]
    exact ⟨_, ent_ns2 (by walk_at "subs"), rfl⟩
  subst hJ
  rw [List.take_length]
  refine w_next ?_
  repeat walk_at "w"
  with_reducible refine' w_assignComp [("lexer", L + 2)] ?_ (by kernel_rfl) (by kernel_rfl) (fun _ => by kernel_rfl) (by kernel_rfl) (by kernel_rfl) (by kernel_rfl)
  repeat walk_at "w"
  refine w_iterL (xs := wv) (by walk_at "mem") fun it2 => ?_
  refine compGo (itrL (l := wl) (xs := wv)) (fun i ys c => ys = mv.take i ∧ i ≤ wv.length ∧ c = (L, NsL [("places", .int ((plc sc : Nat) : Int) tp), ("total", .int ((tot sc : Nat) : Int) tt), ("words", .ref wl), ("text", .str (strOf (textL sc)) t1), ("begun", .str (strOf (begunL sc)) t2), ("row", .ref rl), ("thrown", .ref tl), ("kept", .ref kl), ("gone", .int j tg)]) :: (it, P0) :: (L + 2, CellV (.ref a.lx)) :: (L + 1, CellV (.ref nl)) :: (a.sg, LsL vs) :: (a.dlx, DcL (lexL n tn (.ref a.st) (.str wsS tw) (.ref pb))) :: (pb, LsL (mv.drop i)) :: (nl, LsL nv) :: (wl, LsL wv) :: (rl, LsL rv) :: (tl, LsL tv) :: (kl, LsL kv) :: (ml, LsL mv) :: R)
    (show wv.length ≤ 16777216 by walk_at "om") (fun i ys c h => by rw [h.1, List.length_take]; walk_at "om") (fun i ys c C D h => by rw [h.2.2]; walk_at "mem") ⟨rfl, Nat.zero_le _, rfl⟩ (fun C D i hi v hv ys c h => ?_) fun rl2 ys c h => ?_
  · obtain ⟨g1, g2, rfl⟩ := h
    have him : i < mv.length := by walk_at "om"
    have e1 : mv.drop i = mv[i] :: mv.drop (i + 1) := List.drop_eq_getElem_cons him
    have e2 : mv[i]? = some mv[i] := List.getElem?_eq_getElem him
    rw [e1]
    refine w_tests0 ?_
    simp only [if_true]
    repeat walk_at "w"
    refine ⟨Kp.of_fn hS.f76, ?_⟩
    refine' c_getP hI (by walk_at "om") (x := a.lx) (dx := a.dlx) (pb := pb) (n := n) (r := []) (w := mv[i]) (ws := mv.drop (i + 1)) ?hx ?hd (by rw [List.length_drop]; walk_at "om") ?pp ?_
    case hx => walk_at "mem"
    case hd => walk_at "mem"
    case pp => walk_at "put"
    exact ⟨_, ent_turn, by rw [g1, ← take_snoc e2], by walk_at "om", rfl⟩
  obtain ⟨g1, g2, rfl⟩ := h
  have g1' : ys = mv := by rw [g1, List.take_of_length_le (by walk_at "om")]
  subst g1'
  rw [show List.drop wv.length ys = [] from List.drop_eq_nil_of_le (by walk_at "om")]
  walk_at "stored"
  repeat walk_at "w"
  subst hmv
  refine w_pop (xs := rv ++ _) (by rw [List.getLast?_concat]) (by walk_at "put") (by rw [hml]; exact (show _ ≤ 16777216 by walk_at "om")) ?_
  rw [List.dropLast_concat]
  repeat walk_at "w"
  refine w_neS ?_
  rw [show (Str.ofString "" != Str.ofString "") = false by decide +kernel]
  repeat walk_at "w"
  rw [if_neg (by simp)]
  repeat walk_at "w"
  obtain ⟨tj, hrj⟩ := hr.at (j := j) (n := octS ((numsN sc).getD j 0)) (by rw [List.getElem?_map, List.getD_eq_getElem?_getD, List.getElem?_eq_getElem hj]; rfl)
  refine w_popAt (xs := rv) (j := j) rfl (y := .str (octS ((numsN sc).getD j 0)) tj) hrj (by walk_at "put") (by rw [hrl]; exact (show (numsN sc).length ≤ 16777216 by walk_at "om")) ?_
  repeat walk_at "w"
  refine ⟨Kp.of_fn hS.f117, ?_⟩
  have hgood := put_good (sc := sc) hj
  have hel : ((numsN sc).eraseIdx j).length = (numsN sc).length - 1 := List.length_eraseIdx_of_lt hj
  refine W.weak (Lay.ent (t := (rl2, LsL (rv.eraseIdx j)) :: (L, NsL [("places", .int ((plc sc : Nat) : Int) tp), ("total", .int ((tot sc : Nat) : Int) tt), ("words", .ref wl), ("text", .str (strOf (textL sc)) t1), ("begun", .str (strOf (begunL sc)) t2), ("row", .ref rl2), ("thrown", .ref tl), ("kept", .ref kl), ("gone", .int j tg)]) :: (it, P0) :: (L + 2, CellV (.ref a.lx)) :: (L + 1, CellV (.ref nl)) :: (a.sg, LsL vs) :: (a.dlx, DcL (lexL n tn (.ref a.st) (.str wsS tw) (.ref pb))) :: (pb, LsL []) :: (nl, LsL nv) :: (wl, LsL wv) :: (tl, LsL tv) :: (kl, LsL kv) ::  R) (by walk_at "lay")) ?_
  clear hGR hRd h2 h3 h4
  subst hR
  refine c_put hI.toStatK (by walk_at "om") (ys := (numsN sc).eraseIdx j) (v := (numsN sc).getD j 0) (d := (L, NsL [("places", .int ((plc sc : Nat) : Int) tp), ("total", .int ((tot sc : Nat) : Int) tt), ("words", .ref wl), ("text", .str (strOf (textL sc)) t1), ("begun", .str (strOf (begunL sc)) t2), ("row", .ref rl2), ("thrown", .ref tl), ("kept", .ref kl), ("gone", .int j tg)]) :: (it, P0) :: (L + 2, CellV (.ref a.lx)) :: (L + 1, CellV (.ref nl)) :: (a.sg, LsL vs) :: (a.dlx, DcL (lexL n tn (.ref a.st) (.str wsS tw) (.ref pb))) :: (pb, LsL []) :: (nl, LsL nv) :: (wl, LsL wv) :: (tl, LsL tv) :: (kl, LsL kv) ::  (rowsC tgs ls ++ F)) (T := T) (by rw [map_erase]; exact hr.erase j) (fun y hy => nums_lt sc y (List.mem_of_mem_eraseIdx hy))
    (nums_lt sc _ (by rw [List.getD_eq_getElem?_getD, List.getElem?_eq_getElem hj]; exact List.getElem_mem _)) (by walk_at "om") hT (put_lost hj) hgood.w (Nat.le_trans hgood.lo hgood.hi) hgood.n hgood.all.1 fun xs' T' hx' hT' => ?_
  rw [hgood.all.2, ns_erase hj] at hx'
  have hxl' : xs'.length = (numsN sc).length := by rw [hx'.length, List.length_map]
  refine W.weak (cs' := (rl2, LsL xs') :: (L, NsL [("places", .int ((plc sc : Nat) : Int) tp), ("total", .int ((tot sc : Nat) : Int) tt), ("words", .ref wl), ("text", .str (strOf (textL sc)) t1), ("begun", .str (strOf (begunL sc)) t2), ("row", .ref rl2), ("thrown", .ref tl), ("kept", .ref kl), ("gone", .int j tg)]) :: (it, P0) :: (L + 2, CellV (.ref a.lx)) :: (L + 1, CellV (.ref nl)) :: (a.sg, LsL vs) :: (a.dlx, DcL (lexL n tn (.ref a.st) (.str wsS tw) (.ref pb))) :: (pb, LsL []) :: (nl, LsL nv) :: (wl, LsL wv) :: (tl, LsL tv) :: (kl, LsL kv) ::  ((rowsC tgs ls ++ F) ++ T')) (fun g h s => s) ?_
  generalize hR : (rowsC tgs ls ++ F) ++ T' = R
  repeat walk_at "w"
  rw [if_neg (by simp)]
  repeat walk_at "w"
  refine w_slice (w_part1 ?_)
  repeat walk_at "w"
  refine w_part0 ?_
  refine w_part0 fun s1 => ?_
  refine w_slP (xs := wv) (ys := wv.drop 1) (by walk_at "mem") (.head _) (.int _ _) .none (by walk_at "om") (slice_from wv 1) (fun sl2 => ?_) (by kernel_rfl)
  have hw1 : Strs (wv.drop 1) ((numsN sc).map octS) := by
    have := hw
    unfold Strs at this ⊢
    rw [List.map_drop, this, show wordsL sc = word0 sc :: (numsN sc).map oct from rfl, List.map_cons, List.map_cons, List.drop_one, List.tail_cons, strs_oct]
  refine w_neSame (xs := xs') (ys := wv.drop 1) (by walk_at "mem") (.head _) (by rw [List.length_drop]; walk_at "om") (same_strs hx' hw1) (by walk_at "om") ?_
  repeat walk_at "w"
  rw [if_neg (by simp)]
  repeat walk_at "w"
  rw [if_neg (by simp)]
  repeat walk_at "w"
  obtain ⟨tnum, hnum⟩ := hn.at (j := j) (n := (numsN sc).getD j 0) (by rw [List.getD_eq_getElem?_getD, List.getElem?_eq_getElem hj]; rfl)
  refine w_itemL (xs := nv) (by walk_at "mem") rfl hnum (show nv.length ≤ 16777216 by walk_at "om") ?_ (by kernel_rfl)
  repeat walk_at "w"
  refine ⟨of_decide_eq_true (by kernel_rfl), fun b => ?_⟩
  repeat walk_at "w"
  have htvl : tv.length = j := by rw [htv, List.length_map, htl]
  have hkvl : kv.length = j := by rw [hkv, List.length_map, kord_len]
  refine w_append (xs := tv) (by walk_at "put") (show tv.length ≤ 16777216 by walk_at "om") ?_
  repeat walk_at "w"
  refine w_itemL (xs := tv ++ [.ref b]) (j := j) (v := .ref b) (by walk_at "mem") rfl (by rw [List.getElem?_append_right (by walk_at "om"), htvl, Nat.sub_self]; rfl) (by rw [List.length_append, List.length_singleton]; exact (show tv.length + 1 ≤ 16777216 by walk_at "om")) ?_ (by kernel_rfl)
  repeat walk_at "w"
  refine ⟨Kp.of_fn hS.f23, ?_⟩
  have hrows : ∀ i, i < j → ∃ t, (tgs.getD i 0, LsL [.int (((numsN sc).getD i 0 : Nat) : Int) t]) ∈ R := fun i hi => by
    obtain ⟨t, ht⟩ := hll i hi
    refine ⟨t, hR ▸ List.mem_append_left _ (List.mem_append_left _ (rowsC_mem (i := i) ?_ ht))⟩
    rw [List.getD_eq_getElem?_getD, List.getElem?_eq_getElem (by walk_at "om")]; rfl
  refine' c_insR0 hI.toStatD (by walk_at "om") (ys := kkey (numsN sc) (kord (numsN sc) j)) (x := (((numsN sc).getD j 0 : Nat) : Int)) (xs := kv) (G := fun c => (b, LsL [.int (((numsN sc).getD j 0 : Nat) : Int) tnum]) ∈ c ∧ ∀ i, i < j → ∃ t, (tgs.getD i 0, LsL [.int (((numsN sc).getD i 0 : Nat) : Int) t]) ∈ c)
    (fun c i v hGc hv Q hQ => ?f) (fun dd ee => ⟨?hb, fun i hi => ?hr⟩) ?ha (by walk_at "om") ?hp ?_
  case f =>
    obtain ⟨g1, g2⟩ := hGc
    have hij : i < j := by have := (List.getElem?_eq_some_iff.mp hv).1; walk_at "om"
    have hm := kord_lt (numsN sc) hij
    obtain ⟨t, ht⟩ := g2 _ hm
    have hv' : v = .ref (tgs.getD ((kord (numsN sc) j).getD i 0) 0) := by
      rw [hkv, List.getElem?_map] at hv
      obtain ⟨m, hm1, hm2⟩ := Option.map_eq_some_iff.mp hv
      rw [List.getD_eq_getElem?_getD (l := kord (numsN sc) j), hm1]
      exact hm2.symm
    subst hv'
    refine w_ltL g1 ht (xs := [(((numsN sc).getD j 0 : Nat) : Int)]) (ys := [(((numsN sc).getD ((kord (numsN sc) j).getD i 0) 0 : Nat) : Int)]) (by unfold Ints; rfl) (by unfold Ints; rfl) (by walk_at "om") ?_
    rw [lex1]
    exact hQ
  case hb => walk_at "mem"
  case hr =>
    obtain ⟨t, ht⟩ := hrows i hi
    exact ⟨t, by walk_at "mem"⟩
  case ha => walk_at "mem"
  case hp => walk_at "put"
  repeat walk_at "w"
  have hkk : kv.insertIdx (bisR (kkey (numsN sc) (kord (numsN sc) j)) (((numsN sc).getD j 0 : Nat) : Int) 0 kv.length) (.ref b) = (kord (numsN sc) (j + 1)).map fun i => .ref ((tgs ++ [b]).getD i 0) := by
    rw [kord, map_ins, hkvl]
    congr 1
    · rw [hkv]
      refine List.map_congr_left fun m hm => ?_
      have hmj : m < j := by simpa using (kord_perm (numsN sc) j).subset hm
      rw [List.getD_eq_getElem?_getD, List.getD_eq_getElem?_getD, List.getElem?_append_left (by walk_at "om")]
    · rw [List.getD_eq_getElem?_getD, List.getElem?_append_right (by walk_at "om"), htl, Nat.sub_self]; rfl
  rw [hkk, htv]
  refine ⟨rfl, rl2, b, xs', tnum, T', hx', hT', ?_⟩
  rw [show (tgs ++ [b]).map Value.ref = tgs.map .ref ++ [.ref b] by rw [List.map_append]; rfl, rowsC_snoc (htl.trans hls.symm)]
  refine' Ent.trans (Lay.ent (t := (it, P0) :: dC a L nl wl pb rl2 tl kl _ n tn tw vs nv wv xs' [] (tgs.map .ref ++ [.ref b]) ((kord (numsN sc) (j + 1)).map fun i => .ref ((tgs ++ [b]).getD i 0)) ((b, LsL [.int (((numsN sc).getD j 0 : Nat) : Int) tnum]) :: R)) ?lay) (Ent.trans (ent_ns2 (l' := [("places", .int ((plc sc : Nat) : Int) tp), ("total", .int ((tot sc : Nat) : Int) tt), ("words", .ref wl), ("text", .str (strOf (textL sc)) t1), ("begun", .str (strOf (begunL sc)) t2), ("row", .ref rl2), ("thrown", .ref tl), ("kept", .ref kl)]) ?sub) (ent_perm ?perm))
  case lay => walk_at "lay"
  case sub => walk_at "subs"
  case perm =>
    iterate 12 refine List.Perm.cons _ ?_
    rw [← hR]
    simp only [List.append_assoc, List.singleton_append]
    exact List.perm_middle.symm
end
end
section
noncomputable abbrev restL (sc : List Int) (j : Nat) : List Nat := sfx ((items sc).drop j) j (lq ((items sc).take j) false) ++ tailL sc
theorem lq_snoc (b : Bool) (w : List Nat) : ∀ (l : List (Bool × List Nat)) (q : Bool), lq (l ++ [(b, w)]) q = !b
  | [], q => rfl
  | (b', w') :: l, q => by rw [List.cons_append, lq, lq_snoc b w l]
theorem rest_step {sc : List Int} {j : Nat} {b : Bool} {w : List Nat} (h : (items sc)[j]? = some (b, w)) (hw : w ≠ []) (n : Nat) :
    ∃ n', rdt (restL sc j) n = ⟨w, restL sc (j + 1), n'⟩ ∧ n' + (restL sc (j + 1)).count 10 = n + (restL sc j).count 10 := by
  have hj : j < (items sc).length := (List.getElem?_eq_some_iff.mp h).1
  have e1 : (items sc).drop j = (b, w) :: (items sc).drop (j + 1) := by
    rw [List.drop_eq_getElem_cons hj]; congr 1; exact Option.some.inj ((List.getElem?_eq_getElem hj).symm.trans h)
  have e2 : lq ((items sc).take (j + 1)) false = !b := by rw [take_snoc h, lq_snoc]
  obtain ⟨n', h1, h2⟩ := rdt_sfx hw ((items sc).drop (j + 1)) j (lq ((items sc).take j) false) (tailL sc) n
  refine ⟨n', ?_, ?_⟩
  · unfold restL; rw [e1, e2, h1]
  · unfold restL; rw [e1, e2, List.count_append, List.count_append]; walk_at "om"
theorem rest_end (sc : List Int) : restL sc (wordsL sc).length = tailL sc := by
  unfold restL; rw [← items_len, List.drop_length]; rfl
theorem rest_len (sc : List Int) (j : Nat) : (restL sc j).length ≤ 300 := by
  have h1 := items_len sc
  have h2 := words_len sc
  have h3 := nums_len sc
  have h4 := drawn_len sc
  have h := sfx_len ((items sc).drop j) j (lq ((items sc).take j) false) fun p hp => (word_ne (items_word (List.mem_of_mem_drop hp))).2
  have h5 : ((items sc).drop j).length ≤ 11 := by rw [List.length_drop]; walk_at "om"
  have h6 := sgns_le false (word0 sc)
  have h7 : (word0 sc).length ≤ 8 := (word_ne (List.mem_cons_self (a := word0 sc) (l := (numsN sc).map oct))).2
  unfold restL tailL
  rw [List.length_append, List.length_cons, List.length_cons, List.length_cons]
  walk_at "om"
section
variable {X : XX} {k : Nat} {cs cs' : List Cl} {env : Env} {K : Frag}
/-- the law, the words read -/
theorem lawC (hI : StatI X K) {L fa nl wl : Addr} {cd : Value} {sc : List Int} {nv wv : List Value} {tp tt t1 t2 : Tok} (hn : Nats nv (numsN sc)) (hw : Strs wv ((wordsL sc).map strOf))
    {Q : Flow → List Cl → Prop}
    (q : ∀ (a : LxA) (pb rl : Addr) (vs rv : List Value) (tn tw : Tok) (F : List Cl), LexG a F → (∃ ps, ((107 : Addr), ((· = tabObj ps) : Obj → Prop)) ∈ F) → Chars vs (tailL sc) → Strs rv ((numsN sc).map octS) → W X 0 (execs ((bodyOf (stmtAt 14)).drop 15) (lawE L fa cd))
      ((L, NsL [("places", .int ((plc sc : Nat) : Int) tp), ("total", .int ((tot sc : Nat) : Int) tt), ("words", .ref wl), ("text", .str (strOf (textL sc)) t1), ("begun", .str (strOf (begunL sc)) t2), ("row", .ref rl)]) :: (L + 2, CellV (.ref a.lx)) :: (L + 1, CellV (.ref nl)) ::
        (a.sg, LsL vs) :: (a.dlx, DcL (lexL (1 + (begunL sc).count 10) tn (.ref a.st) (.str wsS tw) (.ref pb))) :: (pb, LsL []) :: (nl, LsL nv) :: (wl, LsL wv) :: (rl, LsL rv) :: (F ++ [(114, (· = tabObj #[]))])) Q) :
    W X 0 (execs ((bodyOf (stmtAt 14)).drop 9) (lawE L fa cd))
      ((L, NsL [("places", .int ((plc sc : Nat) : Int) tp), ("total", .int ((tot sc : Nat) : Int) tt), ("words", .ref wl), ("text", .str (strOf (textL sc)) t1), ("begun", .str (strOf (begunL sc)) t2)]) :: (L + 2, CellN) :: (L + 1, CellV (.ref nl)) :: (nl, LsL nv) :: (wl, LsL wv) ::
        [(114, (· = tabObj #[])), (107, (· = tabObj #[]))]) Q := by
  have hS := hI.toStat
  have hwl : wv.length = (wordsL sc).length := by rw [hw.length, List.length_map]
  have hwl1 := words_len sc
  have hil := items_len sc
  have hnl := nums_len sc
  have hdl := drawn_len sc
  have htl := text_len sc
  repeat walk_at "w"
  refine ⟨Kp.of_fn hS.f112, ?_⟩
  refine c_lexer hI (by walk_at "om") (l := textL sc) (d := (L, NsL [("places", .int ((plc sc : Nat) : Int) tp), ("total", .int ((tot sc : Nat) : Int) tt), ("words", .ref wl), ("text", .str (strOf (textL sc)) t1), ("begun", .str (strOf (begunL sc)) t2)]) :: (L + 2, CellN) :: (L + 1, CellV (.ref nl)) :: (nl, LsL nv) :: (wl, LsL wv) :: [(114, (· = tabObj #[]))])
    (T := [(107, (· = tabObj #[]))]) (by walk_at "om") (TabOK.fresh 107 rQ) fun a pb vs tn tw F hG hF hv => ?_
  generalize hGd : F ++ [((114 : Addr), ((· = tabObj #[]) : Obj → Prop))] = G
  have hGG : LexG a G := hGd ▸ hG.mono fun x hx => List.mem_append_left _ hx
  obtain ⟨hR, h2, h3, h4⟩ := id hGG
  refine W.weak (Ent.trans (Lay.ent (t := (L, NsL [("places", .int ((plc sc : Nat) : Int) tp), ("total", .int ((tot sc : Nat) : Int) tt), ("words", .ref wl), ("text", .str (strOf (textL sc)) t1), ("begun", .str (strOf (begunL sc)) t2)]) :: (L + 2, CellN) :: (L + 1, CellV (.ref nl)) ::
    (a.sg, LsL vs) :: (a.dlx, DcL (lexL 1 tn (.ref a.st) (.str wsS tw) (.ref pb))) :: (pb, LsL []) :: (nl, LsL nv) :: (wl, LsL wv) :: (114, (· = tabObj #[])) :: F) ?lay)
    (ent_perm (c' := (L, NsL [("places", .int ((plc sc : Nat) : Int) tp), ("total", .int ((tot sc : Nat) : Int) tt), ("words", .ref wl), ("text", .str (strOf (textL sc)) t1), ("begun", .str (strOf (begunL sc)) t2)]) :: (L + 2, CellN) :: (L + 1, CellV (.ref nl)) ::
    (a.sg, LsL vs) :: (a.dlx, DcL (lexL 1 tn (.ref a.st) (.str wsS tw) (.ref pb))) :: (pb, LsL []) :: (nl, LsL nv) :: (wl, LsL wv) :: G) ?perm)) ?_
  case lay => walk_at "lay"
  case perm =>
    rw [← hGd]
    iterate 8 refine List.Perm.cons _ ?_
    exact (List.perm_append_singleton _ _).symm
  repeat walk_at "w"
  with_reducible refine' w_assignComp [("lexer", L + 2)] ?_ (by kernel_rfl) (by kernel_rfl) (fun _ => by kernel_rfl) (by kernel_rfl) (by kernel_rfl) (by kernel_rfl)
  repeat walk_at "w"
  refine w_iterL (xs := wv) (by walk_at "mem") fun it => ?_
  refine compGo (itrL (l := wl) (xs := wv)) (fun j ys c => ∃ (vs : List Value) (n : Nat) (tn : Tok), ys.length ≤ j ∧ Strs ys (((wordsL sc).take j).map strOf) ∧ Chars vs (restL sc j) ∧ n + (restL sc j).count 10 = 1 + (textL sc).count 10 ∧
    c = (L, NsL [("places", .int ((plc sc : Nat) : Int) tp), ("total", .int ((tot sc : Nat) : Int) tt), ("words", .ref wl), ("text", .str (strOf (textL sc)) t1), ("begun", .str (strOf (begunL sc)) t2)]) :: (L + 2, CellV (.ref a.lx)) :: (L + 1, CellV (.ref nl)) ::
    (a.sg, LsL vs) :: (a.dlx, DcL (lexL n tn (.ref a.st) (.str wsS tw) (.ref pb))) :: (pb, LsL []) :: (nl, LsL nv) :: (wl, LsL wv) :: G) (show wv.length ≤ 16777216 by walk_at "om")
    (fun j ys c h => h.choose_spec.choose_spec.choose_spec.1) (fun j ys c C D h => ?_) ⟨vs, 1, tn, Nat.zero_le _, Strs.nil, hv, rfl, rfl⟩ (fun C D j hj v hv' ys c h => ?_) fun rl ys c h => ?_
  · obtain ⟨vs, n, tn, h1, h2, h3, h4, rfl⟩ := h
    walk_at "mem"
  · obtain ⟨vs, n, tn, g1, g2, g3, g4, rfl⟩ := h
    obtain ⟨b, w, hi1, hi2, hi3⟩ := items_get (sc := sc) (j := j) (by walk_at "om")
    obtain ⟨hwne, hwle⟩ := word_ne (List.mem_of_getElem? hi3)
    obtain ⟨n', r1, r2⟩ := rest_step hi1 hwne n
    refine w_tests0 ?_
    simp only [if_true]
    repeat walk_at "w"
    refine ⟨Kp.of_fn hS.f76, ?_⟩
    refine' W.weak (Lay.ent (t := (a.sg, LsL vs) :: (a.dlx, DcL (lexL n tn (.ref a.st) (.str wsS tw) (.ref pb))) :: (C, NsL _) :: (it, LiI wl (j + 1)) :: (D, LsL ys) :: (L, NsL [("places", .int ((plc sc : Nat) : Int) tp), ("total", .int ((tot sc : Nat) : Int) tt), ("words", .ref wl), ("text", .str (strOf (textL sc)) t1), ("begun", .str (strOf (begunL sc)) t2)]) :: (L + 2, CellV (.ref a.lx)) :: (L + 1, CellV (.ref nl)) ::
      (pb, LsL []) :: (nl, LsL nv) :: (wl, LsL wv) :: G) ?lay) ?_
    case lay => walk_at "lay"
    refine c_getR hI (by walk_at "om") (hGG.mono fun x hx => by walk_at "mem") (by walk_at "mem") g3 (by have := rest_len sc j; walk_at "om") fun t5 tn5 vs5 hv5 => ?_
    rw [r1] at hv5 ⊢
    refine ⟨_, Ent.trans (Lay.ent (t := (C, NsL _) :: (it, LiI wl (j + 1)) :: (D, LsL ys) :: (L, NsL [("places", .int ((plc sc : Nat) : Int) tp), ("total", .int ((tot sc : Nat) : Int) tt), ("words", .ref wl), ("text", .str (strOf (textL sc)) t1), ("begun", .str (strOf (begunL sc)) t2)]) :: (L + 2, CellV (.ref a.lx)) :: (L + 1, CellV (.ref nl)) ::
      (a.sg, LsL vs5) :: (a.dlx, DcL (lexL n' tn5 (.ref a.st) (.str wsS tw) (.ref pb))) :: (pb, LsL []) :: (nl, LsL nv) :: (wl, LsL wv) :: G) (by walk_at "lay")) ent_turn, vs5, n', tn5, by rw [List.length_append, List.length_singleton]; walk_at "om", ?_, hv5, by walk_at "om", rfl⟩
    rw [take_snoc hi3, List.map_append]
    exact g2.snoc
  · obtain ⟨vs, n, tn, g1, g2, g3, g4, rfl⟩ := h
    rw [hwl, List.take_of_length_le (Nat.le_refl _)] at g2
    rw [hwl, rest_end] at g3 g4
    have hcn : n = 1 + (begunL sc).count 10 := by unfold textL at g4; rw [List.count_append] at g4; walk_at "om"
    have hyl : ys.length = (wordsL sc).length := by rw [g2.length, List.length_map]
    walk_at "stored"
    repeat walk_at "w"
    refine w_neSame (xs := ys) (ys := wv) (by walk_at "mem") (by walk_at "mem") (by walk_at "om") (same_strs g2 hw) (by walk_at "om") ?_
    repeat walk_at "w"
    rw [if_neg (by simp)]
    repeat walk_at "w"
    walk_at "comp0"
    repeat walk_at "w"
    -- the first word
    cases ys with
    | nil => exact absurd hyl (by rw [hwl1]; simp)
    | cons v0 rv =>
    obtain ⟨t3, hv0⟩ : ∃ t, v0 = .str (strOf (word0 sc)) t := by
      unfold Strs at g2
      rw [show wordsL sc = word0 sc :: (numsN sc).map oct from rfl] at g2
      simp only [List.map_cons, List.cons.injEq] at g2
      exact sv_eq g2.1
    have grv : Strs rv ((numsN sc).map octS) := by
      unfold Strs at g2 ⊢
      rw [show wordsL sc = word0 sc :: (numsN sc).map oct from rfl] at g2
      simp only [List.map_cons, List.cons.injEq] at g2
      rw [g2.2, strs_oct]
    subst hv0
    obtain ⟨hne0, hle0⟩ := word_ne (List.mem_cons_self (a := word0 sc) (l := (numsN sc).map oct))
    refine w_popAt (xs := .str (strOf (word0 sc)) t3 :: rv) (j := 0) rfl (y := .str (strOf (word0 sc)) t3) rfl (by walk_at "put") (by rw [hyl]; exact (show (wordsL sc).length ≤ 16777216 by walk_at "om")) ?_
    repeat walk_at "w"
    refine compI0 itrS (fun j ys => Nats ys ((word0 sc).take j)) (by rw [show (strOf (word0 sc)).cps.size = (word0 sc).length from List.size_toArray ..]; exact (show (word0 sc).length ≤ 16777216 by walk_at "om")) (fun j ys C D => trivial) Nats.nil (fun C D j hj v hv ys hl hi => ?_) fun ol ov hol hov => ?_
    · obtain ⟨c, t', hc, rfl⟩ := hv
      rw [show (strOf (word0 sc)).cps = (word0 sc).toArray from rfl, List.getElem?_toArray] at hc
      repeat walk_at "w"
      refine w_ord rfl fun t2 => ⟨ent_turn, ?_⟩
      rw [take_snoc hc]
      exact hi.snoc rfl
    rw [show (strOf (word0 sc)).cps.size = (word0 sc).length from List.size_toArray .., List.take_of_length_le (Nat.le_refl _)] at hov
    repeat walk_at "w"
    refine w_iterCallL (xs := ov) (.head _) fun oi => ?_
    repeat walk_at "w"
    refine ⟨Kp.of_fn hS.f48, ?_⟩
    have hm1 : (oct (plc sc)).length = (more (plc sc)).length + 1 := oct_length _
    have hm2 : (oct (tot sc)).length = (more (tot sc)).length + 1 := oct_length _
    have hw0 : (word0 sc).length = (oct (plc sc)).length + (oct (tot sc)).length := List.length_append ..
    have hovl : ov.length = (word0 sc).length := hov.length
    refine c_varint hS (by walk_at "om") (l := ol) (xs := ov) (ns := word0 sc) (j := 0) hov (isOct_oct (plc sc)) (fun i hi => by
      rw [Nat.zero_add]; unfold word0; rw [List.getElem?_append_left (by walk_at "om")]) (plc_lt sc) (by walk_at "mem") fun t5 => ?_
    repeat walk_at "w"
    refine ⟨Kp.of_fn hS.f48, ?_⟩
    refine c_varint hS (by walk_at "om") (l := ol) (xs := ov) (ns := word0 sc) (j := 0 + ((more (plc sc)).length + 1)) hov (isOct_oct (tot sc)) (fun i hi => by
      unfold word0; rw [List.getElem?_append_right (by walk_at "om")]; congr 1; walk_at "om") (tot_lt sc) (by walk_at "mem") fun t6 => ?_
    rw [show 0 + ((more (plc sc)).length + 1) + ((more (tot sc)).length + 1) = ov.length by walk_at "om"]
    repeat walk_at "w"
    refine ⟨of_decide_eq_true (by kernel_rfl), fun a1 => ?_⟩
    repeat walk_at "w"
    refine' w_listEnd (xs := ov) ?hm ?hl ?pk fun a2 => ?_
    case hm => walk_at "mem"
    case hl => walk_at "mem"
    case pk => walk_at "pick"
    refine w_addL (ys := []) (by walk_at "mem") (.head _) (of_decide_eq_true (by kernel_rfl)) fun a3 => ?_
    repeat walk_at "w"
    refine ⟨of_decide_eq_true (by kernel_rfl), fun a4 => ?_⟩
    repeat walk_at "w"
    refine' w_neSame (xs := [.int ((plc sc : Nat) : Int) t5, .int ((tot sc : Nat) : Int) t6] ++ []) (ys := [.int ((plc sc : Nat) : Int) tp, .int ((tot sc : Nat) : Int) tt]) ?hx ?hy rfl (same_ints (ss := [((plc sc : Nat) : Int), ((tot sc : Nat) : Int)]) (by unfold Ints; rfl) (by unfold Ints; rfl)) (by walk_at "om") ?_
    case hx => walk_at "mem"
    case hy => walk_at "mem"
    walk_at "w"
    rw [if_neg (by simp)]
    walk_at "w"
    walk_at "w"
    have q' := q a pb rl vs rv tn tw F hG hF g3 grv
    rw [hGd, ← hcn] at q'
    refine' W.weak (Ent.trans (Lay.ent ?lay) (ent_ns ?sub)) q'
    case lay => walk_at "lay"
    case sub => walk_at "subs"
end
end
section
theorem occ_count (l : List Nat) (c : Nat) : ∀ (m i : Nat) (acc : Array Nat) (free : Nat), i + m = l.length + 1 → free ≤ i → acc.size ≤ i →
    (forIn (List.range' i m) (acc, free) (StrLaws.occBody (strOf l) ⟨#[c]⟩ l.length (l.length + 1))).run.fst.size = acc.size + (l.drop i).count c
  | 0, i, acc, free, h1, h2, h3 => by
    rw [List.drop_eq_nil_of_le (by walk_at "om")]; rfl
  | m + 1, i, acc, free, h1, h2, h3 => by
    rw [List.range'_succ, List.forIn_cons]
    have key := StrLaws.subAt_one (strOf l) c i
    rw [strOf_len] at key
    have key2 : (strOf l).cps.toList = l := by show l.toArray.toList = l; simp
    rw [key2] at key
    have e1 : (⟨#[c]⟩ : Str).length = 1 := rfl
    rw [e1] at key
    unfold StrLaws.occBody
    by_cases hc : l[i]? = some c
    · have hk := key.mpr hc
      have hi : i < l.length := by walk_at "om"
      rw [if_pos ⟨⟨⟨by dsimp only; walk_at "om", h2⟩, by rw [e1]; exact hk.1⟩, hk.2⟩]
      have ih := occ_count l c m (i + 1) (acc.push i) (i + 1) (by walk_at "om") (Nat.le_refl _) (by rw [Array.size_push]; walk_at "om")
      have e : l.drop i = c :: l.drop (i + 1) := by
        rw [List.drop_eq_getElem_cons hi]; congr 1; exact Option.some.inj ((List.getElem?_eq_getElem hi).symm.trans hc)
      rw [e, List.count_cons_self]
      rw [Array.size_push] at ih
      have : (forIn (List.range' (i + 1) m) (acc.push i, i + 1) (StrLaws.occBody (strOf l) ⟨#[c]⟩ l.length (l.length + 1))).run.fst.size = acc.size + ((l.drop (i + 1)).count c + 1) := by rw [ih]; walk_at "om"
      exact this
    · rw [if_neg (fun h => hc (key.mp ⟨by have := h.1.2; rw [e1] at this; exact this, h.2⟩))]
      have ih := occ_count l c m (i + 1) acc free (by walk_at "om") (by walk_at "om") (by walk_at "om")
      have e : (l.drop i).count c = (l.drop (i + 1)).count c := by
        by_cases hi : i < l.length
        · rw [List.drop_eq_getElem_cons hi, List.count_cons_of_ne]
          intro h; exact hc (by rw [List.getElem?_eq_getElem hi, h])
        · rw [List.drop_eq_nil_of_le (by walk_at "om"), List.drop_eq_nil_of_le (by walk_at "om")]
      rw [e]
      exact ih
theorem txt_count (l : List Nat) (c : Nat) : (Txt.count (strOf l) ⟨#[c]⟩ : Int) = ((l.count c : Nat) : Int) := by
  unfold Txt.count
  rw [StrLaws.occ_eq, strOf_len]
  have := occ_count l c (l.length + 1) 0 #[] 0 (by walk_at "om") (Nat.le_refl _) (by simp)
  rw [Array.length_toList, Nat.sub_zero, this]
  simp
section
variable {X : XX} {k : Nat} {cs cs' : List Cl} {env : Env} {K : Frag}
theorem w_countT {l : List Nat} {c : Nat} {t u : Tok} {Q : Value → List Cl → Prop} (q : ∀ t', Q (.int ((l.count c : Nat) : Int) t') cs) : W X k (call (.builtin "str.count") [.str (strOf l) t, .str ⟨#[c]⟩ u]) cs Q := .mk fun hp tk s =>
  SC.count (by rw [txt_count]; exact .mk s (q _))
theorem rowsC_put {a : Addr} {l l' : List Value} : ∀ {tgs : List Addr} {ls : List (List Value)} {j : Nat}, tgs[j]? = some a → ls[j]? = some l → Put a (LsL l) (LsL l') (rowsC tgs ls) (rowsC tgs (ls.set j l'))
  | [], _, _, h, _ => by simp at h
  | _ :: _, [], _, _, h => by simp at h
  | b :: tgs, m :: ls, 0, h1, h2 => by simp at h1 h2; subst h1; subst h2; exact Put.head
  | b :: tgs, m :: ls, j + 1, h1, h2 => by
    rw [List.set_cons_succ]
    exact Put.tail (rowsC_put (by simpa using h1) (by simpa using h2))
theorem Put.app {a : Addr} {P P' : Obj → Prop} {l l' : List Cl} (r : List Cl) : Put a P P' l l' → Put a P P' (l ++ r) (l' ++ r)
  | .head => .head
  | .tail p => .tail (p.app r)
end
end
section
section
variable {X : XX} {k : Nat} {cs cs' : List Cl} {env : Env} {K : Frag}
/-- the law, the rounds -/
theorem lawD (hI : StatI X K) {L fa nl wl pb rl : Addr} {a : LxA} {cd : Value} {sc : List Int} {nv wv rv vs : List Value} {n : Nat} {tp tt tn tw t1 t2 : Tok} {F : List Cl}
    (hG : LexG a F) (hn : Nats nv (numsN sc)) (hw : Strs wv ((wordsL sc).map strOf)) (hr : Strs rv ((numsN sc).map octS))
    {Q : Flow → List Cl → Prop}
    (q : ∀ (rl tl kl : Addr) (rv : List Value) (tgs : List Addr) (ls : List (List Value)) (T : List Cl), TabOK 114 kQ T → tgs.length = (numsN sc).length → ls.length = (numsN sc).length →
      (∀ i, i < (numsN sc).length → ∃ t, ls[i]? = some [.int (((numsN sc).getD i 0 : Nat) : Int) t]) → W X 0 (execs ((bodyOf (stmtAt 14)).drop 18) (lawE L fa cd))
      (dC a L nl wl pb rl tl kl [("places", .int ((plc sc : Nat) : Int) tp), ("total", .int ((tot sc : Nat) : Int) tt), ("words", .ref wl), ("text", .str (strOf (textL sc)) t1), ("begun", .str (strOf (begunL sc)) t2), ("row", .ref rl), ("thrown", .ref tl), ("kept", .ref kl)] n tn tw vs nv wv rv [] (tgs.map .ref) ((kord (numsN sc) (numsN sc).length).map fun i => .ref (tgs.getD i 0)) ((rowsC tgs ls ++ F) ++ T)) Q) :
    W X 0 (execs ((bodyOf (stmtAt 14)).drop 15) (lawE L fa cd))
      ((L, NsL [("places", .int ((plc sc : Nat) : Int) tp), ("total", .int ((tot sc : Nat) : Int) tt), ("words", .ref wl), ("text", .str (strOf (textL sc)) t1), ("begun", .str (strOf (begunL sc)) t2), ("row", .ref rl)]) :: (L + 2, CellV (.ref a.lx)) :: (L + 1, CellV (.ref nl)) ::
        (a.sg, LsL vs) :: (a.dlx, DcL (lexL n tn (.ref a.st) (.str wsS tw) (.ref pb))) :: (pb, LsL []) :: (nl, LsL nv) :: (wl, LsL wv) :: (rl, LsL rv) :: (F ++ [(114, (· = tabObj #[]))])) Q := by
  have hS := hI.toStat
  have hnl := nums_len sc
  have hdl := drawn_len sc
  have hnvl : nv.length = (numsN sc).length := hn.length
  repeat walk_at "w"
  refine ⟨of_decide_eq_true (by kernel_rfl), fun tl => ?_⟩
  repeat walk_at "w"
  refine ⟨of_decide_eq_true (by kernel_rfl), fun kl => ?_⟩
  repeat walk_at "w"
  refine w_for ?_ (fun _ => by kernel_rfl)
  repeat walk_at "w"
  refine w_len (xs := nv) (by walk_at "mem") (show nv.length ≤ 16777216 by walk_at "om") fun _ => ?_
  repeat walk_at "w"
  refine w_range1 fun rg => ?_
  refine w_iterR (.head _) (by walk_at "om") (small_ok0 (n := nv.length) (by walk_at "om")) fun it => ?_
  rw [Int.sub_zero, hnvl]
  refine' WC.weak (Lay.ent ?lay) (w_forItr (i := it) itrR (fun j c => ∃ (rl : Addr) (rv : List Value) (tgs : List Addr) (ls : List (List Value)) (T : List Cl), Strs rv ((numsN sc).map octS) ∧ TabOK 114 kQ T ∧ tgs.length = j ∧ ls.length = j ∧
    (∀ i, i < j → ∃ t, ls[i]? = some [.int (((numsN sc).getD i 0 : Nat) : Int) t]) ∧
    c = dC a L nl wl pb rl tl kl [("places", .int ((plc sc : Nat) : Int) tp), ("total", .int ((tot sc : Nat) : Int) tt), ("words", .ref wl), ("text", .str (strOf (textL sc)) t1), ("begun", .str (strOf (begunL sc)) t2), ("row", .ref rl), ("thrown", .ref tl), ("kept", .ref kl)] n tn tw vs nv wv rv [] (tgs.map .ref) ((kord (numsN sc) j).map fun i => .ref (tgs.getD i 0)) ((rowsC tgs ls ++ F) ++ T))
    (fun j c h => trivial) (fun j hj v hv c hJ => ?_) (fun c hJ => ?_) ⟨rl, rv, [], [], _, hr, TabOK.fresh 114 kQ, rfl, rfl, fun i hi => by walk_at "om", rfl⟩)
  case lay => walk_at "lay"
  · obtain ⟨t, rfl⟩ := hv
    obtain ⟨rl, rv, tgs, ls, T, g1, g2, g3, g4, g5, rfl⟩ := hJ
    rw [Int.zero_add]
    walk_at "w"
    refine W.mono (lawTurn hI hG hn hw g1 hj g2 rfl g3 g4 g5 rfl) fun f c h => ?_
    obtain ⟨rfl, rl', b, rv', t', T', g6, g7, he⟩ := h
    refine ⟨_, he, rl', rv', tgs ++ [b], _, T', g6, g7, by rw [List.length_append, g3]; rfl, by rw [List.length_append, g4]; rfl, fun i hi => ?_, rfl⟩
    by_cases hij : i < j
    · obtain ⟨t, ht⟩ := g5 i hij
      exact ⟨t, by rw [List.getElem?_append_left (by walk_at "om")]; exact ht⟩
    · have : i = j := by walk_at "om"
      subst this
      exact ⟨t', by rw [List.getElem?_append_right (by walk_at "om"), g4, Nat.sub_self]; rfl⟩
  · obtain ⟨rl, rv, tgs, ls, T, g1, g2, g3, g4, g5, rfl⟩ := hJ
    refine w_next ?_
    exact q rl tl kl rv tgs ls T g2 g3 g4 g5
end
end
section
section
variable {X : XX} {k : Nat} {cs cs' : List Cl} {env : Env} {K : Frag}
/-- the law, the order -/
theorem lawE1 (hI : StatI X K) {L fa nl wl pb rl tl kl : Addr} {a : LxA} {cd : Value} {sc : List Int} {nv wv rv vs : List Value} {n : Nat} {tp tt tn tw t1 t2 : Tok} {F T : List Cl} {tgs : List Addr} {ls : List (List Value)}
    (hG : LexG a F) (hn : Nats nv (numsN sc)) (htl : tgs.length = (numsN sc).length) (hls : ls.length = (numsN sc).length) (hll : ∀ i, i < (numsN sc).length → ∃ t, ls[i]? = some [.int (((numsN sc).getD i 0 : Nat) : Int) t])
    {Q : Flow → List Cl → Prop}
    (q : ∀ R, LexG a R → (∀ x, x ∈ F → x ∈ R) → (∀ x, x ∈ T → x ∈ R) → W X 0 (execs ((bodyOf (stmtAt 14)).drop 20) (lawE L fa cd))
      ((L, NsL [("words", .ref wl), ("text", .str (strOf (textL sc)) t1), ("begun", .str (strOf (begunL sc)) t2)]) :: (L + 2, CellV (.ref a.lx)) :: (a.sg, LsL vs) :: (a.dlx, DcL (lexL n tn (.ref a.st) (.str wsS tw) (.ref pb))) :: (pb, LsL []) :: (wl, LsL wv) :: R) Q) :
    W X 0 (execs ((bodyOf (stmtAt 14)).drop 18) (lawE L fa cd))
      (dC a L nl wl pb rl tl kl [("places", .int ((plc sc : Nat) : Int) tp), ("total", .int ((tot sc : Nat) : Int) tt), ("words", .ref wl), ("text", .str (strOf (textL sc)) t1), ("begun", .str (strOf (begunL sc)) t2), ("row", .ref rl), ("thrown", .ref tl), ("kept", .ref kl)] n tn tw vs nv wv rv [] (tgs.map .ref) ((kord (numsN sc) (numsN sc).length).map fun i => .ref (tgs.getD i 0)) ((rowsC tgs ls ++ F) ++ T)) Q := by
  have hS := hI.toStat
  have hnl := nums_len sc
  have hdl := drawn_len sc
  have hnvl : nv.length = (numsN sc).length := hn.length
  have htvl : (tgs.map Value.ref).length = (numsN sc).length := by rw [List.length_map, htl]
  generalize hkv : ((kord (numsN sc) (numsN sc).length).map fun i => Value.ref (tgs.getD i 0)) = kv
  generalize htv : tgs.map Value.ref = tv at htvl ⊢
  repeat walk_at "w"
  refine w_for ?_ (fun _ => by kernel_rfl)
  repeat walk_at "w"
  refine w_len (xs := nv) (by walk_at "mem") (show nv.length ≤ 16777216 by walk_at "om") fun _ => ?_
  repeat walk_at "w"
  refine w_range1 fun rg => ?_
  refine w_iterR (.head _) (by walk_at "om") (small_ok0 (n := nv.length) (by walk_at "om")) fun it => ?_
  rw [Int.sub_zero, hnvl]
  refine' WC.weak (Lay.ent ?lay) (w_forItr (i := it) itrR (fun j c => ∃ (ls : List (List Value)), ls.length = (numsN sc).length ∧ (∀ i, i < (numsN sc).length → ∃ t t', ls[i]? = some ([.int (((numsN sc).getD i 0 : Nat) : Int) t] ++ if i < j then [.int (i : Int) t'] else [])) ∧
    c = dC a L nl wl pb rl tl kl [("places", .int ((plc sc : Nat) : Int) tp), ("total", .int ((tot sc : Nat) : Int) tt), ("words", .ref wl), ("text", .str (strOf (textL sc)) t1), ("begun", .str (strOf (begunL sc)) t2), ("row", .ref rl), ("thrown", .ref tl), ("kept", .ref kl)] n tn tw vs nv wv rv [] tv kv ((rowsC tgs ls ++ F) ++ T))
    (fun j c h => trivial) (fun j hj v hv c hJ => ?_) (fun c hJ => ?_) ⟨ls, hls, fun i hi => by obtain ⟨t, ht⟩ := hll i hi; exact ⟨t, 0, by rw [if_neg (by walk_at "om"), List.append_nil]; exact ht⟩, rfl⟩)
  case lay => walk_at "lay"
  · obtain ⟨t, rfl⟩ := hv
    obtain ⟨ls, g1, g2, rfl⟩ := hJ
    rw [Int.zero_add]
    obtain ⟨u1, u2, hu⟩ := g2 j hj
    rw [if_neg (by walk_at "om"), List.append_nil] at hu
    have htj : tgs[j]? = some tgs[j] := List.getElem?_eq_getElem (by walk_at "om")
    have hput := Put.app T (Put.app F (rowsC_put (l' := [.int (((numsN sc).getD j 0 : Nat) : Int) u1] ++ [.int (j : Int) t]) htj hu))
    have hmem := hput.mem
    repeat walk_at "w"
    refine w_itemL (xs := tv) (by walk_at "mem") rfl (v := .ref tgs[j]) (by subst htv; rw [List.getElem?_map, htj]; rfl) (by rw [htvl]; exact (show (numsN sc).length ≤ 16777216 by walk_at "om")) ?_ (by kernel_rfl)
    repeat walk_at "w"
    refine w_append (xs := [.int (((numsN sc).getD j 0 : Nat) : Int) u1]) (v := .int (j : Int) t) (cs' := (it, RgI 0 (numsN sc).length (j + 1)) :: dC a L nl wl pb rl tl kl [("places", .int ((plc sc : Nat) : Int) tp), ("total", .int ((tot sc : Nat) : Int) tt), ("words", .ref wl), ("text", .str (strOf (textL sc)) t1), ("begun", .str (strOf (begunL sc)) t2), ("row", .ref rl), ("thrown", .ref tl), ("kept", .ref kl), ("gone", .int j t)] n tn tw vs nv wv rv [] tv kv ((rowsC tgs (ls.set j ([.int (((numsN sc).getD j 0 : Nat) : Int) u1] ++ [.int (j : Int) t])) ++ F) ++ T)) ?pp (of_decide_eq_true (by kernel_rfl)) ?_
    case pp =>
      refine Put.tail ?_
      iterate 11 refine Put.tail ?_
      exact hput
    repeat walk_at "w"
    refine ⟨_, ent_ns2 (by walk_at "subs"), _, by rw [List.length_set]; exact g1, fun i hi => ?_, rfl⟩
    by_cases hij : i = j
    · subst hij
      exact ⟨u1, t, by rw [List.getElem?_set_self (by walk_at "om"), if_pos (by walk_at "om")]⟩
    · obtain ⟨v1, v2, hv⟩ := g2 i hi
      refine ⟨v1, v2, ?_⟩
      rw [List.getElem?_set_ne (by walk_at "om"), hv]
      by_cases h : i < j
      · rw [if_pos h, if_pos (by walk_at "om")]
      · rw [if_neg h, if_neg (by walk_at "om")]
  · obtain ⟨ls, g1, g2, rfl⟩ := hJ
    refine w_next ?_
    repeat walk_at "w"
    refine' w_sortedL (ρ := rho (numsN sc)) (vs := tv) (ns := [("places", .int ((plc sc : Nat) : Int) tp), ("total", .int ((tot sc : Nat) : Int) tt), ("words", .ref wl), ("text", .str (strOf (textL sc)) t1), ("begun", .str (strOf (begunL sc)) t2), ("row", .ref rl), ("thrown", .ref tl), ("kept", .ref kl)]) (by walk_at "om") ?hm ?hL (by walk_at "om") (by walk_at "om") (rho_inj (numsN sc) (by walk_at "om")) ⟨fun i => [(((numsN sc).getD i 0 : Nat) : Int), (i : Int)], fun i hi => ?hrow, fun i j hi hj => lex2 (numsN sc) (n := (numsN sc).length) (by walk_at "om") i j (by walk_at "om") (by walk_at "om")⟩ fun D p hp hu => ?_
    case hm => walk_at "mem"
    case hL => walk_at "mem"
    case hrow =>
      have hi' : i < (numsN sc).length := by walk_at "om"
      obtain ⟨v1, v2, hv⟩ := g2 i hi'
      rw [if_pos hi'] at hv
      have hti : tgs[i]? = some tgs[i] := List.getElem?_eq_getElem (by walk_at "om")
      have hmem : (tgs[i], LsL ([.int (((numsN sc).getD i 0 : Nat) : Int) v1] ++ [.int (i : Int) v2])) ∈ (rowsC tgs ls ++ F) ++ T := List.mem_append_left _ (List.mem_append_left _ (rowsC_mem hti hv))
      refine ⟨tgs[i], [.int (((numsN sc).getD i 0 : Nat) : Int) v1] ++ [.int (i : Int) v2], by subst htv; rw [List.getElem?_map, hti]; rfl, ?_, ?_⟩
      · walk_at "mem"
      · unfold Ints; rfl
    rw [htvl] at hp hu
    have hpk := kord_uniq (by walk_at "om") hp hu
    have hkl : kv.length = (numsN sc).length := by rw [← hkv, List.length_map, kord_len]
    have hsame : (p.toList.map fun i => tv.getD i .none) = kv := by
      rw [hpk, ← hkv, ← htv]
      refine List.map_congr_left fun m hm => ?_
      have hmj : m < (numsN sc).length := by simpa using (kord_perm (numsN sc) _).subset hm
      rw [List.getD_eq_getElem?_getD, List.getD_eq_getElem?_getD, List.getElem?_map, List.getElem?_eq_getElem (by walk_at "om")]; rfl
    rw [hsame]
    refine' w_neSame (xs := kv) (ys := kv) ?hx ?hy rfl (fun j x y h1 h2 => .inl (by rw [h1] at h2; exact Option.some.inj h2)) (by walk_at "om") ?_
    case hx => walk_at "mem"
    case hy => walk_at "mem"
    walk_at "w"
    rw [if_neg (by simp)]
    walk_at "w"
    walk_at "w"
    refine' W.weak (Ent.trans (Lay.ent ?lay) (ent_ns ?sub)) (q ((rowsC tgs ls ++ F) ++ T) (hG.mono fun x hx => List.mem_append_left _ (List.mem_append_right _ hx)) (fun x hx => List.mem_append_left _ (List.mem_append_right _ hx)) (fun x hx => List.mem_append_right _ hx))
    case lay => walk_at "lay"
    case sub => walk_at "subs"
end
end
section
theorem rdt_tail (sc : List Int) : rdt (tailL sc) (1 + (begunL sc).count 10) = ⟨word0 sc, [], 1 + (textL sc).count 10⟩ := by
  unfold textL tailL
  rw [rdt_ws (by decide), rdt_ws (by decide), rdt_last]
  rw [List.count_append, List.count_cons, List.count_cons, List.count_cons]
  congr 1
  simp [nl1]
  walk_at "om"
section
variable {X : XX} {k : Nat} {cs cs' : List Cl} {env : Env} {K : Frag}
/-- the law, the lines -/
theorem lawF (hI : StatI X K) {L fa wl pb : Addr} {a : LxA} {cd : Value} {sc : List Int} {wv vs : List Value} {tn tw t1 t2 : Tok} {R : List Cl}
    (hG : LexG a R) (hw : Strs wv ((wordsL sc).map strOf)) (hv : Chars vs (tailL sc)) {Q : Flow → List Cl → Prop} (q : ∀ c, (∀ x, x ∈ R → x ∈ c) → Q (.ret (.bool true)) c) :
    W X 0 (execs ((bodyOf (stmtAt 14)).drop 20) (lawE L fa cd))
      ((L, NsL [("words", .ref wl), ("text", .str (strOf (textL sc)) t1), ("begun", .str (strOf (begunL sc)) t2)]) :: (L + 2, CellV (.ref a.lx)) :: (a.sg, LsL vs) :: (a.dlx, DcL (lexL (1 + (begunL sc).count 10) tn (.ref a.st) (.str wsS tw) (.ref pb))) :: (pb, LsL []) :: (wl, LsL wv) :: R) Q := by
  have hS := hI.toStat
  obtain ⟨hR, h2, h3, h4⟩ := id hG
  have hwl : wv.length = (wordsL sc).length := by rw [hw.length, List.length_map]
  have hwl1 := words_len sc
  have hnl := nums_len sc
  have hdl := drawn_len sc
  have htl := text_len sc
  have htl2 : (tailL sc).length ≤ 300 := by unfold textL at htl; rw [List.length_append] at htl; walk_at "om"
  obtain ⟨tw0, gw⟩ := hw.at (j := 0) (n := strOf (word0 sc)) rfl
  repeat walk_at "w"
  refine ⟨Kp.of_fn hS.f76, ?_⟩
  refine' W.weak (Lay.ent (t := (a.sg, LsL vs) :: (a.dlx, DcL (lexL (1 + (begunL sc).count 10) tn (.ref a.st) (.str wsS tw) (.ref pb))) :: (L, NsL [("words", .ref wl), ("text", .str (strOf (textL sc)) t1), ("begun", .str (strOf (begunL sc)) t2)]) :: (L + 2, CellV (.ref a.lx)) :: (pb, LsL []) :: (wl, LsL wv) :: R) ?lay) ?_
  case lay => walk_at "lay"
  refine c_getR hI (by walk_at "om") (hG.mono fun x hx => by walk_at "mem") (by walk_at "mem") hv (by walk_at "om") fun t5 tn5 vs5 hv5 => ?_
  rw [rdt_tail] at hv5 ⊢
  dsimp only at hv5 ⊢
  repeat walk_at "w"
  refine ⟨Kp.of_fn hS.f76, ?_⟩
  refine c_getR hI (by walk_at "om") (hG.mono fun x hx => by walk_at "mem") (by walk_at "mem") hv5 (by simp) fun t6 tn6 vs6 hv6 => ?_
  rw [show rdt [] (1 + (textL sc).count 10) = ⟨[], [], 1 + (textL sc).count 10⟩ from rfl] at hv6 ⊢
  dsimp only at hv6 ⊢
  repeat walk_at "w"
  refine ⟨of_decide_eq_true (by kernel_rfl), fun a1 => ?_⟩
  repeat walk_at "w"
  refine w_countT (l := begunL sc) (c := 10) fun t7 => ?_
  repeat walk_at "w"
  refine w_itemL (xs := wv) (j := 0) (by walk_at "mem") rfl gw (show wv.length ≤ 16777216 by walk_at "om") ?_ (by kernel_rfl)
  repeat walk_at "w"
  refine w_countT (l := textL sc) (c := 10) fun t8 => ?_
  repeat walk_at "w"
  refine ⟨of_decide_eq_true (by kernel_rfl), fun a2 => ?_⟩
  have c1 : (((1 + (begunL sc).count 10 : Nat)) : Int) = 1 + (((begunL sc).count 10 : Nat) : Int) := by walk_at "om"
  have c2 : (((1 + (textL sc).count 10 : Nat)) : Int) = 1 + (((textL sc).count 10 : Nat) : Int) := by walk_at "om"
  rw [c1, c2]
  refine' w_eqSame ?hx ?hy ?hl (fun j x y h1 h2 => ?hs) (by walk_at "om") ?_
  case hx => exact .tail _ (.head _)
  case hy => exact .head _
  case hl => rfl
  case hs =>
    match j, h1, h2 with
    | 0, h1, h2 => cases h1; cases h2; exact .inr (.inl ⟨_, _, _, rfl, rfl⟩)
    | 1, h1, h2 => cases h1; cases h2; exact .inr (.inr ⟨_, _, _, rfl, rfl⟩)
    | 2, h1, h2 => cases h1; cases h2; exact .inr (.inr ⟨_, _, _, rfl, rfl⟩)
    | 3, h1, h2 => cases h1; cases h2; exact .inr (.inl ⟨_, _, _, rfl, rfl⟩)
    | j + 4, h1, h2 => simp at h1
  repeat walk_at "w"
  exact w_back (q _ fun x hx => by walk_at "mem")
end
end
section
section
variable {X : XX} {p : Program} {loose : List Str} {mean : ExcName → Option Value}
theorem bmain_at (T : Top p loose mean X.mg X.mb X.g) {P : Addr} (hP : X.g.get? P = none) : X.g.BuiltinsAt X.mg P := by
  obtain ⟨bm, ob, b1, b2, b3, b4, b5, b6⟩ := T.bmain
  refine ⟨bm, ob, b1, b2, fun e => ?_, fun e => ?_, b3, b4, b5, b6⟩
  · obtain ⟨o, es, ep, g1, g2, _⟩ := T.g
    rw [e, g1] at b3; cases b3
    rw [g2] at b6; cases b6
  · rw [e, hP] at b3; cases b3
theorem stat_of (hK : (KK X.w.params).In X.g) (T : Top p loose mean X.mg X.mb X.g) : Stat X where
  lim := T.nolimit
  G := T.g
  B := T.b
  f23 := ⟨⟨_, _, _, _, _, hK 23 _ rfl⟩, ⟨22, _, _, _, rfl, hK 22 _ rfl, rfl, rfl⟩⟩
  f32 := ⟨⟨_, _, _, _, _, hK 32 _ rfl⟩, ⟨31, _, _, _, rfl, hK 31 _ rfl, rfl, rfl⟩⟩
  f41 := ⟨⟨_, _, _, _, _, hK 41 _ rfl⟩, ⟨40, _, _, _, rfl, hK 40 _ rfl, rfl, rfl⟩⟩
  f48 := ⟨⟨_, _, _, _, _, hK 48 _ rfl⟩, ⟨47, _, _, _, rfl, hK 47 _ rfl, rfl, rfl⟩⟩
  f62 := ⟨⟨_, _, _, _, _, hK 62 _ rfl⟩, ⟨61, _, _, _, rfl, hK 61 _ rfl, rfl, rfl⟩⟩
  f69 := ⟨⟨_, _, _, _, _, hK 69 _ rfl⟩, ⟨68, _, _, _, rfl, hK 68 _ rfl, rfl, rfl⟩⟩
  f76 := ⟨⟨_, _, _, _, _, hK 76 _ rfl⟩, ⟨75, _, _, _, rfl, hK 75 _ rfl, rfl, rfl⟩⟩
  f83 := ⟨⟨_, _, _, _, _, hK 83 _ rfl⟩, ⟨82, _, _, _, rfl, hK 82 _ rfl, rfl, rfl⟩⟩
  f95 := ⟨⟨_, _, _, _, _, hK 95 _ rfl⟩, ⟨94, _, _, _, rfl, hK 94 _ rfl, rfl, rfl⟩⟩
  f100 := ⟨⟨_, _, _, _, _, hK 100 _ rfl⟩, ⟨99, _, _, _, rfl, hK 99 _ rfl, rfl, rfl⟩⟩
  f105 := ⟨⟨_, _, _, _, _, hK 105 _ rfl⟩, ⟨104, _, _, _, rfl, hK 104 _ rfl, rfl, rfl⟩⟩
  f112 := ⟨⟨_, _, _, _, _, hK 112 _ rfl⟩, ⟨111, _, _, _, rfl, hK 111 _ rfl, rfl, rfl⟩⟩
  f117 := ⟨⟨_, _, _, _, _, hK 117 _ rfl⟩, ⟨116, _, _, _, rfl, hK 116 _ rfl, rfl, rfl⟩⟩
  g23 := mg_of hK T.g (by kernel_rfl)
  g32 := mg_of hK T.g (by kernel_rfl)
  g41 := mg_of hK T.g (by kernel_rfl)
  g48 := mg_of hK T.g (by kernel_rfl)
  g86 := mg_of hK T.g (by kernel_rfl)
  g95 := mg_of hK T.g (by kernel_rfl)
  g100 := mg_of hK T.g (by kernel_rfl)
  g105 := mg_of hK T.g (by kernel_rfl)
  g112 := mg_of hK T.g (by kernel_rfl)
  g117 := mg_of hK T.g (by kernel_rfl)
  b_len := ⟨mg_none_of hK T.g (by kernel_rfl), (T.builtins _ (by decide)).trans (by kernel_rfl)⟩
  b_range := ⟨mg_none_of hK T.g (by kernel_rfl), (T.builtins _ (by decide)).trans (by kernel_rfl)⟩
  b_sum := ⟨mg_none_of hK T.g (by kernel_rfl), (T.builtins _ (by decide)).trans (by kernel_rfl)⟩
  b_iter := ⟨mg_none_of hK T.g (by kernel_rfl), (T.builtins _ (by decide)).trans (by kernel_rfl)⟩
  b_next := ⟨mg_none_of hK T.g (by kernel_rfl), (T.builtins _ (by decide)).trans (by kernel_rfl)⟩
  b_list := ⟨mg_none_of hK T.g (by kernel_rfl), (T.builtins _ (by decide)).trans (by kernel_rfl)⟩
  b_ord := ⟨mg_none_of hK T.g (by kernel_rfl), (T.builtins _ (by decide)).trans (by kernel_rfl)⟩
  b_chr := ⟨mg_none_of hK T.g (by kernel_rfl), (T.builtins _ (by decide)).trans (by kernel_rfl)⟩
  b_sorted := ⟨mg_none_of hK T.g (by kernel_rfl), (T.builtins _ (by decide)).trans (by kernel_rfl)⟩
theorem statI_of (hK : (KK X.w.params).In X.g) (T : Top p loose mean X.mg X.mb X.g) (h114 : X.g.get? 114 = none) (h107 : X.g.get? 107 = none) (c116 : CodeHd X.g 116 114) (c111 : CodeHd X.g 111 107) : StatI X (KK X.w.params) where
  toStat := stat_of hK T
  t15 := ⟨_, _, _, hK 15 _ rfl, rfl⟩
  t24 := ⟨_, _, _, hK 24 _ rfl, rfl⟩
  t33 := ⟨_, _, _, hK 33 _ rfl, rfl⟩
  k16 := ⟨_, _, _, _, _, _, hK 16 _ rfl⟩
  k25 := ⟨_, _, _, _, _, _, hK 25 _ rfl⟩
  k34 := ⟨_, _, _, _, _, _, hK 34 _ rfl⟩
  c116 := c116
  c111 := c111
  b114 := bmain_at T h114
  b107 := bmain_at T h107
  kin := hK
  ga := by kernel_rfl
  gt := by kernel_rfl
  sa := by kernel_rfl
  over := by kernel_rfl
  hasD := by kernel_rfl
  makes := by kernel_rfl
  call := by kernel_rfl
  init := by kernel_rfl
  m69 := by kernel_rfl
  m76 := by kernel_rfl
  m83 := by kernel_rfl
  y62 := by kernel_rfl
  y69 := by kernel_rfl
  y76 := by kernel_rfl
  y83 := by kernel_rfl
  g69 := by kernel_rfl
  t69 := by kernel_rfl
  n1 := by kernel_rfl
  n2 := by kernel_rfl
  n3 := by kernel_rfl
  n4 := by kernel_rfl
  n5 := by kernel_rfl
end
end
section
section
variable {X : XX} {K : Frag}
/-- the law's body -/
theorem lawAll (hI : StatI X K) {L fa sl : Addr} {cd : Value} {sv : List Value} {sc : List Int} (hg : X.g.IsList sl sv.toArray) (hsv : Ints sv sc) (hl : sc.length ≤ 63) {Q : Flow → List Cl → Prop}
    (q : ∀ c, (∃ ps, ((114 : Addr), ((· = tabObj ps) : Obj → Prop)) ∈ c) → (∃ ps, ((107 : Addr), ((· = tabObj ps) : Obj → Prop)) ∈ c) → Q (.ret (.bool true)) c) :
    W X 0 (execs (bodyOf (stmtAt 14)) (lawE L fa cd)) ((L, NsL [("script", .ref sl)]) :: (L + 2, CellN) :: (L + 1, CellN) :: [(114, (· = tabObj #[])), (107, (· = tabObj #[]))]) Q :=
  lawA hI.toStat hg hsv hl fun dr nl wl dv nv wv tp tt hd hn hw =>
  lawB hI.toStat hd hn hw fun t1 t2 =>
  lawC hI hn hw fun a pb rl vs rv tn tw F hG hF hv hr =>
  lawD hI hG hn hw hr fun rl tl kl rv tgs ls T hT h1 h2 h3 =>
  lawE1 hI hG hn h1 h2 h3 fun R hGR hFR hTR =>
  lawF hI hGR hw hv fun c hc => q c
    (by obtain ⟨ps, R', e, _⟩ := hT; exact ⟨ps, hc _ (hTR _ (e ▸ .head _))⟩)
    (by obtain ⟨ps, h⟩ := hF; exact ⟨ps, hc _ (hFR _ h)⟩)
end
end
section
theorem ints_of : ∀ {xs : List Value} {ns : List Int}, IntsAre xs ns → Ints xs ns := by
  intro xs ns h
  induction h with
  | nil => rfl
  | cons n t _ ih => unfold Ints at ih ⊢; rw [List.map_cons, List.map_cons, ih]; rfl
theorem holds : PySem.Challenge.rw_sl0008_01.Holds := by
  refine hd ?_
  k_go0
  rename_i w s0 s1 mg mb G Y fa o pm cd doc ho hcd hg X V T B TE TW script hs hlay0 hLy hrA hl2 q6 q5 sl sv q2 hL ra wW r0 hI hrW hc1 hc2 hD h1 tk1 oA oB eA eB X0 X' T' K' F' codeHd1 N' l0
  have h114 := (N' (114, tabObj #[]) (.tail _ (.tail _ (.head _)))).2.2
  have h107 := (N' (107, tabObj #[]) (.tail _ (.tail _ (.tail _ (.head _))))).2.2
  let XX0 : XX := ⟨w, s1.gens, s1.drawn, s1.os, ghostOf s1.heap [(116, 114), (111, 107)], mg, mb⟩
  have hIs : StatI XX0 (KK w.params) := statI_of (X := XX0) X' T' h114 h107 codeHd1 codeHd
  have hlen : script.length ≤ 63 := by walk_at "om"
  with_reducible refine' any_up (k := 0) ?h00 ?dep ?uni ?_
  case h00 => rfl
  case dep => exact of_decide_eq_true (by kernel_rfl)
  case uni => exact of_decide_eq_true (by kernel_rfl)
  have st0 : St XX0.g ((s1.heap.objs.size, NsL [("script", .ref sl)]) :: (s1.heap.objs.size + 2, CellN) :: (s1.heap.objs.size + 1, CellN) :: [(114, (· = tabObj #[])), (107, (· = tabObj #[]))]) h1 := by
    have hm : h1.Ns s1.heap.objs.size _ := F'.ns
    have hab := F'.above
    have nA := N' (s1.heap.objs.size + 1 + 1, oA) (.head _)
    have nB := N' (s1.heap.objs.size + 1, oB) (.tail _ (.head _))
    have nC := N' (114, tabObj #[]) (.tail _ (.tail _ (.head _)))
    have nD := N' (107, tabObj #[]) (.tail _ (.tail _ (.tail _ (.head _))))
    have hLn : (ghostOf s1.heap [(116, 114), (111, 107)]).get? s1.heap.objs.size = none := Heap.get?_none_of_le hab
    obtain ⟨l1, l2⟩ := l0
    refine ⟨F'.keep, ?_, fun c hc => ?_, fun c hc => ?_⟩
    · simp only [List.map_cons, List.map_nil, List.nodup_cons, List.mem_cons, List.not_mem_nil, or_false, not_or]
      refine ⟨⟨?_, ?_, ?_, ?_⟩, ⟨?_, ?_, ?_⟩, ⟨?_, ?_⟩, ?_, ?_, List.nodup_nil⟩ <;> first | exact Nat.ne_of_lt (by walk_at "om") | exact Nat.ne_of_gt (by walk_at "om") | exact not_false
    · simp only [List.mem_cons, List.not_mem_nil, or_false] at hc
      rcases hc with rfl | rfl | rfl | rfl | rfl
      · exact hLn
      · exact nA.2.2
      · exact nB.2.2
      · exact nC.2.2
      · exact nD.2.2
    · simp only [List.mem_cons, List.not_mem_nil, or_false] at hc
      rcases hc with rfl | rfl | rfl | rfl | rfl
      · obtain ⟨oL, es, ep, g1, g2, g3, g4⟩ := hm
        refine ⟨oL, g1, es, ep, g2, g3, fun pr hpr => ?_⟩
        rcases List.mem_cons.mp hpr with rfl | hpr
        · exact (g4 _).trans (by kernel_rfl)
        · exact nomatch hpr
      · exact ⟨oA, nA.1, _, eA⟩
      · exact ⟨oB, nB.1, _, eB⟩
      · exact ⟨_, nC.1, rfl⟩
      · exact ⟨_, nD.1, rfl⟩
  have body := lawAll (X := XX0) hIs (L := s1.heap.objs.size) (fa := fa) (cd := cd) (sl := sl) (sv := sv) (sc := script) lifted (ints_of hI) hlen (Q := fun f c => f = .ret (.bool true) ∧ (∃ ps, ((114 : Addr), ((· = tabObj ps) : Obj → Prop)) ∈ c) ∧ (∃ ps, ((107 : Addr), ((· = tabObj ps) : Obj → Prop)) ∈ c)) fun c h1 h2 => ⟨rfl, h1, h2⟩
  with_reducible refine' wpAny_mono (Q := fun f s' => f = .ret (.bool true) ∧ (∀ b o, (ghostOf s1.heap [(116, 114), (111, 107)]).get? b = some o → s'.heap.get? b = some o) ∧ s'.os = s1.os ∧ s'.gens = s1.gens ∧ GrownAll [(116, 114), (111, 107)] s'.heap) (E := NoE) ?run ?c1 ?c2
  case run =>
    change wpAny (MM XX0.w) (AL 0) (execs (bodyOf (stmtAt 14)) (lawE s1.heap.objs.size fa cd)) _ _ (XX0.S h1 tk1)
    with_reducible refine' W.chain body ?cont st0
    case cont =>
      intro f c h tk st x
      obtain ⟨rfl, ⟨ps, m1⟩, ⟨ps', m2⟩⟩ := x
      refine ⟨rfl, st.keep, rfl, rfl, ?_, ?_, trivial⟩
      · obtain ⟨o', ho', rfl⟩ := st.get m1; exact ⟨ps, ho'⟩
      · obtain ⟨o', ho', rfl⟩ := st.get m2; exact ⟨ps', ho'⟩
  case c1 =>
    intro f s' x
    obtain ⟨rfl, k1, k2, k3, k4⟩ := x
    refine ⟨⟨.inl ⟨.bool true, .bool true, [], rfl, fun cls => rfl, ReadsW.bool _, ?_, fun h => ⟨List.nodup_nil, fun a h => nomatch h⟩⟩, k1, k2, k3.trans hg⟩, k4⟩
    kernel_rfl
  case c2 => exact fun _ _ x => x.elim
end
end Mine
open PySem PySem.W PyProof.Rows
theorem PySem.Challenge.cw_sl0008_01_holds : PySem.Challenge.rw_sl0008_01.Holds := by
  exact Mine.holds
