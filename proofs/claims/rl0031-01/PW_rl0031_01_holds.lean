import PyProof.Rows.All
import Wide.All
import OpenK.AllK
import Wide.FinOn
import PySem.Challenge.RW_rl0031_01
set_option Elab.async false
set_option rowWalk.seconds 0
set_option compiler.extract_closed false
section
section -- part Top
open PySem PySem.W PyProof.Rows
set_option maxRecDepth 100000
set_option maxHeartbeats 8000000
namespace Mine
def vw : Program := view Challenge.pw_rl0031_01 [1, 2, 4, 5, 6, 7, 8, 9, 10, 11, 12, 13, 14, 16, 17, 18, 19, 20, 21, 22, 23, 24]
theorem left_boot {p q : Program} {loose : List Str} {Xt : Shared → Bool} {α : Type} {Yf : Shared → α} {Ya : World → α} {N : Nat} {g0 : Bool}
    (e : opening p = plainProg p.main.scope.names) (hN : Nat.ble 600 N = true) (f : ∀ s, fenceModules? p s = some s)
    (h : ∀ (w : World), (fun os => (topFrom treeTable p w N ⟨boot_heap w.params, Array.mk [], boot_drawn, boot_toks, os⟩).map fun s => (openSeen q loose (importedModules p.main.body) Xt g0 s, Yf s)) = fun _ => some (openGood q loose, Ya w)) :
    LeftO p q loose Xt Yf Ya N g0 := fun w => by
  obtain ⟨⟨hp, gs, d, k, os⟩, hs, hv⟩ := Option.map_eq_some_iff.mp (boot_open e hN f w)
  simp only [Prod.mk.injEq] at hv
  obtain ⟨rfl, rfl, rfl, rfl⟩ := hv
  unfold openEnds
  rw [hs]
  exact congrFun (h w) os
local macro_rules | `(tactic| o_head $H) => `(tactic| (
  refine holds_open (q := vw) (loose := []) (Xt := fun s => xlAt vw [] s && recOk (RowW.records Challenge.rw_rl0031_01.row.toRowW) s) (XP := XL vw []) (Yf := Hook.obs $H) (Ya := Hook.val $H) (YP := Hook.says $H) (N := 2098) ?hl (Hook.of $H) (Hook.keeps $H) (fun s e => xl_of s (Bool.and_eq_true_iff.mp e).1) XL.keeps (by rfl) (by rfl) (by rfl) (fun s e => recFacts_of (Bool.and_eq_true_iff.mp e).2) (by rfl) (by first | assumption | decide +kernel) (by decide +kernel) ⟨rfl, rfl, rfl, rfl, rfl, by decide +kernel⟩ ?hw ?hc
  (case hl => refine left_boot (by kernel_rfl) (by kernel_rfl) (fun s => by kernel_rfl) (fun w => ?_); unfold topFrom; rw [PySem.W.Fast.te14082659384304107361, PySem.W.Fast.te4187177175401517315, PySem.W.Fast.te14364793385576792824]; kernel_rfl)))
theorem law_said : OpenLaw.wellSaid Challenge.rw_rl0031_01 = true := by
  rw [PySem.W.Fast.te9446332074065402090]
  kernel_rfl
local macro_rules | `(tactic| o_law) => `(tactic| refine holds_law law_said fun said => ?_)
open_top hd for Challenge.rw_rl0031_01
end Mine
end -- part Top
section -- part Defs
open PySem PySem.W PyProof.Rows
set_option maxRecDepth 100000
namespace Mine
abbrev tup2 (x y : Int) (t u : Tok) (n : Nat) : Obj := { cls := .type "tuple", data := .seq #[.int x t, .int y u] n }
inductive PairsAre (news : List (Addr × Obj)) : List Value → List (Int × Int) → Prop
  | nil : PairsAre news [] []
  | cons {b : Addr} {x y : Int} {t u : Tok} {n : Nat} {vs : List Value} {ps : List (Int × Int)} : (b, tup2 x y t u n) ∈ news → PairsAre news vs ps → PairsAre news (.ref b :: vs) ((x, y) :: ps)
theorem PairsAre.mono {news news' : List (Addr × Obj)} {vs : List Value} {ps : List (Int × Int)} (h : PairsAre news vs ps) (hs : ∀ p ∈ news, p ∈ news') : PairsAre news' vs ps := by
  induction h with
  | nil => exact .nil
  | cons hm _ ih => exact .cons (hs _ hm) ih
theorem PairsAre.append {news : List (Addr × Obj)} {vs ws : List Value} {ps qs : List (Int × Int)} (h : PairsAre news vs ps) (k : PairsAre news ws qs) : PairsAre news (vs ++ ws) (ps ++ qs) := by
  induction h with
  | nil => exact k
  | cons hm _ ih => exact .cons hm ih
theorem PairsAre.length {news : List (Addr × Obj)} {vs : List Value} {ps : List (Int × Int)} (h : PairsAre news vs ps) : vs.length = ps.length := by
  induction h with
  | nil => rfl
  | cons hm _ ih => simp [ih]
/-- the bit k of the mask m is set, as the walk says it -/
abbrev hasB (m k : Int) : Prop := Builtin.bitAnd (m.fdiv (2 ^ k.toNat)) 1 ≠ 0
def stepF (m turn : Int) (a step : Int) : Int := if Builtin.bitAnd (m.fdiv (2 ^ ((turn + step).fmod 4).toNat)) 1 ≠ 0 then (turn + step).fmod 4 else a
def keptF (m turn said : Int) : Int := (downKs 3 4).foldl (stepF m turn) said
def layN (ms : List Int) (turn : Int) : Nat → Int → Int → List (Int × Int)
  | 0, _, _ => []
  | f + 1, node, said =>
    let m := ms.getD node.toNat 0
    if hasB m said then
      (if node < 8 then (([] : List (Int × Int)) ++ layN ms turn f (2 * node) said) ++ layN ms turn f (2 * node + 1) said else [])
    else
      (if node < 8 then ([(node, keptF m turn said)] ++ layN ms turn f (2 * node) (keptF m turn said)) ++ layN ms turn f (2 * node + 1) (keptF m turn said) else [(node, keptF m turn said)])
theorem layN_len (ms : List Int) (turn : Int) : ∀ (f : Nat) (node said : Int), (layN ms turn f node said).length + 1 ≤ 2 ^ f
  | 0, _, _ => by simp [layN]
  | f + 1, node, said => by
    have h1 := fun n s => layN_len ms turn f n s
    have e : 2 ^ (f + 1) = 2 ^ f + 2 ^ f := by rw [Nat.pow_succ]; omega
    have p : 1 ≤ 2 ^ f := Nat.one_le_two_pow
    rw [e]
    unfold layN
    dsimp only
    split
    · split
      · have a := h1 (2 * node) said
        have b := h1 (2 * node + 1) said
        simp only [List.length_append, List.length_nil]
        omega
      · simp; omega
    · split
      · have a := h1 (2 * node) (keptF (ms.getD node.toNat 0) turn said)
        have b := h1 (2 * node + 1) (keptF (ms.getD node.toNat 0) turn said)
        simp only [List.length_append, List.length_nil, List.length_cons]
        omega
      · simp; omega
theorem newsC {h₀ h : Heap} {L : Addr} {q : Addr × Obj} {news : List (Addr × Obj)} (N : News h₀ L h news) (hm : q ∈ news) : News h₀ L h (q :: news) :=
  fun p hp => (List.mem_cons.mp hp).elim (fun e => e ▸ N _ hm) (N p)
theorem nat16 : ∀ i : Nat, i < 16 → (i = 0 ∨ i = 1 ∨ i = 2 ∨ i = 3 ∨ i = 4 ∨ i = 5 ∨ i = 6 ∨ i = 7 ∨ i = 8 ∨ i = 9 ∨ i = 10 ∨ i = 11 ∨ i = 12 ∨ i = 13 ∨ i = 14 ∨ i = 15) := by decide
theorem nat8 : ∀ i : Nat, i < 8 → (i = 0 ∨ i = 1 ∨ i = 2 ∨ i = 3 ∨ i = 4 ∨ i = 5 ∨ i = 6 ∨ i = 7) := by decide
theorem nat8to15 : ∀ i : Nat, i < 16 → 8 ≤ i → (i = 8 ∨ i = 9 ∨ i = 10 ∨ i = 11 ∨ i = 12 ∨ i = 13 ∨ i = 14 ∨ i = 15) := by decide
end Mine
end -- part Defs
section -- part Has
open PySem PySem.W PyProof.Rows
set_option maxRecDepth 100000
set_option maxHeartbeats 2000000
namespace Mine
theorem slot_md_get : Slot "method_descriptor" "__get__" "method_descriptor.__get__" :=
  .of (owner := "method_descriptor") (n := "__get__") (by rw [typeLookup_type, builtinLookup_eq_fast]; kernel_rfl) (by decide +kernel) (by decide +kernel) (by decide +kernel)
    (by first | exact .inl (by decide +kernel) | exact .inr (by decide +kernel)) (by rw [isSubtype_type]; kernel_rfl)
theorem md_set : typeLookup (.type "method_descriptor") "__set__" = pure none := by rw [typeLookup_type, builtinLookup_eq_fast]; kernel_rfl
theorem md_delete : typeLookup (.type "method_descriptor") "__delete__" = pure none := by rw [typeLookup_type, builtinLookup_eq_fast]; kernel_rfl
theorem entry_md_get : entryFor table "method_descriptor.__get__" = some Builtin.«method_descriptor.__get__» := entryFor_of_tree (by kernel_rfl)
theorem args_md_get (a b c : Value) : argsOk "method_descriptor.__get__" ⟨[a, b, c], []⟩ := by unfold argsOk; kernel_rfl
theorem lk_list_gi : typeLookup (.type "list") "__getitem__" = pure (some (.builtin "list.__getitem__")) := by rw [typeLookup_type, builtinLookup_eq_fast]; kernel_rfl
theorem ty_lgi : typeOf (.builtin "list.__getitem__") = pure (.type "method_descriptor") := by kernel_rfl
theorem told_lgi : Manifest.toldItsClass.contains "list.__getitem__" = false := by decide +kernel
theorem sub_list_list : isSubtype (.type "list") (.type "list") = pure true := by rw [isSubtype_type]; kernel_rfl
theorem owner_lgi : (".".intercalate ("list.__getitem__".cutAt '.').dropLast) = "list" := by
  have e0 : "list.__getitem__".cutAt '.' = ["list", "__getitem__"] := by first | rfl | decide +kernel
  rw [e0]; decide +kernel
theorem sub_list_own : isSubtype (.type "list") (.type (".".intercalate ("list.__getitem__".cutAt '.').dropLast)) = pure true := by
  rw [owner_lgi, isSubtype_type]; kernel_rfl
section
variable {prog : Program} {w : World} {A : Around} {E : Value → Shared → Prop} {h : Heap} {g : Array GenState} {d : Drawn} {t : Nat} {os : OsState} {a : Addr} {vs : Array Value} {n : Nat}
abbrev boundL (a : Addr) : Obj := { cls := .type "builtin_function_or_method", data := .fields #[.builtin "list.__getitem__", .ref a] }
theorem gi_get {R : Result → Shared → Prop} (hx : h.get? a = some (W.listOf vs n)) (hq : R (.ok (.ret (.ref h.objs.size))) ⟨h.push (boundL a), g, d, t, os⟩) :
    codeAny (model prog w) A (.call (.builtin "method_descriptor.__get__") ⟨[.builtin "list.__getitem__", .ref a, .type "list"], []⟩) R ⟨h, g, d, t, os⟩ := by
  have hT : (⟨h, g, d, t, os⟩ : Shared).TypeIs (.ref a) "list" := ⟨_, hx, rfl⟩
  have hT5 : (⟨h, g, d, t, os⟩ : Shared).TypeIs (.builtin "list.__getitem__") "method_descriptor" := ty_lgi
  have f8 := sub_list_own
  have f9 := told_lgi
  refine codeAny_call_builtin slot_md_get.plain entry_md_get (slot_md_get.check _ _ _ _ _ _ _ _ hT5 (args_md_get _ _ _) ?_)
  repeat (any_goals (first | assumption | (with_reducible (first | refine PySem.wpAny_pure ?_ | refine PySem.wpAny_bind ?_ | refine PySem.wpAny_of_eq (by assumption) ?_ | refine PySem.wpAny_typeOf (by assumption) ?_ | refine PySem.wpAny_isInstance (by assumption) (by assumption) ?_ | refine PySem.wpAny_attempt ?_ | refine PySem.wpAny_call ?_ | refine PySem.wpAny_run ?_)) | ((fail_if_success (with_reducible show wpAny _ _ (mkStr _) _ _ _)); wp_delta) | wp_step))

theorem gi_entry {tk : Tok} {Q : Fin → Shared → Prop} (hx : h.get? a = some (W.listOf vs n)) (hq : Q (.done (.ret (.ref h.objs.size))) ⟨h.push (boundL a), g, d, t, os⟩) :
    wpAny (model prog w) A (Builtin.«object.__getattribute__» ⟨[.ref a, .str "__getitem__" tk], []⟩) Q E ⟨h, g, d, t, os⟩ := by
  have hT : (⟨h, g, d, t, os⟩ : Shared).TypeIs (.ref a) "list" := ⟨_, hx, rfl⟩
  have hT5 : (⟨h, g, d, t, os⟩ : Shared).TypeIs (.builtin "list.__getitem__") "method_descriptor" := ty_lgi
  have f4 := lk_list_gi
  have f5 := ty_lgi
  have f6 := slot_md_get.lookup
  have f7 := md_set
  have f8 := md_delete
  repeat (any_goals (first | assumption | (with_reducible (first | refine PySem.wpAny_pure ?_ | refine PySem.wpAny_bind ?_ | refine PySem.wpAny_of_eq (by assumption) ?_ | refine PySem.wpAny_typeOf (by assumption) ?_ | refine PySem.wpAny_isInstance (by assumption) (by assumption) ?_ | refine PySem.wpAny_attempt ?_ | refine PySem.wpAny_call ?_ | refine PySem.wpAny_run ?_)) | ((fail_if_success (with_reducible show wpAny _ _ (mkStr _) _ _ _)); wp_delta) | wp_step))
  refine gi_get hx ?_
  repeat (any_goals (first | assumption | (with_reducible (first | refine PySem.wpAny_pure ?_ | refine PySem.wpAny_bind ?_ | refine PySem.wpAny_of_eq (by assumption) ?_ | refine PySem.wpAny_typeOf (by assumption) ?_ | refine PySem.wpAny_isInstance (by assumption) (by assumption) ?_ | refine PySem.wpAny_attempt ?_ | refine PySem.wpAny_call ?_ | refine PySem.wpAny_run ?_)) | ((fail_if_success (with_reducible show wpAny _ _ (mkStr _) _ _ _)); wp_delta) | wp_step))
theorem gi_call {tk : Tok} {R : Result → Shared → Prop} (hx : h.get? a = some (W.listOf vs n)) (hq : R (.ok (.ret (.ref h.objs.size))) ⟨h.push (boundL a), g, d, t, os⟩) :
    codeAny (model prog w) A (.call (.builtin "list.__getattribute__") ⟨[.ref a, .str "__getitem__" tk], []⟩) R ⟨h, g, d, t, os⟩ :=
  codeAny_call_builtin F.slot_list_getattribute.plain F.entry_list_ga (F.slot_list_getattribute.check _ _ _ _ _ _ _ _ (show (⟨h, g, d, t, os⟩ : Shared).TypeIs (.ref a) "list" from ⟨_, hx, rfl⟩) (F.args_list_getattribute_2 _ _) (gi_entry hx hq))
theorem gi_by {tk : Tok} {Q : Value → Shared → Prop} (hx : h.get? a = some (W.listOf vs n)) (hq : Q (.ref h.objs.size) ⟨h.push (boundL a), g, d, t, os⟩) : wpAny (model prog w) A (getAttrBy (.ref a) (.str "__getitem__" tk) false) Q E ⟨h, g, d, t, os⟩ := by
  have hT : (⟨h, g, d, t, os⟩ : Shared).TypeIs (.ref a) "list" := ⟨_, hx, rfl⟩
  have f2 := F.slot_list_getattribute.lookup
  have f3 := F.slot_list_getattribute.bind (.ref a)
  repeat (any_goals (first | assumption | (with_reducible (first | refine PySem.wpAny_pure ?_ | refine PySem.wpAny_bind ?_ | refine PySem.wpAny_of_eq (by assumption) ?_ | refine PySem.wpAny_typeOf (by assumption) ?_ | refine PySem.wpAny_isInstance (by assumption) (by assumption) ?_ | refine PySem.wpAny_attempt ?_ | refine PySem.wpAny_call ?_ | refine PySem.wpAny_run ?_)) | ((fail_if_success (with_reducible show wpAny _ _ (mkStr _) _ _ _)); wp_delta) | wp_step))
  refine gi_call hx ?_
  repeat (any_goals (first | assumption | (with_reducible (first | refine PySem.wpAny_pure ?_ | refine PySem.wpAny_bind ?_ | refine PySem.wpAny_of_eq (by assumption) ?_ | refine PySem.wpAny_typeOf (by assumption) ?_ | refine PySem.wpAny_isInstance (by assumption) (by assumption) ?_ | refine PySem.wpAny_attempt ?_ | refine PySem.wpAny_call ?_ | refine PySem.wpAny_run ?_)) | ((fail_if_success (with_reducible show wpAny _ _ (mkStr _) _ _ _)); wp_delta) | wp_step))
theorem entry_hasattr : entryFor table "hasattr" = some Builtin.«hasattr» := entryFor_of_tree (by kernel_rfl)
theorem args_hasattr (a b : Value) : argsOk "hasattr" ⟨[a, b], []⟩ := by unfold argsOk; kernel_rfl
theorem has_entry {tk : Tok} {Q : Fin → Shared → Prop} (hx : h.get? a = some (W.listOf vs n)) (hq : Q (.done (.ret (.bool true))) ⟨h.push (boundL a), g, d, t, os⟩) :
    wpAny (model prog w) A (Builtin.«hasattr» ⟨[.ref a, .str "__getitem__" tk], []⟩) Q E ⟨h, g, d, t, os⟩ := by
  have hT : (⟨h, g, d, t, os⟩ : Shared).TypeIs (.ref a) "list" := ⟨_, hx, rfl⟩
  have f4 := lk_list_gi
  have f2 := F.slot_list_getattribute.lookup
  have f8 : isSubtype (.type "list") (.type "module") = pure false := by rw [isSubtype_type]; kernel_rfl
  have f9 : (withoutEnding? "list.__getitem__" "#data").isSome = false := by decide +kernel
  repeat (any_goals (first | assumption | with_reducible apply gi_by hx | wp_step))
end
theorem hasattr_list {prog : Program} {w : World} {A : Around} {E : Value → Shared → Prop} {s : Shared} {h₀ : Heap} {L l : Addr} {m : Str → Option Value} {news : List (Addr × Obj)} {vs : Array Value} {n : Nat} {t : Tok} {Q : Value → Shared → Prop}
    (F : Fr h₀ L s.heap m) (N : News h₀ L s.heap news) (hm : (l, W.listOf vs n) ∈ news)
    (h : ∀ h' tk', Fr h₀ L h' m → News h₀ L h' news → Q (.bool true) { s with heap := h', toks := tk' }) :
    wpAny (model prog w) A (call (.builtin "hasattr") [.ref l, .str (Str.ofString "__getitem__") t]) Q E s := by
  obtain ⟨hp, g, d, tk, os⟩ := s
  refine Calls.call_function_entry (by decide +kernel) (by decide +kernel) entry_hasattr (args_hasattr _ _) (has_entry (N _ hm).1 ⟨_, rfl, ?_⟩)
  exact h _ _ (F.push _) (fun p hp' => ⟨Heap.get?_push_of_some _ (N p hp').1, (N p hp').2⟩)
theorem addLists {prog : Program} {w : World} {A : Around} {E : Value → Shared → Prop} {s : Shared} {h₀ : Heap} {L x y : Addr} {m : Str → Option Value} {news : List (Addr × Obj)} {vs ws : Array Value} {n k : Nat} {Q : Value → Shared → Prop}
    (F : Fr h₀ L s.heap m) (N : News h₀ L s.heap news) (ha : (x, W.listOf vs n) ∈ news) (hb : (y, W.listOf ws k) ∈ news) (hsz : vs.size + ws.size ≤ sizeLine)
    (h : ∀ D h', Fr h₀ L h' m → News h₀ L h' ((D, W.listOf (vs.toList ++ ws.toList).toArray 0) :: news) → (∀ p ∈ news, p.1 < D) → Q (.ref D) { s with heap := h' }) :
    wpAny (model prog w) A (binaryOp .Add (.ref x) (.ref y)) Q E s :=
  add_arrays F N (PySem.IsL.isList (n := n) (N _ ha).1) (PySem.IsL.isList (n := k) (N _ hb).1) (fun h' F' N' => h _ _ F' N' fun p hp => Heap.lt_size (N p hp).1) hsz
end Mine
end -- part Has
section -- part Frz
open PySem PySem.W PyProof.Rows PySem.Calls
set_option maxRecDepth 100000
set_option maxHeartbeats 2000000
namespace Mine
/-- g keeps all of hh but the objects of live -/
def Frz (hh g : Heap) (live : List (Addr × Obj)) : Prop := ∀ b o, hh.get? b = some o → b ∉ live.map (·.1) → g.get? b = some o
section
variable {prog : Program} {w : World} {A A₀ : Around} {s : Shared} {K : Frag} {L : Addr} {h₀ base : Heap} {m mg mb : Str → Option Value} {live : List (Addr × Obj)} {p : Program} {loose : List Str} {mean : ExcName → Option Value}
  {env : Env} {outer : List Env} {R : Result → Shared → Prop} {name qual : Str} {params : Arguments} {body : List Stmt} {scope : Scope} {dV kV doc pm cdv ct oc : Value} {an od : Option Addr} {osl : Array (Option Value)} {f : Addr} {args : Args} {binds : List (Str × Value)}
theorem frz_def (B : Below A₀ base outer h₀) (F : Fr h₀ L s.heap m) (X₀ : K.In h₀) (N : News h₀ L s.heap live) (T : Top p loose mean mg mb h₀) (hA : A.frames = some (env :: outer)) (hf : env.frame = some L) (hke : env.scope.kind = .function)
    (ho : K.lookup f = some ⟨oc, od, .func (fnOf name qual params body scope dV kV doc pm an cdv ct), osl⟩) (hcd : codeIn K cdv qual = true) (hroom : A.depth < recursionLimit)
    (hbind : BindsTo s (fnOf name qual params body scope dV kV doc pm an cdv ct) args binds) (hloc : ∀ y ∈ binds, scope.names.lookup y.1 = some .local)
    (h : ∀ g L' h₁, Fr h₀ L g m → Fr g L' h₁ (fun y => binds.reverse.lookup y) → News g L' h₁ live → Below A base (env :: outer) g → K.In g → Top p loose mean mg mb g → Frz s.heap g live →
      wpAny (model prog w) (A.deeper (envOf qual scope L' f cdv)) (execs body (envOf qual scope L' f cdv))
        (fun fl s' => LeaveK h₀ L m g R (match fl with | .ret v => v | _ => .none) s')
        (fun e s' => wpAny (model prog w) (A.deeper (envOf qual scope L' f cdv)) (leaving (envOf qual scope L' f cdv) e) (fun _ s'' => R (.error e) s'') (fun e' s'' => R (.error e') s'') s')
        { s with heap := h₁, toks := s.toks + binds.length })
    (hco : scope.isCoroutine = false) (hgen : scope.isGenerator = false) (hk : scope.kind = .function)
    (hcell : ∀ x ∈ scope.names, x.2 ≠ .cell) : codeAny (model prog w) A (.call (.ref f) args) R s := by
  obtain ⟨FG, BG, st, lv⟩ := groundX (R := R) B F N hA hf hke
  have X := X₀.keeps F.keep
  refine codeAny_call_def (fd := fnOf name qual params body scope dV kV doc pm an cdv ct) (body := body) (binds := binds) hroom (X _ _ ho) rfl (T.nolimit.keeps F.keep) (codeRec_of X hcd) rfl hbind hcell hloc (fun h₁ hns hk₁ => ?_) hco hgen hk
  have q := h _ s.heap.objs.size h₁ FG ⟨hns, fun b o e => hk₁ b o (of_hideAll _ e), Nat.le_of_eq (hideAll_size _ _)⟩
    (fun p hp => ⟨hk₁ _ _ (N p hp).1, Nat.ne_of_lt (Heap.lt_size (N p hp).1), hideAll_none _ (List.mem_map_of_mem hp)⟩) BG (X₀.keeps st) (T.keeps st) (fun b o e hb => hideAll_get _ e hb)
  exact wpAny_mono q (fun fl s' hl => lv _ _ hl) fun _ _ y => y
theorem frz_defC (B : Below A₀ base outer h₀) (F : Fr h₀ L s.heap m) (X₀ : K.In h₀) (N : News h₀ L s.heap live) (T : Top p loose mean mg mb h₀) (hA : A.frames = some (env :: outer)) (hf : env.frame = some L) (hke : env.scope.kind = .function)
    (ho : K.lookup f = some ⟨oc, od, .func (fnOf name qual params body scope dV kV doc pm an cdv ct), osl⟩) (hcd : codeIn K cdv qual = true) (hroom : A.depth < recursionLimit)
    (hbind : BindsTo s (fnOf name qual params body scope dV kV doc pm an cdv ct) args binds) (hkind : (binds.all fun y => scope.names.lookup y.1 == some .local || scope.names.lookup y.1 == some .cell) = true)
    (hnd : ((cellsFrom 0 scope.names []).map (·.1)).Nodup)
    (h : ∀ g L' h₁ tk cells, Fr h₀ L g m → Fr g L' h₁ (bindL (envOfC qual scope L' f cdv).kindOf binds fun _ => none) → News g L' h₁ (cells ++ live) →
      CellsAre (bindC (envOfC qual scope L' f cdv).kindOf binds fun _ => none) (cellsFrom (L' + 1) scope.names []) cells → Below A base (env :: outer) g → K.In g → Top p loose mean mg mb g → (∀ p ∈ live, p.1 < L') → Frz s.heap g live →
      wpAny (model prog w) (A.deeper (envOfC qual scope L' f cdv)) (execs body (envOfC qual scope L' f cdv))
        (fun fl s' => LeaveK h₀ L m g R (match fl with | .ret v => v | _ => .none) s')
        (fun e s' => wpAny (model prog w) (A.deeper (envOfC qual scope L' f cdv)) (leaving (envOfC qual scope L' f cdv) e) (fun _ s'' => R (.error e) s'') (fun e' s'' => R (.error e') s'') s')
        { s with heap := h₁, toks := tk })
    (hco : scope.isCoroutine = false) (hgen : scope.isGenerator = false) (hk : scope.kind = .function) : codeAny (model prog w) A (.call (.ref f) args) R s := by
  obtain ⟨FG, BG, st, lv⟩ := groundX (R := R) B F N hA hf hke
  have X := X₀.keeps F.keep
  refine codeAny_call_function (fd := fnOf name qual params body scope dV kV doc pm an cdv ct) hroom (X _ _ ho) rfl hco hgen rfl (codeRec_of X hcd) (hbind _ _ _ _ ?_)
  refine wpAny_newFunctionEnv_cells hk (kindsX hkind _) fun env' he s' x => ?_
  subst he
  refine ⟨(T.nolimit.keeps F.keep).keeps x.toInCall.keep, codeAny_func ?_⟩
  obtain ⟨h₁, tk, rfl, _⟩ := x.done
  have hk₁ := x.toInCall.keep
  obtain ⟨cells, NC, Y⟩ := Cl.news (h₀ := s.heap) (Nat.le_refl _) fun n c hm => ⟨x.cell n c (lookup_of_mem_nodup (cellsFrom_names scope.names 0 (s.heap.objs.size + 1) [] [] rfl ▸ hnd) hm), x.above n c hm⟩
  have q := h _ s.heap.objs.size h₁ tk cells FG ⟨x.toInCall.ns, fun b o e => hk₁ b o (of_hideAll _ e), Nat.le_of_eq (hideAll_size _ _)⟩ (fun p hp => ?_) Y BG (X₀.keeps st) (T.keeps st) (fun p hp => Heap.lt_size (N p hp).1) (fun b o e hb => hideAll_get _ e hb)
  · exact wpAny_mono q (fun fl s' hl => lv _ _ hl) fun _ _ y => y
  · rcases List.mem_append.mp hp with hp | hp
    · refine ⟨(NC p hp).1, (NC p hp).2.1, ?_⟩
      cases q : (hideAll s.heap (live.map (·.1))).get? p.1 with
      | none => rfl
      | some o => have := of_hideAll _ q; rw [(NC p hp).2.2] at this; cases this
    · exact ⟨hk₁ _ _ (N p hp).1, Nat.ne_of_lt (Heap.lt_size (N p hp).1), hideAll_none _ (List.mem_map_of_mem hp)⟩
theorem frz_lam {cl : List (Str × Addr)} {ctv : Value} {c' : Addr} {bodyE : PySem.Expr} (B : Below A₀ base outer h₀) (F : Fr h₀ L s.heap m) (X₀ : K.In h₀) (N : News h₀ L s.heap live) (T : Top p loose mean mg mb h₀) (hA : A.frames = some (env :: outer)) (hf : env.frame = some L) (hke : env.scope.kind = .function)
    (ho : (f, kla_obj name qual params bodyE scope cl pm c' ctv) ∈ live) (hcd : s.heap.CodeRec (.ref c') qual) (hroom : A.depth < recursionLimit)
    (hbind : bindArgs (kla_fn name qual params bodyE scope cl pm (.ref c') ctv) args = pure binds) (hloc : ∀ y ∈ binds, scope.names.lookup y.1 = some .local)
    (h : ∀ g L' h₁, Fr h₀ L g m → Fr g L' h₁ (fun y => binds.reverse.lookup y) → News g L' h₁ live → Below A base (env :: outer) g → K.In g → Top p loose mean mg mb g → Frz s.heap g live →
      wpAny (model prog w) (A.deeper (envX qual scope L' f (.ref c') cl)) (eval bodyE (envX qual scope L' f (.ref c') cl))
        (fun v s' => LeaveK h₀ L m g R v s')
        (fun e s' => wpAny (model prog w) (A.deeper (envX qual scope L' f (.ref c') cl)) (leaving (envX qual scope L' f (.ref c') cl) e) (fun _ s'' => R (.error e) s'') (fun e' s'' => R (.error e') s'') s')
        { s with heap := h₁, toks := s.toks + binds.length })
    (hco : scope.isCoroutine = false) (hgen : scope.isGenerator = false) (hk : scope.kind = .function)
    (hcell : ∀ x ∈ scope.names, x.2 ≠ .cell) : codeAny (model prog w) A (.call (.ref f) args) R s := by
  obtain ⟨FG, BG, st, lv⟩ := groundX (R := R) B F N hA hf hke
  refine kla_callFunE hroom (N _ ho).1 rfl hco hgen rfl hcd ?_
  rw [hbind]
  refine wpAny_pure (wpAny_newFunctionEnv hcell hloc (fun h₁ hns hsb => ⟨((T.nolimit).keeps F.keep).fresh _ hsb, ?_⟩) hk)
  show codeAny _ _ (.expr bodyE (envX qual scope s.heap.objs.size f (.ref c') cl)) _ _
  have hk₁ : ∀ b o, s.heap.get? b = some o → h₁.get? b = some o := fun b o e => hsb.extBut b o (Nat.ne_of_lt (Heap.lt_size e)) (Heap.get?_push_of_some _ e)
  have q := h _ s.heap.objs.size h₁ FG ⟨hns, fun b o e => hk₁ b o (of_hideAll _ e), Nat.le_of_eq (hideAll_size _ _)⟩
    (fun p hp => ⟨hk₁ _ _ (N p hp).1, Nat.ne_of_lt (Heap.lt_size (N p hp).1), hideAll_none _ (List.mem_map_of_mem hp)⟩) BG (X₀.keeps st) (T.keeps st) (fun b o e hb => hideAll_get _ e hb)
  exact kla_codeExpr (wpAny_mono q (fun v s' hl => lv _ _ hl) fun _ _ y => y)
end
theorem frz_keep {hh g h' h₀ : Heap} {L L' : Addr} {m' : Str → Option Value} {live news nw : List (Addr × Obj)} (Z : Frz hh g live) (Nl : News h₀ L hh live) (N : News h₀ L hh news) (F' : Fr g L' h' m') (kN : News h₀ L h' nw) (hl : ∀ p ∈ live, p ∈ nw) : News h₀ L h' (nw ++ news) := by
  intro p hp
  rcases List.mem_append.mp hp with hp | hp
  · exact kN p hp
  · refine ⟨?_, (N p hp).2⟩
    by_cases hb : p.1 ∈ live.map (·.1)
    · obtain ⟨q, hq, e⟩ := List.mem_map.mp hb
      have h1 := (Nl q hq).1
      rw [e, (N p hp).1] at h1
      have h2 := (kN q (hl q hq)).1
      rw [e] at h2
      rw [h2, Option.some.inj h1]
    · exact F'.keep _ _ (Z _ _ (N p hp).1 hb)
theorem frz_keepT {hh g h' h₀ : Heap} {L L' : Addr} {m' : Str → Option Value} {live news nw rest : List (Addr × Obj)} (T : Addr) (Z : Frz hh g live) (Nl : News h₀ L hh live) (N : News h₀ L hh news) (F' : Fr g L' h' m') (kN : News h₀ L h' nw) (hl : ∀ p ∈ live, p.1 ≠ T → p ∈ nw) (hr : ∀ p ∈ rest, p ∈ news ∧ p.1 ≠ T) : News h₀ L h' (nw ++ rest) := by
  intro p hp
  rcases List.mem_append.mp hp with hp | hp
  · exact kN p hp
  · obtain ⟨hp, hT⟩ := hr p hp
    refine ⟨?_, (N p hp).2⟩
    by_cases hb : p.1 ∈ live.map (·.1)
    · obtain ⟨q, hq, e⟩ := List.mem_map.mp hb
      have h1 := (Nl q hq).1
      rw [e, (N p hp).1] at h1
      have h2 := (kN q (hl q hq (by rw [e]; exact hT))).1
      rw [e] at h2
      rw [h2, Option.some.inj h1]
    · exact F'.keep _ _ (Z _ _ (N p hp).1 hb)
theorem newsPick {h₀ h : Heap} {L : Addr} {l l' : List (Addr × Obj)} (N : News h₀ L h l) (s : ∀ p ∈ l', p ∈ l) : News h₀ L h l' := fun p hp => N p (s p hp)
end Mine
end -- part Frz
open PySem PySem.W PyProof.Rows
namespace Mine
theorem foldQ {α : Type} {M : Model} {A : Around} {t : Sem α} {Q : α → Shared → Prop} {E : Value → Shared → Prop} {s : Shared} (h : let q := Q; wpAny M A t q E s) : wpAny M A t Q E s := h
end Mine
local macro_rules | `(tactic| k_room) => `(tactic| ((try simp only [depth_under_make, depth_under_kw, depth_in1, depth_deeper, depth_caller]); (try dsimp only [ktrTop]); (first | decide | omega)))
local macro_rules | `(tactic| k_units) => `(tactic| ((try simp only [units_in1, units_deeper, Around.mark_units, units_caller]); (try dsimp only [ktrTop]); first | omega | (show _ ≤ _; omega)))
section -- part Lay
open PySem PySem.W PyProof.Rows
set_option maxRecDepth 100000
set_option maxHeartbeats 1000000
namespace Mine
theorem st_start {m turn said : Int} (h1 : 0 ≤ said) (h2 : said < 4) : said = ([] : List Int).foldl (stepF m turn) said ∧ 0 ≤ said ∧ said < 4 := ⟨rfl, h1, h2⟩
theorem st_yes {m turn said k : Int} {pre : List Int} (hc : Builtin.bitAnd (m.fdiv (2 ^ ((turn + k).fmod 4).toNat)) 1 ≠ 0) : (turn + k).fmod 4 = (pre ++ [k]).foldl (stepF m turn) said ∧ 0 ≤ (turn + k).fmod 4 ∧ (turn + k).fmod 4 < 4 := by
  rw [List.foldl_append]
  refine ⟨?_, ?_, ?_⟩
  · show _ = stepF m turn _ k
    rw [stepF, if_pos hc]
  · rw [Int.fmod_eq_emod_of_nonneg _ (by decide)]; omega
  · rw [Int.fmod_eq_emod_of_nonneg _ (by decide)]; omega
theorem st_no {m turn said a k : Int} {pre : List Int} (e : a = pre.foldl (stepF m turn) said) (h1 : 0 ≤ a) (h2 : a < 4) (hc : ¬ Builtin.bitAnd (m.fdiv (2 ^ ((turn + k).fmod 4).toNat)) 1 ≠ 0) : a = (pre ++ [k]).foldl (stepF m turn) said ∧ 0 ≤ a ∧ a < 4 := by
  rw [List.foldl_append]
  refine ⟨?_, h1, h2⟩
  show _ = stepF m turn _ k
  rw [stepF, if_neg hc, e]
theorem nn_of {x : Int} (h : x = 0) : ¬ x ≠ 0 := fun q => q h
theorem half_ok {node : Int} {g : Nat} (h : 16 ≤ node * 2 ^ (g + 1)) : 16 ≤ (2 * node) * 2 ^ g := by
  rw [Int.pow_succ] at h
  have e : (2 * node) * 2 ^ g = node * (2 ^ g * 2) := by rw [Int.mul_comm 2 node, Int.mul_assoc, Int.mul_comm 2 (2 ^ g)]
  omega
theorem half_ok1 {node : Int} {g : Nat} (h : 16 ≤ node * 2 ^ (g + 1)) : 16 ≤ (2 * node + 1) * 2 ^ g := by
  have h1 := half_ok h
  rw [Int.add_mul]
  have : (0 : Int) < 2 ^ g := Int.pow_pos (by decide)
  omega

theorem layN_A {ms : List Int} {turn node said : Int} {g : Nat} (h : Builtin.bitAnd ((ms.getD node.toNat 0).fdiv (2 ^ said.toNat)) 1 ≠ 0) (hn : ¬ node < 8) : layN ms turn (g + 1) node said = [] := by
  unfold layN; dsimp only; rw [if_pos h, if_neg hn]
theorem layN_B {ms : List Int} {turn node said k : Int} {g : Nat} (h : Builtin.bitAnd ((ms.getD node.toNat 0).fdiv (2 ^ said.toNat)) 1 = 0) (hn : ¬ node < 8) (e : k = List.foldl (stepF (ms.getD node.toNat 0) turn) said (downKs 3 (3 - -1).toNat)) : layN ms turn (g + 1) node said = [(node, k)] := by
  unfold layN; dsimp only; rw [if_neg (nn_of h), if_neg hn, e]; rfl
theorem layN_C {ms : List Int} {turn node said : Int} {g : Nat} (h : Builtin.bitAnd ((ms.getD node.toNat 0).fdiv (2 ^ said.toNat)) 1 ≠ 0) (hn : node < 8) : layN ms turn (g + 1) node said = ([] ++ layN ms turn g (2 * node) said) ++ layN ms turn g (2 * node + 1) said := by
  conv => lhs; unfold layN
  dsimp only; rw [if_pos h, if_pos hn]
theorem layN_D {ms : List Int} {turn node said k : Int} {g : Nat} (h : Builtin.bitAnd ((ms.getD node.toNat 0).fdiv (2 ^ said.toNat)) 1 = 0) (hn : node < 8) (e : k = List.foldl (stepF (ms.getD node.toNat 0) turn) said (downKs 3 (3 - -1).toNat)) : layN ms turn (g + 1) node said = ([(node, k)] ++ layN ms turn g (2 * node) k) ++ layN ms turn g (2 * node + 1) k := by
  conv => lhs; unfold layN
  dsimp only; rw [if_neg (nn_of h), if_pos hn, e]; rfl
abbrev LayRet (ms : List Int) (turn : Int) (g : Nat) (node said : Int) (h₀ : Heap) (L : Addr) (m : Str → Option Value) (news : List (Addr × Obj)) (s : Shared) (Q : Value → Shared → Prop) : Prop :=
  ∀ b vs' n' tl h' tk', Fr h₀ L h' m → News h₀ L h' ((b, W.listOf vs'.toArray n') :: (news ++ tl)) → PairsAre (news ++ tl) vs' (layN ms turn g node said) → vs'.length ≤ 15 → Q (.ref b) { s with heap := h', toks := tk' }
theorem lay_close {ms : List Int} {turn : Int} {g : Nat} {node said : Int} {h₀ : Heap} {L : Addr} {m : Str → Option Value} {news Z : List (Addr × Obj)} {s : Shared} {Q : Value → Shared → Prop} {b : Addr} {vs' : List Value} {n' : Nat} {h' : Heap} {tk : Nat} {ps : List (Int × Int)}
    (ret : LayRet ms turn g node said h₀ L m news s Q) (hg : g ≤ 4) (kF : Fr h₀ L h' m) (kN : News h₀ L h' Z) (hb : (b, W.listOf vs'.toArray n') ∈ Z) (hsub : ∀ p ∈ news, p ∈ Z) (hp : PairsAre Z vs' ps) (hps : layN ms turn g node said = ps) : Q (.ref b) { s with heap := h', toks := tk } := by
  refine ret b vs' n' Z h' tk kF (fun p hp => ?_) (hps ▸ hp.mono fun p hp => List.mem_append.mpr (.inr hp)) ?_
  · rcases List.mem_cons.mp hp with rfl | hp
    · exact kN _ hb
    · rcases List.mem_append.mp hp with hp | hp
      · exact kN _ (hsub _ hp)
      · exact kN _ hp
  · have h1 := layN_len ms turn g node said
    have h2 : 2 ^ g ≤ 2 ^ 4 := Nat.pow_le_pow_right (by decide) hg
    rw [hp.length, ← hps]
    omega

theorem lay_spec (w : World) (p : Program) (loose : List Str) (mean : ExcName → Option Value) (mg mb : Str → Option Value) : ∀ (g : Nat) {ma : Addr} {mvs : List Value} {n : Nat} {ms : List Int} {node said turn : Int} {t1 t2 t3 : Tok}
    {dp un : Nat} {gd : Option (List Code)} {cn : Str} {cs : Scope} {a : Addr} {ccd : Value} {cl : List (Str × Addr)} {outer : List Env} {A₀ : Around} {base h₀ : Heap} {L : Addr} {m : Str → Option Value} {news : List (Addr × Obj)} {s : Shared} {Q E : Value → Shared → Prop}
    (B : Below A₀ base outer h₀) (F : Fr h₀ L s.heap m) (X : (hd.heap_1 w.params).In h₀) (N : News h₀ L s.heap news) (T : Top p loose mean mg mb h₀) (hk : cs.kind = .function)
    (hm : (ma, W.listOf mvs.toArray n) ∈ news) (hI : IntsAre mvs ms) (hlen : ms.length = 16) (hn1 : 1 ≤ node) (hn2 : node < 16) (hs1 : 0 ≤ said) (hs2 : said < 4) (ht1 : 0 ≤ turn) (ht2 : turn < 4) (hf : 16 ≤ node * 2 ^ g) (hg : g ≤ 4)
    (hd : dp + (20 + g) < recursionLimit) (hu : un + 8 * (20 + g) < cLine)
    (ret : LayRet ms turn g node said h₀ L m news s Q),
    wpAny (model Challenge.rw_rl0031_01.row.prog w) (ktrTop dp un gd cn cs L a ccd cl outer) (call (.ref 164) [.ref ma, .int node t1, .int said t2, .int turn t3]) Q E s := by
  k_fill
  k_with_none
  k_with "exec For Name Call cons nil" => kpr_for
  k_with "pyIter ref" => k_state (fun pre kept => kept = pre.foldl (stepF (ms.getD node.toNat 0) turn) said ∧ 0 ≤ kept ∧ kept < 4) "kept"
  k_with "state" => first | exact st_start (by with_reducible assumption) (by with_reducible assumption) | exact st_yes (by with_reducible assumption) | exact st_no (by with_reducible assumption) (by with_reducible assumption) (by with_reducible assumption) (by with_reducible assumption) | exact st_no (by with_reducible assumption) (by with_reducible assumption) (by with_reducible assumption) (nn_of (by with_reducible assumption))
  k_with "call ref" => ((k_dflt (show wpAny _ _ (call (Value.ref 164) _) _ _ _)); (k_dflt (refine' IH ?k1 ?k2 ?k3 ?k4 ?k5 ?kK ?hm hI hlen ?b1 ?b2 ?b3 ?b4 ht1 ht2 ?hf ?hg ?kd ?ku ?_; (case k1 => k_asm); (case k2 => k_asm); (case k3 => k_asm); (case k4 => k_asm); (case k5 => k_asm); (case kK => exact rfl); (case hm => k_mem); (case b1 => omega); (case b2 => omega); (case b3 => omega); (case b4 => omega); (case hf => first | exact half_ok hf | exact half_ok1 hf); (case hg => omega); (case kd => (show dp + 1 + (20 + g) < recursionLimit; omega)); (case ku => (show un + 3 + 8 * (20 + g) < cLine; omega)))); intro b9 vs9 n9 tl9 h9 tk9 F9 N9 hp9 hv9; (try dsimp only); (try k_fold); walk_say "RECURSION")
  intro g
  induction g with
  | zero => intros; exfalso; simp at *; omega
  | succ g IH =>
  intro ma mvs n ms node said turn t1 t2 t3 dp un gd cn cs a ccd cl outer A₀ base h₀ L m news s Q E B F X N T hk hm hI hlen hn1 hn2 hs1 hs2 ht1 ht2 hf hg hd hu ret
  have hd2 : dp + 20 < recursionLimit := by omega
  have hu2 : un + 8 * 20 < cLine := by omega
  replace N := newsC N hm
  refine wpAny_call ?_
  k_dflt ktr_enter
  (repeat' (first | (k_unfold; (try dsimp only)) | (k_end; wrow_close) | ((first | ((fail_if_success (goal_lacks subscriptTail)); (with_reducible show wpAny _ _ (subscriptTail _ _ _ _) _ _ _); ((with_reducible show wpAny _ _ (subscriptTail (Expr.Name ..) (Expr.Name ..) (Value.ref _) (Value.int _ _)) _ _ _); (first | (with_reducible (first | (k_here; (with_reducible show wpAny _ _ (subscriptTail _ _ (Value.ref _) (Value.int _ _)) _ _ _); k_dflt (refine' ksa_sub ?k1 ?k2 ?k3 ?k4 ?k5 ?k6 ?_ ?k7; (case k1 => k_asm); (case k2 => k_mem); (case k3 => with_reducible assumption); (case k4 => omega); (case k5 => omega); (case k6 => omega); (case k7 => with_unfolding_all rfl); k_whole); intro _))) | (k_here; (with_reducible show wpAny _ _ (subscriptTail _ _ (Value.ref _) (Value.int _ _)) _ _ _); k_dflt (refine' ksa_sub ?k1 ?k2 ?k3 ?k4 ?k5 ?k6 ?_ ?k7; (case k1 => k_asm); (case k2 => k_mem); (case k3 => with_reducible assumption); (case k4 => omega); (case k5 => omega); (case k6 => omega); (case k7 => with_unfolding_all rfl); k_whole); intro _)); (try walk_say "OWN subscriptTail Name Name ref int"))) | ((fail_if_success (goal_lacks binaryOp)); (with_reducible show wpAny _ _ (binaryOp _ _ _) _ _ _); ((with_reducible show wpAny _ _ (binaryOp Operator.Add (Value.ref _) (Value.ref _)) _ _ _); (first | (with_reducible (first | (k_here; k_dflt (refine' addLists ?k1 ?k2 ?k3 ?k4 ?k5 ?_; (case k1 => k_asm); (case k2 => k_asm); (case k3 => k_mem); (case k4 => k_mem); (case k5 => (simp only [List.size_toArray, Array.size_push, Array.toList_push, List.length_append, List.length_cons, List.length_nil, List.size_toArray, Array.size_empty, sizeLine_eq]; omega)); k_whole); intro Dpq hpq Fpq Npq l1q; (try k_lt l1q); (try k_sweep)))) | (k_here; k_dflt (refine' addLists ?k1 ?k2 ?k3 ?k4 ?k5 ?_; (case k1 => k_asm); (case k2 => k_asm); (case k3 => k_mem); (case k4 => k_mem); (case k5 => (simp only [List.size_toArray, Array.size_push, Array.toList_push, List.length_append, List.length_cons, List.length_nil, List.size_toArray, Array.size_empty, sizeLine_eq]; omega)); k_whole); intro Dpq hpq Fpq Npq l1q; (try k_lt l1q); (try k_sweep))); (try walk_say "OWN binaryOp Add ref ref"))) | ((fail_if_success (goal_lacks call)); (with_reducible show wpAny _ _ (call _ _) _ _ _); (first | ((with_reducible show wpAny _ _ (call (Value.builtin "hasattr") _) _ _ _); (first | (with_reducible (first | (k_here; k_dflt (refine' hasattr_list ?k1 ?k2 ?k3 ?_; (case k1 => k_asm); (case k2 => k_asm); (case k3 => k_mem); k_whole); intro hpq tkpq Fpq Npq; (try k_sweep)))) | (k_here; k_dflt (refine' hasattr_list ?k1 ?k2 ?k3 ?_; (case k1 => k_asm); (case k2 => k_asm); (case k3 => k_mem); k_whole); intro hpq tkpq Fpq Npq; (try k_sweep))); (try walk_say "OWN call builtin:hasattr")) | ((first | (with_reducible (first | k_extra "call ref")) | k_extra "call ref"); (try walk_say "OWN call ref")))) | ((fail_if_success (goal_lacks InvEndN)); (with_reducible show InvEndN ..); (repeat clear qk); (repeat clear ek); ((first | (with_reducible (first | k_dflt kst_close)) | k_dflt kst_close); (try walk_say "OWN InvEndN"))) | walk1 | (dsimp only; walk1) | (dsimp only [List.cons_append, List.nil_append]; walk1)); skip) | ((with_reducible show wpAny _ _ _ _ _ _); dsimp only) | (leave1; walk_say "STEP leave1"; try dsimp only) | fail "no step"))
  all_goals (rename Fr h₀ L _ m => kF; rename News h₀ L _ _ => kN)
  all_goals first
    | (rename PairsAre _ _ (layN ms turn g (2 * node) _) => hpA; rename PairsAre _ _ (layN ms turn g (2 * node + 1) _) => hpB; refine lay_close ret hg kF kN (by k_mem) ?_ (.append (.append (.cons (by k_mem) .nil) (hpA.mono ?_)) (hpB.mono ?_)) (layN_D (by assumption) (by assumption) (by assumption)) <;> (intro p hp; simp only [List.mem_cons, List.mem_append, List.cons_append] at hp ⊢; grind))
    | (rename PairsAre _ _ (layN ms turn g (2 * node) _) => hpA; rename PairsAre _ _ (layN ms turn g (2 * node + 1) _) => hpB; refine lay_close ret hg kF kN (by k_mem) ?_ (.append (.append .nil (hpA.mono ?_)) (hpB.mono ?_)) (layN_C (by assumption) (by assumption)) <;> (intro p hp; simp only [List.mem_cons, List.mem_append, List.cons_append] at hp ⊢; grind))
    | (refine lay_close ret hg kF kN (by k_mem) ?_ (.cons (by k_mem) .nil) (layN_B (by assumption) (by assumption) (by assumption)) <;> (intro p hp; simp only [List.mem_cons, List.mem_append, List.cons_append] at hp ⊢; grind))
    | (refine lay_close (vs' := []) ret hg kF kN (by k_mem) ?_ .nil (layN_A (by assumption) (by assumption)) <;> (intro p hp; simp only [List.mem_cons, List.mem_append, List.cons_append] at hp ⊢; grind))
end Mine
end -- part Lay
section -- part Masks
open PySem PySem.W PyProof.Rows
set_option maxRecDepth 100000
set_option maxHeartbeats 1000000
namespace Mine
def msStep (st : List Int × List Int) (node : Int) : List Int × List Int :=
  if Builtin.bitAnd (st.1.getD (2 * node).toNat 0) (st.1.getD (2 * node + 1).toNat 0) = 0 then
    (st.1.set node.toNat (Builtin.bitOr (st.1.getD (2 * node).toNat 0) (st.1.getD (2 * node + 1).toNat 0)), st.2.set node.toNat (st.2.getD (2 * node).toNat 0 + st.2.getD (2 * node + 1).toNat 0 + 1))
  else
    (st.1.set node.toNat (Builtin.bitAnd (st.1.getD (2 * node).toNat 0) (st.1.getD (2 * node + 1).toNat 0)), st.2.set node.toNat (st.2.getD (2 * node).toNat 0 + st.2.getD (2 * node + 1).toNat 0))
abbrev mk16 (a0 a1 a2 a3 a4 a5 a6 a7 : Int) : List Int := [0, 0, 0, 0, 0, 0, 0, 0, 1 * 2 ^ a0.toNat, 1 * 2 ^ a1.toNat, 1 * 2 ^ a2.toNat, 1 * 2 ^ a3.toNat, 1 * 2 ^ a4.toNat, 1 * 2 ^ a5.toNat, 1 * 2 ^ a6.toNat, 1 * 2 ^ a7.toNat]
abbrev ct16 : List Int := [0, 0, 0, 0, 0, 0, 0, 0, 0, 0, 0, 0, 0, 0, 0, 0]
theorem ms_start {a b : List Int} (ha : a.length = 16) (hb : b.length = 16) : a.length = 16 ∧ b.length = 16 ∧ (a, b) = ([] : List Int).foldl msStep (a, b) := ⟨ha, hb, rfl⟩
theorem ms_yes {a b masks counts pre : List Int} {k : Int} (h1 : masks.length = 16) (h2 : counts.length = 16) (e : (masks, counts) = pre.foldl msStep (a, b)) (hc : Builtin.bitAnd (masks.getD (2 * k).toNat 0) (masks.getD (2 * k + 1).toNat 0) = 0) :
    (masks.set k.toNat (Builtin.bitOr (masks.getD (2 * k).toNat 0) (masks.getD (2 * k + 1).toNat 0))).length = 16 ∧ (counts.set k.toNat (counts.getD (2 * k).toNat 0 + counts.getD (2 * k + 1).toNat 0 + 1)).length = 16 ∧
      (masks.set k.toNat (Builtin.bitOr (masks.getD (2 * k).toNat 0) (masks.getD (2 * k + 1).toNat 0)), counts.set k.toNat (counts.getD (2 * k).toNat 0 + counts.getD (2 * k + 1).toNat 0 + 1)) = (pre ++ [k]).foldl msStep (a, b) := by
  refine ⟨by rw [List.length_set, h1], by rw [List.length_set, h2], ?_⟩
  rw [List.foldl_append, ← e]
  show _ = msStep (masks, counts) k
  rw [msStep, if_pos hc]
theorem ms_no {a b masks counts pre : List Int} {k : Int} (h1 : masks.length = 16) (h2 : counts.length = 16) (e : (masks, counts) = pre.foldl msStep (a, b)) (hc : ¬ Builtin.bitAnd (masks.getD (2 * k).toNat 0) (masks.getD (2 * k + 1).toNat 0) = 0) :
    (masks.set k.toNat (Builtin.bitAnd (masks.getD (2 * k).toNat 0) (masks.getD (2 * k + 1).toNat 0))).length = 16 ∧ (counts.set k.toNat (counts.getD (2 * k).toNat 0 + counts.getD (2 * k + 1).toNat 0)).length = 16 ∧
      (masks.set k.toNat (Builtin.bitAnd (masks.getD (2 * k).toNat 0) (masks.getD (2 * k + 1).toNat 0)), counts.set k.toNat (counts.getD (2 * k).toNat 0 + counts.getD (2 * k + 1).toNat 0)) = (pre ++ [k]).foldl msStep (a, b) := by
  refine ⟨by rw [List.length_set, h1], by rw [List.length_set, h2], ?_⟩
  rw [List.foldl_append, ← e]
  show _ = msStep (masks, counts) k
  rw [msStep, if_neg hc]
local macro_rules | `(tactic| size_fits) => `(tactic| (rw [sizeLine_eq]; (with_reducible refine Nat.le_of_ble_eq_true ?_); with_unfolding_all rfl))
theorem lshift_spec (w : World) (p : Program) (loose : List Str) (mean : ExcName → Option Value) (mg mb : Str → Option Value) : ∀ {x : Int} {t0 t1 : Tok} {dp un : Nat} {gd : Option (List Code)} {cn : Str} {cs : Scope} {a : Addr} {ccd : Value} {cl : List (Str × Addr)} {outer : List Env} {A₀ : Around} {base h₀ : Heap} {L : Addr} {m : Str → Option Value} {news : List (Addr × Obj)} {s : Shared} {Q E : Value → Shared → Prop}
    (B : Below A₀ base outer h₀) (F : Fr h₀ L s.heap m) (X : (hd.heap_1 w.params).In h₀) (N : News h₀ L s.heap news) (T : Top p loose mean mg mb h₀) (hk : cs.kind = .function) (hb : 0 ≤ x ∧ x < 4)
    (hd : dp + 10 < recursionLimit) (hu : un + 8 * 10 < cLine)
    (ret : ∀ t h' tk', Fr h₀ L h' m → News h₀ L h' news → Q (.int (1 * 2 ^ x.toNat) t) { s with heap := h', toks := tk' }),
    wpAny (model Challenge.rw_rl0031_01.row.prog w) (ktrTop dp un gd cn cs L a ccd cl outer) (call (.ref 98) [.int 1 t0, .int x t1]) Q E s := by
  k_fill
  k_with_none
  intro x t0 t1 dp un gd cn cs a ccd cl outer A₀ base h₀ L m news s Q E B F X N T hk hb hd hu ret
  obtain ⟨b0, b1⟩ := hb
  have Nl : News h₀ L s.heap [] := fun p hp => nomatch hp
  refine wpAny_call ?_
  k_dflt (refine' frz_def ?k1 ?k2 ?k3 ?k4 ?k5 ?kA ?kF ?kK ?k6 ?k7 ?k8 ?k9 ?kB ?_ ?c2 ?c3 ?c4 ?c5; (case kA => exact rfl); (case kF => exact rfl); (case kK => assumption); (case k1 => k_asm); (case k2 => k_asm); (case k3 => k_asm); (case k4 => exact Nl); (case k5 => k_asm); (case k6 => k_is); (case k7 => k_is); (case k8 => ktr_room); (case k9 => exact BindsTo.of_eq rfl); (case c5 => decide); (case kB => exact locs rfl); (case c2 => exact rfl); (case c3 => exact rfl); (case c4 => exact rfl); k_whole; intro g' L' h' FG' F' N' B' X' T' Z'; (try dsimp only); (try k_fold))
  have KZ := fun (h' : Heap) (m' : Str → Option Value) (nw : List (Addr × Obj)) (F' : Fr g' L' h' m') (kN : News h₀ L h' nw) (hl : ∀ p ∈ _, p ∈ nw) => frz_keep Z' Nl N F' kN hl
  clear N Nl Z'
  (repeat' (first | (k_unfold; (try dsimp only)) | (k_end; wrow_close) | ((first | ((fail_if_success (goal_lacks eval)); (with_reducible show wpAny _ _ (eval _ _) _ _ _); ((with_reducible show wpAny _ _ (eval (Expr.ListComp ..) _) _ _ _); (first | (with_reducible (first | ((with_reducible show wpAny _ _ (eval _ _) _ _ _); k_here; lcg_look; lcg_calm; k_dflt (refine LCg.ListComp_U (F₀ := by k_asm) (by rfl) (by decide) (by rfl) (by decide) (by rfl) ?_); k_dflt lcg_toSrc))) | ((with_reducible show wpAny _ _ (eval _ _) _ _ _); k_here; lcg_look; lcg_calm; k_dflt (refine LCg.ListComp_U (F₀ := by k_asm) (by rfl) (by decide) (by rfl) (by decide) (by rfl) ?_); k_dflt lcg_toSrc)); (try walk_say "OWN eval ListComp"))) | ((fail_if_success (goal_lacks InvEndN)); (with_reducible show InvEndN ..); (repeat clear qk); (repeat clear ek); ((first | (with_reducible (first | k_dflt kst_close)) | k_dflt kst_close); (try walk_say "OWN InvEndN"))) | walk1 | (dsimp only; walk1) | (dsimp only [List.cons_append, List.nil_append]; walk1)); skip) | ((with_reducible show wpAny _ _ _ _ _ _); dsimp only) | (leave1; walk_say "STEP leave1"; try dsimp only) | fail "no step"))
  rename Fr h₀ L _ m => kF; rename News h₀ L _ _ => kN; rename Fr g' _ _ _ => kF'
  exact ret _ _ _ kF (newsPick (KZ _ _ _ kF' kN (fun p hp => nomatch hp)) fun p hp => List.mem_append.mpr (.inr hp))
theorem masks_spec (w : World) (p : Program) (loose : List Str) (mean : ExcName → Option Value) (mg mb : Str → Option Value) : ∀ {ta : Addr} {n : Nat} {a0 a1 a2 a3 a4 a5 a6 a7 : Int} {t0 t1 t2 t3 t4 t5 t6 t7 : Tok}
    {dp un : Nat} {gd : Option (List Code)} {cn : Str} {cs : Scope} {a : Addr} {ccd : Value} {cl : List (Str × Addr)} {outer : List Env} {A₀ : Around} {base h₀ : Heap} {L : Addr} {m : Str → Option Value} {news : List (Addr × Obj)} {s : Shared} {Q E : Value → Shared → Prop}
    (B : Below A₀ base outer h₀) (F : Fr h₀ L s.heap m) (X : (hd.heap_1 w.params).In h₀) (N : News h₀ L s.heap news) (T : Top p loose mean mg mb h₀) (hk : cs.kind = .function)
    (hm : (ta, W.listOf #[.int a0 t0, .int a1 t1, .int a2 t2, .int a3 t3, .int a4 t4, .int a5 t5, .int a6 t6, .int a7 t7] n) ∈ news)
    (hb0 : 0 ≤ a0 ∧ a0 < 4) (hb1 : 0 ≤ a1 ∧ a1 < 4) (hb2 : 0 ≤ a2 ∧ a2 < 4) (hb3 : 0 ≤ a3 ∧ a3 < 4) (hb4 : 0 ≤ a4 ∧ a4 < 4) (hb5 : 0 ≤ a5 ∧ a5 < 4) (hb6 : 0 ≤ a6 ∧ a6 < 4) (hb7 : 0 ≤ a7 ∧ a7 < 4)
    (hd : dp + 20 < recursionLimit) (hu : un + 8 * 20 < cLine)
    (ret : ∀ ra ma ca mvs cvs n1 n2 ms cs h' tk', Fr h₀ L h' m → News h₀ L h' ((ra, { cls := .type "tuple", data := .seq #[.ref ma, .ref ca] }) :: (ma, W.listOf (List.toArray mvs) n1) :: (ca, W.listOf (List.toArray cvs) n2) :: news) → IntsAre mvs ms → IntsAre cvs cs → ms.length = 16 → cs.length = 16 →
      (ms, cs) = (downKs 7 7).foldl msStep (mk16 a0 a1 a2 a3 a4 a5 a6 a7, ct16) → Q (.ref ra) { s with heap := h', toks := tk' }),
    wpAny (model Challenge.rw_rl0031_01.row.prog w) (ktrTop dp un gd cn cs L a ccd cl outer) (call (.ref 152) [.ref ta]) Q E s := by
  k_fill
  k_with_none
  k_with "exec For Name Call cons nil" => kpr_for
  k_with "pyIter ref" => k_state (fun pre masks counts => masks.length = 16 ∧ counts.length = 16 ∧ (masks, counts) = pre.foldl msStep (mk16 a0 a1 a2 a3 a4 a5 a6 a7, ct16)) "masks" "counts"
  k_with "state" => first | (with_reducible refine ms_yes ?_ ?_ ?_ ?_ <;> assumption) | (with_reducible refine ms_no ?_ ?_ ?_ ?_ <;> assumption) | exact ms_start (a := mk16 a0 a1 a2 a3 a4 a5 a6 a7) (b := ct16) rfl rfl
  intro ta n a0 a1 a2 a3 a4 a5 a6 a7 t0 t1 t2 t3 t4 t5 t6 t7 dp un gd cn cs a ccd cl outer A₀ base h₀ L m news s Q E B F X N T hk hm hb0 hb1 hb2 hb3 hb4 hb5 hb6 hb7 hd hu ret
  obtain ⟨l0, u0⟩ := hb0; obtain ⟨l1, u1⟩ := hb1; obtain ⟨l2, u2⟩ := hb2; obtain ⟨l3, u3⟩ := hb3; obtain ⟨l4, u4⟩ := hb4; obtain ⟨l5, u5⟩ := hb5; obtain ⟨l6, u6⟩ := hb6; obtain ⟨l7, u7⟩ := hb7
  have Nl : News h₀ L s.heap [_] := fun p hp => by rw [List.mem_singleton.mp hp]; exact N _ hm
  refine wpAny_call ?_
  k_dflt (refine' frz_def ?k1 ?k2 ?k3 ?k4 ?k5 ?kA ?kF ?kK ?k6 ?k7 ?k8 ?k9 ?kB ?_ ?c2 ?c3 ?c4 ?c5; (case kA => exact rfl); (case kF => exact rfl); (case kK => assumption); (case k1 => k_asm); (case k2 => k_asm); (case k3 => k_asm); (case k4 => exact Nl); (case k5 => k_asm); (case k6 => k_is); (case k7 => k_is); (case k8 => ktr_room); (case k9 => exact BindsTo.of_eq rfl); (case c5 => decide); (case kB => exact locs rfl); (case c2 => exact rfl); (case c3 => exact rfl); (case c4 => exact rfl); k_whole; intro g' L' h' FG' F' N' B' X' T' Z'; (try dsimp only); (try k_fold))
  have KZ := fun (h' : Heap) (m' : Str → Option Value) (nw : List (Addr × Obj)) (F' : Fr g' L' h' m') (kN : News h₀ L h' nw) (hl : ∀ p ∈ [_], p ∈ nw) => frz_keep Z' Nl N F' kN hl
  clear N hm Nl Z'
  (repeat' (first | (k_unfold; (try dsimp only)) | (k_end; wrow_close) | ((first | ((fail_if_success (goal_lacks eval)); (with_reducible show wpAny _ _ (eval _ _) _ _ _); ((with_reducible show wpAny _ _ (eval (Expr.ListComp ..) _) _ _ _); (first | (with_reducible (first | ((with_reducible show wpAny _ _ (eval _ _) _ _ _); k_here; lcg_look; lcg_calm; k_dflt (refine LCg.ListComp_U (F₀ := by k_asm) (by rfl) (by decide) (by rfl) (by decide) (by rfl) ?_); k_dflt lcg_toSrc))) | ((with_reducible show wpAny _ _ (eval _ _) _ _ _); k_here; lcg_look; lcg_calm; k_dflt (refine LCg.ListComp_U (F₀ := by k_asm) (by rfl) (by decide) (by rfl) (by decide) (by rfl) ?_); k_dflt lcg_toSrc)); (try walk_say "OWN eval ListComp"))) | ((fail_if_success (goal_lacks call)); (with_reducible show wpAny _ _ (call _ _) _ _ _); ((first | (with_reducible (first | (k_here; (with_reducible show wpAny _ _ (call (Value.ref 98) _) _ _ _); k_dflt (refine' lshift_spec _ _ _ _ _ _ ?k1 ?k2 ?k3 ?k4 ?k5 ?kK ?hb ?kd ?ku ?_; (case k1 => k_asm); (case k2 => k_asm); (case k3 => k_asm); (case k4 => k_asm); (case k5 => k_asm); (case kK => exact rfl); (case hb => exact ⟨by with_reducible assumption, by with_reducible assumption⟩); (case kd => (show dp + 1 + 10 < recursionLimit; omega)); (case ku => (show un + 3 + 8 * 10 < cLine; omega))); intro t9q hpq tkpq Fpq Npq))) | (k_here; (with_reducible show wpAny _ _ (call (Value.ref 98) _) _ _ _); k_dflt (refine' lshift_spec _ _ _ _ _ _ ?k1 ?k2 ?k3 ?k4 ?k5 ?kK ?hb ?kd ?ku ?_; (case k1 => k_asm); (case k2 => k_asm); (case k3 => k_asm); (case k4 => k_asm); (case k5 => k_asm); (case kK => exact rfl); (case hb => exact ⟨by with_reducible assumption, by with_reducible assumption⟩); (case kd => (show dp + 1 + 10 < recursionLimit; omega)); (case ku => (show un + 3 + 8 * 10 < cLine; omega))); intro t9q hpq tkpq Fpq Npq)); (try walk_say "OWN call ref"))) | ((fail_if_success (goal_lacks InvEndN)); (with_reducible show InvEndN ..); (repeat clear qk); (repeat clear ek); ((first | (with_reducible (first | k_dflt kst_close)) | k_dflt kst_close); (try walk_say "OWN InvEndN"))) | walk1 | (dsimp only; walk1) | (dsimp only [List.cons_append, List.nil_append]; walk1)); skip) | ((with_reducible show wpAny _ _ _ _ _ _); dsimp only) | (leave1; walk_say "STEP leave1"; try dsimp only) | fail "no step"))
  rename Fr h₀ L _ m => kF; rename News h₀ L _ _ => kN; rename Fr g' _ _ _ => kF'; rename (_, _) = List.foldl msStep _ _ => hfold
  refine' ret _ _ _ _ _ _ _ _ _ _ _ kF (newsPick (KZ _ _ _ kF' kN ?ka) ?kb) ?kc ?kd ?ke ?kf hfold
  case ka => intro p hp; rw [List.mem_singleton.mp hp]; k_mem
  case kb => k_dflt refine List.forall_mem_cons.mpr ⟨List.mem_append.mpr (.inl (by k_mem)), List.forall_mem_cons.mpr ⟨List.mem_append.mpr (.inl (by k_mem)), List.forall_mem_cons.mpr ⟨List.mem_append.mpr (.inl (by k_mem)), fun p hp => List.mem_append.mpr (.inr hp)⟩⟩⟩
  case kc => assumption
  case kd => assumption
  case ke => assumption
  case kf => assumption
end Mine
end -- part Masks
section -- part If
open PySem PySem.W PyProof.Rows PySem.Calls
set_option maxRecDepth 100000
set_option maxHeartbeats 2000000
namespace Mine
/-- an equation that omega does not see -/
structure EqZ (z e : Int) : Prop where
  eq : z = e
theorem ifexp_join {prog : Program} {w : World} {A : Around} {E : Value → Shared → Prop} {s : Shared} {env : Env} {l : Expr} {ny : Str} {py pos p2 p3 p4 : Pos} {k1 k2 : Nat} {i j : Int} {Q : Value → Shared → Prop}
    (h : wpAny (model prog w) A (eval l env) (fun a s₁ => wpAny (model prog w) A (eval (.Name ny py) env) (fun b s₂ => match a, b with
      | .int x _, .int y _ => ∀ z tk tk', EqZ z (if x = y then i else j) → Q (.int z tk) { s₂ with toks := tk' }
      | _, _ => False) E s₁) E s) :
    wpAny (model prog w) A (eval (.IfExp (.Compare l [.Eq] [.Name ny py] pos) (.Constant (.int i) k1 p3) (.Constant (.int j) k2 p4) p2) env) Q E s := by
  refine IfExp_ (wpAny_isTrue_Compare1 (wpAny_mono h (fun a s₁ h₁ => wpAny_mono h₁ (fun b s₂ h₂ => ?_) fun _ _ e => e) fun _ _ e => e))
  split at h₂
  · rename_i x tx y ty
    k_steps
    · exact h₂ _ _ _ ⟨by rw [if_pos (by assumption)]⟩
    · exact h₂ _ _ _ ⟨by rw [if_neg (by assumption)]⟩
  · exact h₂.elim
end Mine
end -- part If
section -- part CompC
open PySem PySem.W PyProof.Rows PySem.Calls PySem.Spec
set_option maxRecDepth 100000
set_option maxHeartbeats 2000000
namespace Mine
def RestC (c : Addr) (oc : Obj) (k : List (Addr × Obj) → Prop) (news' : List (Addr × Obj)) : Prop := ∃ n2, (∀ p ∈ (c, oc) :: n2, p ∈ news') ∧ LCg.Off1 c n2 ∧ k n2
def CRestC (prog : Program) (w : World) (A : Around) (h₀ : Heap) (L : Addr) (m : Str → Option Value) (env : Env) (elt : PySem.Expr) (x : Str) (scope : Scope) (s : Shared) (its : Array Value) (Fin : List Value → List (Addr × Obj) → Prop) : Nat → Nat → List Value → List (Addr × Obj) → Prop
  | 0, _, ys, news => Fin ys news
  | k + 1, i, ys, news => ∀ v I oI C oC c oc D h tk (E' : Value → Shared → Prop), its[i]? = some v → oc.data = .cell (some v) → Fr h₀ L h m → News h₀ L h ((I, oI) :: (C, oC) :: (D, LCg.lst ys) :: (c, oc) :: news) → LCg.Off3 I C D ((c, oc) :: news) → ((@Ne Nat I C) ∧ (@Ne Nat I D) ∧ (@Ne Nat C D)) → LCg.Off1 c news →
      wpAny (model prog w) A (eval elt (compEnvC scope [(x, c)] C env)) (LCg.CompEnd h₀ L m { s with heap := h, toks := tk } I oI C oC D (LCg.lst ys) (fun _ => True) (fun y news' => RestC c oc (CRestC prog w A h₀ L m env elt x scope s its Fin k (i + 1) (ys ++ [y])) news')) E' { s with heap := h, toks := tk }
theorem off1_of {c : Addr} : ∀ {l : List (Addr × Obj)}, (∀ p ∈ l, p.1 ≠ c) → LCg.Off1 c l
  | [], _ => trivial
  | _ :: _, h => ⟨h _ List.mem_cons_self, off1_of fun p hp => h p (List.mem_cons_of_mem _ hp)⟩
theorem off1_mem {c : Addr} : ∀ {l : List (Addr × Obj)}, LCg.Off1 c l → ∀ p ∈ l, p.1 ≠ c
  | [], _, _, h => nomatch h
  | _ :: _, x, p, h => by
    rcases List.mem_cons.mp h with rfl | h
    · exact x.1
    · exact off1_mem x.2 p h
theorem compC_loop {prog : Program} {w : World} {A : Around} {s : Shared} {h₀ h₁ : Heap} {L ax I C D c : Addr} {its : Array Value} {m : Str → Option Value} {env : Env} {elt iter : PySem.Expr} {x g0 : Str} {px : Pos} {scope : Scope} {pos : Pos} {Fin : List Value → List (Addr × Obj) → Prop} {R : Result → Shared → Prop} {news : List (Addr × Obj)} {tk₀ : Nat} {oC oc : Obj} {m₁ : Str → Option Value} {v₀ : Option Value}
    (hh : A.handled = none) (hn : scope.names = [((".0" : Str), NameKind.local), (x, NameKind.cell), (g0, NameKind.globalImplicit)]) (hx0 : (x == (".0" : Str)) = false) (hkind : scope.kind = .function) (hl0 : h₀.IsList ax its) (hsz : its.size ≤ sizeLine)
    (hIC : I ≠ C) (hID : I ≠ D) (hCD : C ≠ D) (hIc : c ≠ I) (hCc : c ≠ C) (hDc : c ≠ D) (hIL : I ≠ L) (hCL : C ≠ L) (hDL : D ≠ L) (hcL : c ≠ L)
    (hI0 : h₀.get? I = none) (hC0 : h₀.get? C = none) (hD0 : h₀.get? D = none) (hc0 : h₀.get? c = none)
    (hit : h₁.IsListIter I ax 0) (F : Fr h₀ L h₁ m) (N : News h₀ L h₁ ((C, oC) :: (D, LCg.lst []) :: (c, oc) :: news)) (hoC : LCg.NsObj oC m₁) (hoc : oc.data = .cell v₀) (off : LCg.Off3 I C D ((c, oc) :: news)) (off1 : LCg.Off1 c news)
    (Rr : CRestC prog w A h₀ L m env elt x scope s its Fin its.size 0 [] news)
    (hRR : ∀ h tk ys news' m', Fr h₀ L h m → News h₀ L h ((D, LCg.lst ys) :: news') → LCg.Off1 D news' → h.Ns C m' → (∀ p ∈ news', p.1 ≠ C) → Fin ys news' → R (.ok .next) { s with heap := h, toks := tk }) :
    codeAny (model prog w) A (.compStart (.ListComp elt [⟨.Name x px, iter, [], 0⟩] scope pos) 0 (.ref I) (.ref D) (compEnvC scope [(x, c)] C env)) R { s with heap := h₁, toks := tk₀ } := by
  have haxI : ax ≠ I := fun q => by obtain ⟨o, e, _⟩ := hl0; rw [q, hI0] at e; cases e
  have W := Walks.list (prog := prog) (w := w) hh I ax haxI its
  have hl : ∀ {h : Heap}, Fr h₀ L h m → h.IsList ax its := fun F => hl0.at fun o e => F.keep _ o e
  have hkx : (compEnvC scope [(x, c)] C env).kindOf x = some NameKind.cell := by
    show (List.map _ scope.names).lookup x = some NameKind.cell
    rw [hn]
    simp [List.lookup, hx0]
  have loop : codeAny (model prog w) A (.compLoop (.ListComp elt [⟨.Name x px, iter, [], 0⟩] scope pos) 0 (.ref I) (.ref D) (compEnvC scope [(x, c)] C env)) R { s with heap := h₁, toks := tk₀ } := by
    refine codeAny_compLoop_tests
      (fun k s' => ∃ h' tk i ys oC oc m' v₀ news', s' = { s with heap := h', toks := tk } ∧ i ≤ its.size ∧ k = its.size + 1 - i ∧ ys.length = i ∧ h'.IsListIter I ax i ∧ Fr h₀ L h' m ∧ News h₀ L h' ((C, oC) :: (D, LCg.lst ys) :: (c, oc) :: news') ∧
        LCg.NsObj oC m' ∧ oc.data = .cell v₀ ∧ LCg.Off3 I C D ((c, oc) :: news') ∧ LCg.Off1 c news' ∧ CRestC prog w A h₀ L m env elt x scope s its Fin (its.size - i) i ys news') ?_ (its.size + 1)
      ⟨h₁, tk₀, 0, [], oC, oc, m₁, v₀, news, rfl, Nat.zero_le _, rfl, rfl, hit, F, N, hoC, hoc, off, off1, Rr⟩
    rintro k s' ⟨h', tk, i, ys, oC, oc, m', v₀, news', rfl, hi, rfl, hyl, hit', F', N', hoC', hoc', off', off1', R'⟩
    have o3 := off'.mem
    have zC := N' (C, oC) (.head _)
    have zD := N' (D, LCg.lst ys) (.tail _ (.head _))
    have zc := N' (c, oc) (.tail _ (.tail _ (.head _)))
    by_cases hlt : i < its.size
    · obtain ⟨j, hj⟩ : ∃ j, its.size - i = j + 1 := ⟨its.size - i - 1, by omega⟩
      rw [hj] at R'
      refine W.item i _ _ _ hlt ⟨hit', hl F'⟩ fun v h₂ tk₂ hPv hst₂ hk₂ => ?_
      have k2 : ∀ b o, b ≠ I → h'.get? b = some o → h₂.get? b = some o := fun b o hb e => hk₂ b o (by simpa using hb) e
      have F₂ := LCg.fr_but F' hk₂ (Ne.symm hIL) hI0
      refine wpAny_assign_Name (wpAny_storeName_cell (v₀ := v₀) hkind hkx (by simp [compEnvC]) ⟨oc, k2 _ _ hIc zc.1, hoc'⟩ fun h₃ hv₃ hs₃ => ?_)
      refine wpAny_tests_nil ?_
      simp only [if_true]
      obtain ⟨oc₃, hc₃, hd₃⟩ := hv₃
      have k3 : ∀ b o, b ≠ c → h₂.get? b = some o → h₃.get? b = some o := fun b o hb e => (hs₃.2 b hb).trans e
      have F₃ : Fr h₀ L h₃ m := F₂.change hs₃ hcL hc0
      have hit₃ : h₃.IsListIter I ax (i + 1) := hst₂.1.at fun o e => k3 I o (Ne.symm hIc) e
      obtain ⟨oI, hoI⟩ : ∃ oI, h₃.get? I = some oI := by obtain ⟨o, e, _⟩ := hit₃; exact ⟨o, e⟩
      have N₃ : News h₀ L h₃ ((I, oI) :: (C, oC) :: (D, LCg.lst ys) :: (c, oc₃) :: news') := fun p hp => by
        rcases List.mem_cons.mp hp with rfl | hp
        · exact ⟨hoI, hIL, hI0⟩
        · rcases List.mem_cons.mp hp with rfl | hp
          · exact ⟨k3 _ _ (Ne.symm hCc) (k2 _ _ (Ne.symm hIC) zC.1), hCL, hC0⟩
          · rcases List.mem_cons.mp hp with rfl | hp
            · exact ⟨k3 _ _ (Ne.symm hDc) (k2 _ _ (Ne.symm hID) zD.1), hDL, hD0⟩
            · rcases List.mem_cons.mp hp with rfl | hp
              · exact ⟨hc₃, hcL, hc0⟩
              · have z := N' p (.tail _ (.tail _ (.tail _ hp)))
                exact ⟨k3 _ _ (off1_mem off1' p hp) (k2 _ _ (o3 p (.tail _ hp)).1 z.1), z.2⟩
      have off3 : LCg.Off3 I C D ((c, oc₃) :: news') := ⟨⟨hIc, hCc, hDc⟩, off'.2⟩
      refine wpAny_mono (R' v I oI C oC c oc₃ D h₃ _ _ hPv hd₃ F₃ N₃ off3 ⟨hIC, hID, hCD⟩ off1') (fun y s₄ h₄ => ?_) fun _ _ e => e
      obtain ⟨h₄, tk₄, news₄, rfl, F₄, N₄, off₄, _, n2, hsub, off2, R₄⟩ := h₄
      have o4 := off₄.mem
      have yI := N₄ (I, oI) (.head _)
      have yC := N₄ (C, oC) (.tail _ (.head _))
      have yD := N₄ (D, LCg.lst ys) (.tail _ (.tail _ (.head _)))
      have yn : ∀ p ∈ (c, oc₃) :: n2, h₄.get? p.1 = some p.2 ∧ p.1 ≠ L ∧ h₀.get? p.1 = none := fun p hp => N₄ p (.tail _ (.tail _ (.tail _ (hsub p hp))))
      have hit₄ : h₄.IsListIter I ax (i + 1) := by obtain ⟨o, e, r⟩ := hit₃; rw [hoI] at e; cases e; exact ⟨_, yI.1, r⟩
      refine append_at (hsz := by show ys.toArray.size ≤ sizeLine; rw [List.size_toArray, hyl]; exact Nat.le_trans hi hsz) yD.1 fun h₅ hs₅ hD₅ => ?_
      have k5 : ∀ b o, b ≠ D → h₄.get? b = some o → h₅.get? b = some o := fun b o hb e => (hs₅.2 b hb).trans e
      refine ⟨its.size + 1 - (i + 1), by omega, h₅, tk₄, i + 1, ys ++ [y], oC, oc₃, m', some v, n2, rfl, hlt, rfl, by rw [List.length_append, List.length_singleton, hyl], hit₄.at fun o e => k5 I o hID e, F₄.change hs₅ hDL hD0, fun p hp => ?_, hoC', hd₃,
        LCg.Off3.of fun p hp => ?_, off2, ?_⟩
      · rcases List.mem_cons.mp hp with rfl | hp
        · exact ⟨k5 _ _ hCD yC.1, hCL, hC0⟩
        · rcases List.mem_cons.mp hp with rfl | hp
          · exact ⟨hD₅.trans (congrArg some (LCg.lst_snoc ys y)), hDL, hD0⟩
          · exact ⟨k5 _ _ (o4 p (hsub p hp)).2.2 (yn p hp).1, (yn p hp).2⟩
      · exact o4 p (hsub p hp)
      · rw [show its.size - (i + 1) = j by omega]
        exact R₄
    · obtain rfl : i = its.size := Nat.le_antisymm hi (Nat.not_lt.mp hlt)
      rw [Nat.sub_self] at R'
      refine W.done _ _ _ ⟨hit', hl F'⟩ fun h₂ tk₂ hk₂ => ?_
      have k2 : ∀ b o, b ≠ I → h'.get? b = some o → h₂.get? b = some o := fun b o hb e => hk₂ b o (by simpa using hb) e
      refine hRR h₂ tk₂ ys news' m' (LCg.fr_but F' hk₂ (Ne.symm hIL) hI0) (fun p hp => ?_) (off1_of fun p hp => (o3 p (.tail _ hp)).2.2) (hoC'.ns (k2 _ _ (Ne.symm hIC) zC.1)) (fun p hp => (o3 p (.tail _ hp)).2.1) R'
      rcases List.mem_cons.mp hp with rfl | hp
      · exact ⟨k2 _ _ (Ne.symm hID) zD.1, hDL, hD0⟩
      · have z := N' p (.tail _ (.tail _ (.tail _ hp)))
        exact ⟨k2 _ _ (o3 p (.tail _ hp)).1 z.1, z.2⟩
  exact codeAny_compStart_list loop (W.self 0 _ _ _ ⟨hit, hl F⟩ loop)
theorem compC {prog : Program} {w : World} {A : Around} {E : Value → Shared → Prop} {s : Shared} {h₀ : Heap} {L ax : Addr} {its : Array Value} {m : Str → Option Value} {env : Env} {elt iter : PySem.Expr} {x g0 : Str} {px : Pos} {scope : Scope} {pos : Pos} {Q : Value → Shared → Prop}
    (hh : A.handled = none) (hclos : closureFor scope env = pure []) (hn : scope.names = [((".0" : Str), NameKind.local), (x, NameKind.cell), (g0, NameKind.globalImplicit)]) (hx0 : (x == (".0" : Str)) = false) (hkind : scope.kind = .function) (hl0 : h₀.IsList ax its) (hsz : its.size ≤ sizeLine)
    (h : wpAny (model prog w) A (eval iter env) (fun xv s₁ => xv = .ref ax ∧ ∃ news, Fr h₀ L s₁.heap m ∧ News h₀ L s₁.heap news ∧ ∀ g, CRestC prog w A h₀ L m env elt x scope { s₁ with heap := g } its (LCg.FinE h₀ L m { s₁ with heap := g } Q) its.size 0 [] news) E s)
    (hs : ∀ x, foldedSetIterable iter env x = pure x := by intro _; rfl) :
    wpAny (model prog w) A (eval (.ListComp elt [⟨.Name x px, iter, [], 0⟩] scope pos) env) Q E s := by
  rw [eval_ListComp]
  refine wpAny_comprehension_free (use := none) rfl hs hclos hkind (fun y hy e => ?_) (wpAny_mono h (fun xv s₁ h₁ => ?_) fun _ _ e => e)
  · rw [hn] at hy ⊢
    simp only [List.mem_cons, List.not_mem_nil, or_false] at hy
    rcases hy with rfl | rfl | rfl
    · simp
    · cases e
    · cases e
  obtain ⟨rfl, news, F, N, R⟩ := h₁
  have hl : s₁.heap.IsList ax its := hl0.at fun o e => F.keep _ o e
  have hax : ax < s₁.heap.objs.size := by obtain ⟨_, e, _⟩ := hl; exact Heap.lt_size e
  have hax0 : ∃ o, h₀.get? ax = some o := by obtain ⟨o, e, _⟩ := hl0; exact ⟨o, e⟩
  refine wpAny_pyIter_list hl ?_
  refine wpAny_newObj_type ?_
  simp only [newFunctionEnv, Option.isSome_some, if_true]
  refine wpAny_bind (wpAny_alloc ?_)
  refine wpAny_bind (wpAny_layCells _ (fun name kind cells => by cases hkc : kind == NameKind.cell <;> simp [hkc]) _ _ _ _ ?_)
  rw [hn]
  simp only [cellsFrom, pushCells, show (NameKind.local == NameKind.cell) = false from rfl, show (NameKind.cell == NameKind.cell) = true from rfl, show (NameKind.globalImplicit == NameKind.cell) = false from rfl, Bool.false_eq_true, if_false, if_true]
  simp only [List.forIn_nil]
  refine wpAny_bind (wpAny_pure (wpAny_pure ?_))
  simp only [Heap.size_push]
  have fresh : ∀ b, s₁.heap.objs.size ≤ b → h₀.get? b = none := fun b hb => by
    cases e : h₀.get? b with
    | none => rfl
    | some o => exact absurd (Heap.lt_size (F.keep b o e)) (Nat.not_lt.mpr hb)
  have hLt : @LT.lt Nat _ L s₁.heap.objs.size := F.ns.lt
  generalize hH : (((s₁.heap.push { cls := .type "list_iterator", data := .fields #[.ref ax, .int 0 0] }).push { cls := .type "list", data := .seq #[] }).push { cls := .type "dict", data := .dict #[] }).push { cls := .type "cell", data := .cell none } = H
  have up : ∀ b o, s₁.heap.get? b = some o → H.get? b = some o := fun b o e => hH ▸ Heap.get?_push_of_some _ (Heap.get?_push_of_some _ (Heap.get?_push_of_some _ (Heap.get?_push_of_some _ e)))
  have gI : H.get? s₁.heap.objs.size = some { cls := .type "list_iterator", data := .fields #[.ref ax, .int 0 0] } := hH ▸ Heap.get?_push_of_some _ (Heap.get?_push_of_some _ (Heap.get?_push_of_some _ (Heap.get?_push_size _ rfl)))
  have gD : H.get? (s₁.heap.objs.size + 1) = some { cls := .type "list", data := .seq #[] } := by
    have e := Heap.get?_push_size (s₁.heap.push { cls := .type "list_iterator", data := .fields #[.ref ax, .int 0 0] }) (o := { cls := .type "list", data := .seq #[] }) rfl
    rw [Heap.size_push] at e
    exact hH ▸ Heap.get?_push_of_some _ (Heap.get?_push_of_some _ e)
  have gC : H.get? (s₁.heap.objs.size + 1 + 1) = some { cls := .type "dict", data := .dict #[] } := by
    have e := Heap.get?_push_size ((s₁.heap.push { cls := .type "list_iterator", data := .fields #[.ref ax, .int 0 0] }).push { cls := .type "list", data := .seq #[] }) (o := { cls := .type "dict", data := .dict #[] }) rfl
    rw [Heap.size_push, Heap.size_push] at e
    exact hH ▸ Heap.get?_push_of_some _ e
  have gc : H.get? (s₁.heap.objs.size + 1 + 1 + 1) = some { cls := .type "cell", data := .cell none } := by
    have e := Heap.get?_push_size (((s₁.heap.push { cls := .type "list_iterator", data := .fields #[.ref ax, .int 0 0] }).push { cls := .type "list", data := .seq #[] }).push { cls := .type "dict", data := .dict #[] }) (o := { cls := .type "cell", data := .cell none }) rfl
    rw [Heap.size_push, Heap.size_push, Heap.size_push] at e
    exact hH ▸ e
  have lt : ∀ p ∈ news, p.1 < s₁.heap.objs.size := fun p hp => Heap.lt_size (N p hp).1
  have ne1 : ∀ {a b : Nat}, a < b → a ≠ b := fun h => Nat.ne_of_lt h
  refine compC_loop (s := { s₁ with heap := s₁.heap }) (h₁ := H) (tk₀ := s₁.toks) (L := L) (m := m) (Fin := LCg.FinE h₀ L m { s₁ with heap := s₁.heap } Q) (m₁ := fun _ => none) (v₀ := none) (news := news) hh hn hx0 hkind hl0 hsz (by show @Ne Nat _ _; omega) (by show @Ne Nat _ _; omega) (by show @Ne Nat _ _; omega) (by show @Ne Nat _ _; omega) (by show @Ne Nat _ _; omega) (by show @Ne Nat _ _; omega) (by show @Ne Nat _ _; omega) (by show @Ne Nat _ _; omega) (by show @Ne Nat _ _; omega) (by show @Ne Nat _ _; omega)
    (fresh _ (Nat.le_refl _)) (fresh _ (by show @LE.le Nat _ _ _; omega)) (fresh _ (by show @LE.le Nat _ _ _; omega)) (fresh _ (by show @LE.le Nat _ _ _; omega)) ⟨_, gI, rfl, rfl⟩ (F.keeps up) (oC := { cls := .type "dict", data := .dict #[] }) (oc := { cls := .type "cell", data := .cell none }) (fun p hp => ?_) ?_ rfl (LCg.Off3.of fun p hp => ?_) (off1_of fun p hp => ?_) (R s₁.heap) ?_
  · rcases List.mem_cons.mp hp with rfl | hp
    · exact ⟨gC, Nat.ne_of_gt (by show @LT.lt Nat _ _ _; omega), fresh _ (by show @LE.le Nat _ _ _; omega)⟩
    · rcases List.mem_cons.mp hp with rfl | hp
      · exact ⟨gD, Nat.ne_of_gt (by show @LT.lt Nat _ _ _; omega), fresh _ (by show @LE.le Nat _ _ _; omega)⟩
      · rcases List.mem_cons.mp hp with rfl | hp
        · exact ⟨gc, Nat.ne_of_gt (by show @LT.lt Nat _ _ _; omega), fresh _ (by show @LE.le Nat _ _ _; omega)⟩
        · exact ⟨up _ _ (N p hp).1, (N p hp).2⟩
  · exact ⟨_, _, rfl, fun y hy => by simp at hy, fun name => rfl⟩
  · rcases List.mem_cons.mp hp with rfl | hp
    · exact ⟨by show @Ne Nat _ _; omega, by show @Ne Nat _ _; omega, by show @Ne Nat _ _; omega⟩
    · have : @LT.lt Nat _ p.1 s₁.heap.objs.size := lt p hp; exact ⟨by show @Ne Nat _ _; omega, by show @Ne Nat _ _; omega, by show @Ne Nat _ _; omega⟩
  · have : @LT.lt Nat _ p.1 s₁.heap.objs.size := lt p hp; show @Ne Nat _ _; omega
  · intro h tk ys news' m' F' N' o1 hns offC fin
    have hCL : @Ne Nat (s₁.heap.objs.size + 1 + 1) L := by omega
    refine ⟨m', hns, fun h'' hs'' => fin _ h'' tk (F'.change hs'' hCL (fresh _ (by show @LE.le Nat _ _ _; omega))) (fun p hp => ?_) o1⟩
    refine ⟨hs''.extBut _ _ ?_ (N' p hp).1, (N' p hp).2⟩
    rcases List.mem_cons.mp hp with rfl | hp
    · show @Ne Nat _ _; omega
    · exact offC p hp
def SrcC (prog : Program) (w : World) (A : Around) (h₀ : Heap) (L ax : Addr) (its : Array Value) (m : Str → Option Value) (env : Env) (elt : PySem.Expr) (x : Str) (scope : Scope) (Q : Value → Shared → Prop) (xv : Value) (s₁ : Shared) : Prop :=
  xv = .ref ax ∧ ∃ news, Fr h₀ L s₁.heap m ∧ News h₀ L s₁.heap news ∧ ∀ g, CRestC prog w A h₀ L m env elt x scope { s₁ with heap := g } its (LCg.FinE h₀ L m { s₁ with heap := g } Q) its.size 0 [] news
section
variable {prog : Program} {w : World} {A : Around} {E : Value → Shared → Prop} {s : Shared} {h₀ : Heap} {L ax : Addr} {its : Array Value} {m : Str → Option Value} {env : Env} {elt iter : PySem.Expr} {x g0 : Str} {px : Pos} {scope : Scope} {pos : Pos} {Q : Value → Shared → Prop} {Fin : List Value → List (Addr × Obj) → Prop} {k i : Nat} {ys : List Value} {news : List (Addr × Obj)}
theorem compC' (F₀ : Fr h₀ L s.heap m) (hh : A.handled = none) (hclos : closureFor scope env = pure []) (hn : scope.names = [((".0" : Str), NameKind.local), (x, NameKind.cell), (g0, NameKind.globalImplicit)]) (hx0 : (x == (".0" : Str)) = false) (hkind : scope.kind = .function) (hl0 : h₀.IsList ax its) (hsz : its.size ≤ sizeLine)
    (h : wpAny (model prog w) A (eval iter env) (SrcC prog w A h₀ L ax its m env elt x scope Q) E s)
    (hs : ∀ x, foldedSetIterable iter env x = pure x := by intro _; rfl) :
    wpAny (model prog w) A (eval (.ListComp elt [⟨.Name x px, iter, [], 0⟩] scope pos) env) Q E s := compC hh hclos hn hx0 hkind hl0 hsz h hs
theorem SrcC.mk (F : Fr h₀ L s.heap m) (N : News h₀ L s.heap news) (h : ∀ g, CRestC prog w A h₀ L m env elt x scope { s with heap := g } its (LCg.FinE h₀ L m { s with heap := g } Q) its.size 0 [] news) :
    SrcC prog w A h₀ L ax its m env elt x scope Q (.ref ax) s := ⟨rfl, news, F, N, h⟩
theorem CRestC.succ (h : ∀ v I oI C oC c oc D h tk (E' : Value → Shared → Prop), its[i]? = some v → oc.data = .cell (some v) → Fr h₀ L h m → News h₀ L h ((I, oI) :: (C, oC) :: (D, LCg.lst ys) :: (c, oc) :: news) → LCg.Off3 I C D ((c, oc) :: news) → ((@Ne Nat I C) ∧ (@Ne Nat I D) ∧ (@Ne Nat C D)) → LCg.Off1 c news →
      wpAny (model prog w) A (eval elt (compEnvC scope [(x, c)] C env)) (LCg.CompEnd h₀ L m { s with heap := h, toks := tk } I oI C oC D (LCg.lst ys) (fun _ => True) (fun y news' => RestC c oc (CRestC prog w A h₀ L m env elt x scope s its Fin k (i + 1) (ys ++ [y])) news')) E' { s with heap := h, toks := tk }) :
    CRestC prog w A h₀ L m env elt x scope s its Fin (k + 1) i ys news := h
theorem CRestC.zero (h : Fin ys news) : CRestC prog w A h₀ L m env elt x scope s its Fin 0 i ys news := h
end
theorem RestC.cut {c : Addr} {oc : Obj} {k : List (Addr × Obj) → Prop} (pre post : List (Addr × Obj)) (o : LCg.Off1 c (pre ++ post)) (h : k (pre ++ post)) : RestC c oc k (pre ++ (c, oc) :: post) :=
  ⟨pre ++ post, fun p hp => by
    rcases List.mem_cons.mp hp with rfl | hp
    · exact List.mem_append.mpr (.inr (.head _))
    · rcases List.mem_append.mp hp with hp | hp
      · exact List.mem_append.mpr (.inl hp)
      · exact List.mem_append.mpr (.inr (.tail _ hp)), o, h⟩
theorem RestC.cut0 {c : Addr} {oc : Obj} {k : List (Addr × Obj) → Prop} {post : List (Addr × Obj)} (o : LCg.Off1 c post) (h : k post) : RestC c oc k ((c, oc) :: post) := RestC.cut [] post o h
theorem RestC.cut1 {c : Addr} {oc : Obj} {k : List (Addr × Obj) → Prop} {a : Addr × Obj} {post : List (Addr × Obj)} (o : LCg.Off1 c (a :: post)) (h : k (a :: post)) : RestC c oc k (a :: (c, oc) :: post) := RestC.cut [a] post o h
theorem RestC.cut2 {c : Addr} {oc : Obj} {k : List (Addr × Obj) → Prop} {a b : Addr × Obj} {post : List (Addr × Obj)} (o : LCg.Off1 c (a :: b :: post)) (h : k (a :: b :: post)) : RestC c oc k (a :: b :: (c, oc) :: post) := RestC.cut [a, b] post o h
section
variable {h₀ h' : Heap} {L I C D D2 c : Addr} {m : Str → Option Value} {s₁ : Shared} {oI oC oD o2 oc : Obj} {S : List (Addr × Obj) → Prop} {rest : Value → List (Addr × Obj) → Prop} {k : List (Addr × Obj) → Prop} {y : Value} {tk : Nat} {news post : List (Addr × Obj)} {x1 x2 x3 : Addr × Obj}
theorem ce_same (F : Fr h₀ L h' m) (N : News h₀ L h' ((I, oI) :: (C, oC) :: (D, oD) :: news)) (off : LCg.Off3 I C D news) (hS : S news) (r : rest y news) : LCg.CompEnd h₀ L m s₁ I oI C oC D oD S rest y { s₁ with heap := h', toks := tk } :=
  LCg.CompEnd.intro F N news (fun _ h => h) off hS r
theorem ce_int {e : Int} {t : Tok} (F : Fr h₀ L h' m) (N : News h₀ L h' ((I, oI) :: (C, oC) :: (D, oD) :: news)) (off : LCg.Off3 I C D news) (hS : S news) (r : ∀ z, EqZ z e → rest (.int z t) news) : LCg.CompEnd h₀ L m s₁ I oI C oC D oD S rest (.int e t) { s₁ with heap := h', toks := tk } :=
  LCg.CompEnd.intro F N news (fun _ h => h) off hS (r _ ⟨rfl⟩)
theorem ce_one (F : Fr h₀ L h' m) (N : News h₀ L h' ((D2, o2) :: (I, oI) :: (C, oC) :: (D, oD) :: news)) (o1 : LCg.Off1 D2 ((I, oI) :: (C, oC) :: (D, oD) :: news)) (off : LCg.Off3 I C D news) (hS : S ((D2, o2) :: news)) (r : rest y ((D2, o2) :: news)) :
    LCg.CompEnd h₀ L m s₁ I oI C oC D oD S rest y { s₁ with heap := h', toks := tk } := by
  refine LCg.CompEnd.intro F N ((D2, o2) :: news) (fun p hp => ?_) ⟨⟨Ne.symm o1.1, Ne.symm o1.2.1, Ne.symm o1.2.2.1⟩, off⟩ hS r
  simp only [List.mem_cons] at hp ⊢
  grind
theorem restC_one (o1 : LCg.Off1 D2 (x1 :: x2 :: x3 :: (c, oc) :: post)) (offc : LCg.Off1 c post) (h : k ((D2, o2) :: post)) : RestC c oc k ((D2, o2) :: (c, oc) :: post) :=
  RestC.cut1 ⟨Ne.symm o1.2.2.2.1, offc⟩ h
end
theorem ne_off {a b : Addr} {o : Obj} {l : List (Addr × Obj)} (h : LCg.Off1 b l) (hm : (a, o) ∈ l) : a ≠ b := off1_mem h _ hm
theorem ne_offN {a b : Nat} {o : Obj} {l : List (Addr × Obj)} (h : LCg.Off1 b l) (hm : (a, o) ∈ l) : @Ne Nat a b := off1_mem h _ hm
end Mine
end -- part CompC
section -- part Turns
open PySem PySem.W PyProof.Rows PySem.Calls PySem.Spec PyProof.V
set_option maxRecDepth 100000
set_option maxHeartbeats 2000000
namespace Mine
theorem iter_rangeTurns {prog : Program} {w : World} {A : Around} {E : Value → Shared → Prop} {s : Shared} {env : Env} {h₀ : Heap} {x : Str} {px : Pos} {body : List Stmt} {Q : Flow → Shared → Prop} {r : Addr} {a b c : Int} {t u v : Tok} {n : Nat} {m₀ : Str → Option Value} {news : List (Addr × Obj)} (xs : List Itm)
    (hh : A.handled = none) (hr : IsRange s.heap r a b c t u v) (hsm : Builtin.Range.small a b c = true) (hn : Builtin.Range.rangeSize a b c = (n : Int)) (hxs : xs = (List.range n).map fun (i : Nat) => Itm.tok fun t => .int (a + (i : Int) * c) t) (F : Fr h₀ env.locals s.heap m₀) (N : News h₀ env.locals s.heap news)
    (rest₀ : ∀ I : Addr, (∀ p ∈ news, p.1 < I) → ItemsRest prog w A E h₀ env (.Name x px) body Q s [(I, "range_iterator")] [] xs m₀ news) :
    wpAny (model prog w) A (pyIter (.ref r)) (fun it s₂ => TurnsAt prog w A h₀ env (.Name x px) body Q E it s₂) E s := by
  refine wpAny_pyIter_range hr hsm ?_
  have W : Walks prog w A s.heap.objs.size [s.heap.objs.size] [s.heap.objs.size] n (fun i v => i < n ∧ ∃ t, v = .int (a + i * c) t)
      (fun i h => IsRangeIter h s.heap.objs.size (a + (i : Nat) * c) ((n : Int) - (i : Nat)) c) := (Walks.range hh _ a c n).bound
  refine ktu_core (tk0 := s.toks) (keep := []) (KTurns.ofWalks W fun i v s Q E st q => wpAny_pure q) (by rw [hxs]; simp) (fun i v h hp => ?_) (fun i h st => ?_) (fun b hb => ?_) (fun b hb => by simpa using hb) (fun b hb => ?_) ?_ (fun p hp hI => ?_) (by show IsRangeIter _ _ _ _ _; rw [hn]; simpa using Heap.get?_push_size _ rfl) (F.push _) (fun p hp => ⟨Heap.get?_push_of_some _ (N p hp).1, (N p hp).2⟩) trivial (rest₀ _ fun p hp => Heap.lt_size (N p hp).1)
  · obtain ⟨hi, t, rfl⟩ := hp
    exact ⟨.tok fun t => .int (a + (i : Int) * c) t, by rw [hxs]; simp [hi], ⟨t, rfl⟩⟩
  · exact ⟨[(s.heap.objs.size, _)], ⟨⟨rfl, rfl⟩, trivial⟩, fun p hp => by rw [List.mem_singleton.mp hp]; exact st⟩
  · have hb' : b = s.heap.objs.size := by simpa using hb
    rw [hb']
    exact ⟨List.mem_cons_self .., next_is_new F⟩
  · exact .inl (by simpa using hb)
  · intro hI
    exact absurd F.ns.lt ((List.mem_singleton.mp hI) ▸ Nat.lt_irrefl _)
  · exact absurd (Heap.lt_size (N p hp).1) ((List.mem_singleton.mp hI) ▸ Nat.lt_irrefl _)
structure MinZ (M : Int) (ns : List Int) : Prop where
  mem : M ∈ ns
  le : ∀ a ∈ ns, M ≤ a
section
variable {prog : Program} {w : World} {A : Around} {E : Value → Shared → Prop} {s : Shared} {h₀ : Heap} {L l : Addr} {m : Str → Option Value} {news : List (Addr × Obj)} {vs : List Value} {ns : List Int} {Q : Value → Shared → Prop}
theorem min_listZ (F : Fr h₀ L s.heap m) (N : News h₀ L s.heap news) (hl : s.heap.IsList l vs.toArray) (hi : IntsAre vs ns) (hne : 0 < ns.length) (hh : A.handled = none)
    (h : ∀ h' M (t : Tok) tk, Fr h₀ L h' m → News h₀ L h' news → MinZ M ns → Q (.int M t) { s with heap := h', toks := tk }) : wpAny (model prog w) A (call (.builtin "min") [.ref l]) Q E s :=
  kso_min F N hl hi hne hh fun h' M t tk F' N' a b => h h' M t tk F' N' ⟨a, b⟩
theorem min_twoZ {a b : Int} {t u : Tok} (hh : A.handled = none) (F : Fr h₀ L s.heap m) (N : News h₀ L s.heap news)
    (h : ∀ h' z t' tk, Fr h₀ L h' m → News h₀ L h' news → EqZ z (if b < a then b else a) → Q (.int z t') { s with heap := h', toks := tk }) :
    wpAny (model prog w) A (call (.builtin "min") [.int a t, .int b u]) Q E s := min_two_N hh F N fun h' tk F' N' => h h' _ _ tk F' N' ⟨rfl⟩
end
theorem sub_at {prog : Program} {w : World} {A : Around} {E : Value → Shared → Prop} {s : Shared} {h₀ : Heap} {L D : Addr} {news : List (Addr × Obj)} {Q : Value → Shared → Prop} {value slice : PySem.Expr} {vs : List Value} {n : Nat} {k : Int} {u : Tok} {v : Value} (N : News h₀ L s.heap news)
    (hm : (D, ({ cls := .type "list", data := .seq vs.toArray n } : Obj)) ∈ news) (h0 : 0 ≤ k) (hhi : k < 2 ^ 63) (hx : vs[k.toNat]? = some v) (h : Q v s)
    (hs : subscripted slice false (.ref D) (.int k u) = operate [.ref D, .int k u] (getItem (.ref D) (.int k u)) := by with_unfolding_all rfl) :
    wpAny (model prog w) A (subscriptTail value slice (.ref D) (.int k u)) Q E s := by
  have hl : s.heap.IsList D vs.toArray := ⟨_, (N _ hm).1, rfl, n, rfl⟩
  exact tail_any hl.typeIs slot_list_getitem.lookup (wpAny_getItem_list hl h0 hhi (by simpa using hx) h) hs
/-- a turn's end under tn_range, tn_list -/
def TnEnd (h₀ : Heap) (L I : Addr) (oI : Obj) (J : (Str → Option Value) → List (Addr × Obj) → Prop) (s₁ s₂ : Shared) : Prop :=
  ∃ h' tk m' nx, s₂ = { s₁ with heap := h', toks := tk } ∧ Fr h₀ L h' m' ∧ News h₀ L h' ((I, oI) :: nx) ∧ (∀ p ∈ nx, p.1 ≠ I) ∧ J m' nx
def TnPost (h₀ : Heap) (L I : Addr) (oI : Obj) (J : (Str → Option Value) → List (Addr × Obj) → Prop) (s₁ : Shared) (Q : Flow → Shared → Prop) (f : Flow) (s₂ : Shared) : Prop :=
  match f with
  | .ret v => Q (.ret v) s₂
  | .brk => Q .next s₂
  | _ => TnEnd h₀ L I oI J s₁ s₂
theorem TnEnd.intro {h₀ : Heap} {L I : Addr} {oI : Obj} {J : (Str → Option Value) → List (Addr × Obj) → Prop} {s₁ : Shared} {h' : Heap} {tk : Nat} {m' : Str → Option Value} {nx : List (Addr × Obj)} (F : Fr h₀ L h' m') (N : News h₀ L h' ((I, oI) :: nx)) (off : ∀ p ∈ nx, p.1 ≠ I) (hj : J m' nx) :
    TnEnd h₀ L I oI J s₁ { s₁ with heap := h', toks := tk } := ⟨h', tk, m', nx, rfl, F, N, off, hj⟩
theorem tn_range {prog : Program} {w : World} {A : Around} {E : Value → Shared → Prop} {s : Shared} {env : Env} {h₀ : Heap} {x : Str} {px : Pos} {body : List Stmt} {Q : Flow → Shared → Prop} {r : Addr} {a b c : Int} {t u v : Tok} {n : Nat} {m₀ : Str → Option Value} {news : List (Addr × Obj)} (J : Nat → (Str → Option Value) → List (Addr × Obj) → Prop)
    (hh : A.handled = none) (hr : IsRange s.heap r a b c t u v) (hsm : Builtin.Range.small a b c = true) (hn : Builtin.Range.rangeSize a b c = (n : Int)) (F : Fr h₀ env.locals s.heap m₀) (N : News h₀ env.locals s.heap news) (hj : J 0 m₀ news)
    (turn : ∀ (i : Nat) t m₁ nx h tk I oI, i < n → J i m₁ nx → Fr h₀ env.locals h m₁ → News h₀ env.locals h ((I, oI) :: nx) → (∀ p ∈ nx, p.1 ≠ I) → oI.cls = .type "range_iterator" →
      wpAny (model prog w) A (assign (.Name x px) env (.int (a + (i : Int) * c) t)) (fun _ s₂ => wpAny (model prog w) A (execs body env) (TnPost h₀ env.locals I oI (J (i + 1)) { s with heap := h, toks := tk } Q) E s₂) E { s with heap := h, toks := tk })
    (done : ∀ m₁ nx h tk, J n m₁ nx → Fr h₀ env.locals h m₁ → News h₀ env.locals h nx → Q .next { s with heap := h, toks := tk }) :
    wpAny (model prog w) A (pyIter (.ref r)) (fun it s₂ => TurnsAt prog w A h₀ env (.Name x px) body Q E it s₂) E s := by
  refine wpAny_pyIter_range hr hsm ?_
  have W : Walks prog w A s.heap.objs.size [s.heap.objs.size] [s.heap.objs.size] n (fun i v => i < n ∧ ∃ t, v = .int (a + i * c) t)
      (fun i h => IsRangeIter h s.heap.objs.size (a + (i : Nat) * c) ((n : Int) - (i : Nat)) c) := (Walks.range hh _ a c n).bound
  refine ⟨_, _, _, n, _, _, _, m₀, news, J, rfl, KTurns.ofWalks W fun i v s Q E st q => wpAny_pure q, ?_, ?_, ?_, (by show IsRangeIter _ _ _ _ _; rw [hn]; simpa using Heap.get?_push_size _ rfl), F.push _, (fun p hp => ⟨Heap.get?_push_of_some _ (N p hp).1, (N p hp).2⟩), hj, ?_, ?_⟩
  · intro hI
    exact absurd F.ns.lt ((List.mem_singleton.mp hI) ▸ Nat.lt_irrefl _)
  · intro b hb
    rw [List.mem_singleton.mp hb]
    exact next_is_new F
  · intro p hp hI
    exact absurd (Heap.lt_size (N p hp).1) ((List.mem_singleton.mp hI) ▸ Nat.lt_irrefl _)
  · rintro i v m₁ nx h₁ tk₁ own hi ⟨_, t, rfl⟩ hJ hoff hown hget hall st F₁ N₁
    have hI0 : h₀.get? s.heap.objs.size = none := next_is_new F
    obtain ⟨oI, hoI, hcI⟩ : ∃ oI, h₁.get? s.heap.objs.size = some oI ∧ oI.cls = .type "range_iterator" := ⟨_, st, rfl⟩
    have hIm := hall s.heap.objs.size (List.mem_singleton.mpr rfl) hI0 _ hoI
    have off : ∀ p ∈ nx, p.1 ≠ s.heap.objs.size := fun p hp e => hoff p hp (List.mem_singleton.mpr e)
    have N₂ : News h₀ env.locals h₁ ((s.heap.objs.size, oI) :: nx) := fun p hp => by
      rcases List.mem_cons.mp hp with rfl | hp
      · exact N₁ _ (List.mem_append_left _ hIm)
      · exact N₁ _ (List.mem_append_right _ hp)
    have fin : ∀ s₃, TnEnd h₀ env.locals s.heap.objs.size oI (J (i + 1)) { s with heap := h₁, toks := tk₁ } s₃ → LoopStepU h₀ env.locals [s.heap.objs.size] own (J (i + 1)) { s with heap := h₁, toks := tk₁ } .next s₃ := by
      rintro s₃ ⟨h', tk, m', nx', e, F', N', ho, hj'⟩
      refine ⟨rfl, h', tk, m', nx', e, F', ?_, fun p hp hI => ho p hp (List.mem_singleton.mp hI), hj'⟩
      rintro ⟨pa, po⟩ hp
      rcases List.mem_append.mp hp with hp | hp
      · have h2 : pa = s.heap.objs.size := List.mem_singleton.mp (hown _ hp)
        subst h2
        have h3 : h₁.get? s.heap.objs.size = some po := hget _ hp
        rw [hoI] at h3
        cases h3
        exact N' _ (.head _)
      · exact N' _ (.tail _ hp)
    refine wpAny_mono (turn i t m₁ nx h₁ tk₁ s.heap.objs.size oI hi hJ F₁ N₂ off hcI) (fun _ s₂ h₂ => wpAny_mono h₂ (fun f s₃ p => ?_) fun _ _ e => e) fun _ _ e => e
    cases f with
    | ret v => exact .ret p
    | brk => exact .brk p
    | next => exact .next (fin _ p)
    | cont => exact .cont (fin _ p)
  · rintro h' tk m' nx' F' N' _ hJ
    exact done m' nx' h' tk hJ F' N'
end Mine
end -- part Turns
section -- part FewL
open PySem PySem.W PyProof.Rows PySem.Calls PySem.Spec PyProof.V
set_option maxRecDepth 100000
set_option maxHeartbeats 2000000
namespace Mine
/-- vs are 16 references to lists of ints that tl bears -/
def RowsAre (tl : List (Addr × Obj)) (vs : List Value) (rs : List (List Int)) : Prop :=
  vs.length = 16 ∧ rs.length = 16 ∧ ∀ i, i < 16 → ∃ b ws n, vs[i]? = some (.ref b) ∧ (b, W.listOf (List.toArray ws) n) ∈ tl ∧ IntsAre ws (rs.getD i [])
theorem RowsAre.mono {tl tl' : List (Addr × Obj)} {vs : List Value} {rs : List (List Int)} (h : RowsAre tl vs rs) (hs : ∀ p ∈ tl, p ∈ tl') : RowsAre tl' vs rs :=
  ⟨h.1, h.2.1, fun i hi => let ⟨b, ws, n, a, c, d⟩ := h.2.2 i hi; ⟨b, ws, n, a, hs _ c, d⟩⟩
theorem RowsAre.set {tl : List (Addr × Obj)} {vs ws : List Value} {rs : List (List Int)} {b : Addr} {n k : Nat} {r : List Int} (h : RowsAre tl vs rs) (hm : (b, W.listOf ws.toArray n) ∈ tl) (hi : IntsAre ws r) : RowsAre tl (vs.set k (.ref b)) (rs.set k r) := by
  refine ⟨by rw [List.length_set, h.1], by rw [List.length_set, h.2.1], fun i hi' => ?_⟩
  by_cases e : k = i
  · subst e
    refine ⟨b, ws, n, ?_, hm, ?_⟩
    · rw [List.getElem?_set_self (by rw [h.1]; exact hi')]
    · rw [List.getD_eq_getElem?_getD, List.getElem?_set_self (by rw [h.2.1]; exact hi')]; exact hi
  · obtain ⟨b', ws', n', a, c, d⟩ := h.2.2 i hi'
    refine ⟨b', ws', n', ?_, c, ?_⟩
    · rw [List.getElem?_set_ne e]; exact a
    · rw [List.getD_eq_getElem?_getD, List.getElem?_set_ne e, ← List.getD_eq_getElem?_getD]; exact d
section
variable {prog : Program} {w : World} {A : Around} {E : Value → Shared → Prop} {s : Shared} {h₀ : Heap} {L RA : Addr} {m : Str → Option Value} {news tl l' : List (Addr × Obj)} {vs : List Value} {rs : List (List Int)} {n : Nat} {k : Int} {u : Tok}
theorem sub_rows {Q : Value → Shared → Prop} {value slice : PySem.Expr} (N : News h₀ L s.heap news) (hm : (RA, W.listOf vs.toArray n) ∈ news) (R : RowsAre tl vs rs) (ht : ∀ p ∈ tl, p ∈ news) (h0 : 0 ≤ k) (h1 : k < 16)
    (h : ∀ b ws n', (b, W.listOf (List.toArray ws) n') ∈ news → IntsAre ws (rs.getD k.toNat []) → Q (.ref b) s)
    (hs : subscripted slice false (.ref RA) (.int k u) = operate [.ref RA, .int k u] (getItem (.ref RA) (.int k u)) := by with_unfolding_all rfl) :
    wpAny (model prog w) A (subscriptTail value slice (.ref RA) (.int k u)) Q E s := by
  obtain ⟨b, ws, n', a, c, d⟩ := R.2.2 k.toNat (by omega)
  exact sub_at N hm h0 (by omega) a (h b ws n' (ht _ c) d) hs
theorem set_rows {Q : Unit → Shared → Prop} {x : Value} (F : Fr h₀ L s.heap m) (N : News h₀ L s.heap news) (hm : (RA, W.listOf vs.toArray n) ∈ news) (hl : vs.length = 16) (h0 : 0 ≤ k) (h1 : k < 16) (hs : ∀ p ∈ l', p ∈ news ∧ p.1 ≠ RA)
    (h : ∀ h', Fr h₀ L h' m → News h₀ L h' ((RA, W.listOf (vs.set k.toNat x).toArray n) :: l') → Q () { s with heap := h' }) :
    wpAny (model prog w) A (setItem (.ref RA) (.int k u) x) Q E s := by
  have z := N _ hm
  have e : vs.toArray.setIfInBounds k.toNat x = (vs.set k.toNat x).toArray := by
    apply Array.toList_inj.mp
    simp
  refine ki_setAt z.1 h0 (by omega) (by rw [List.size_toArray, hl]; omega) (h _ (F.change (Heap.SameBut.update ..) z.2.1 z.2.2) fun p hp => ?_)
  rcases List.mem_cons.mp hp with rfl | hp
  · refine ⟨?_, z.2⟩
    have q := PySem.IsL.update z.1 (fun a => a.setIfInBounds k.toNat x)
    rw [e, if_pos (by simp)] at q
    exact q
  · obtain ⟨h1, h2⟩ := hs p hp
    exact ⟨((Heap.SameBut.update ..).2 p.1 h2).trans (N p h1).1, (N p h1).2⟩
end
/-- a node's row from its children's -/
def min4 (a b c d : Int) : Int := min (min a b) (min c d)
def rowOf (l r : List Int) : List Int :=
  let b := fun i => l.getD i 0 + r.getD i 0
  let M := min4 (b 0) (b 1) (b 2) (b 3)
  [if 1 + M < b 0 then 1 + M else b 0, if 1 + M < b 1 then 1 + M else b 1, if 1 + M < b 2 then 1 + M else b 2, if 1 + M < b 3 then 1 + M else b 3]
section
variable {a b c d : Int}
theorem min4_a : min4 a b c d ≤ a := Int.le_trans (Int.min_le_left ..) (Int.min_le_left ..)
theorem min4_b : min4 a b c d ≤ b := Int.le_trans (Int.min_le_left ..) (Int.min_le_right ..)
theorem min4_c : min4 a b c d ≤ c := Int.le_trans (Int.min_le_right ..) (Int.min_le_left ..)
theorem min4_d : min4 a b c d ≤ d := Int.le_trans (Int.min_le_right ..) (Int.min_le_right ..)
theorem min2_mem (a b : Int) : min a b = a ∨ min a b = b := by omega
theorem min4_mem : min4 a b c d = a ∨ min4 a b c d = b ∨ min4 a b c d = c ∨ min4 a b c d = d := by
  unfold min4
  rcases min2_mem (min a b) (min c d) with h | h
  · rw [h]
    exact (min2_mem a b).elim .inl fun h => .inr (.inl h)
  · rw [h]
    exact (min2_mem c d).elim (fun h => .inr (.inr (.inl h))) fun h => .inr (.inr (.inr h))
end
theorem minZ_eq {M a b c d : Int} (h : MinZ M [a, b, c, d]) : M = min4 a b c d := by
  obtain ⟨h1, h2⟩ := h
  simp only [List.mem_cons, List.not_mem_nil, or_false, forall_eq_or_imp, forall_eq] at h1 h2
  refine Int.le_antisymm ?_ ?_
  · exact Int.le_min.mpr ⟨Int.le_min.mpr ⟨h2.1, h2.2.1⟩, Int.le_min.mpr ⟨h2.2.2.1, h2.2.2.2⟩⟩
  · rcases h1 with h | h | h | h
    · exact h ▸ min4_a
    · exact h ▸ min4_b
    · exact h ▸ min4_c
    · exact h ▸ min4_d
def fewStep (rs : List (List Int)) (k : Int) : List (List Int) := rs.set k.toNat (rowOf (rs.getD (2 * k).toNat []) (rs.getD (2 * k + 1).toNat []))
theorem downKs_succ (a : Int) (i : Nat) : downKs a (i + 1) = downKs a i ++ [a - (i : Int)] := by
  unfold downKs
  rw [List.range_succ, List.map_append]
  rfl
/-- the rows at the loop's start, among all that the call has made -/
def RowsAt (all : List (Addr × Obj)) (RA : Addr) (vs : List Value) (rs : List (List Int)) : Prop :=
  vs.length = 16 ∧ rs.length = 16 ∧ ∀ i, i < 16 → ∃ b ws n, vs[i]? = some (.ref b) ∧ (b, W.listOf (List.toArray ws) n) ∈ all ∧ b ≠ RA ∧ IntsAre ws (rs.getD i [])
def keepR (RA : Addr) (p : Addr × Obj) : Bool := (match p.2.data with | .seq _ _ => true | _ => false) && decide (p.1 ≠ RA)
structure FewSt (cn cb cr RA : Addr) (rs0 : List (List Int)) (i : Nat) (on ob orr : Obj) (vs : List Value) (rs : List (List Int)) (tl : List (Addr × Obj)) : Prop where
  dn : ∃ v, on.data = .cell v
  db : ∃ v, ob.data = .cell v
  dr : orr.data = .cell (some (.ref RA))
  rows : RowsAre tl vs rs
  fold : rs = (downKs 7 i).foldl fewStep rs0
  lens : ∀ j, 8 - i ≤ j → j < 16 → (rs.getD j []).length = 4
  off : ∀ p ∈ tl, p.1 ≠ cn ∧ p.1 ≠ cb ∧ p.1 ≠ cr ∧ p.1 ≠ RA
def FewJ (cn cb cr RA : Addr) (rs0 : List (List Int)) (m₀ : Str → Option Value) (i : Nat) (m : Str → Option Value) (nx : List (Addr × Obj)) : Prop :=
  m = m₀ ∧ ∃ on ob orr vs n0 rs tl, nx = (cn, on) :: (cb, ob) :: (cr, orr) :: (RA, W.listOf (List.toArray vs) n0) :: tl ∧ FewSt cn cb cr RA rs0 i on ob orr vs rs tl
theorem few_range {prog : Program} {w : World} {A : Around} {E : Value → Shared → Prop} {s : Shared} {env : Env} {h₀ : Heap} {x : Str} {px : Pos} {body : List Stmt} {Q : Flow → Shared → Prop} {r : Addr} {t u v : Tok} {m₀ : Str → Option Value} {all : List (Addr × Obj)} {cn cb cr RA : Addr} {on ob orr : Obj} {vn vb : Option Value} {vs : List Value} {n0 : Nat} {rs0 : List (List Int)}
    (hh : A.handled = none) (hr : IsRange s.heap r 7 0 (-1) t u v) (F : Fr h₀ env.locals s.heap m₀) (N : News h₀ env.locals s.heap all) (hcn : (cn, on) ∈ all) (hcb : (cb, ob) ∈ all) (hcr : (cr, orr) ∈ all) (hRA : (RA, W.listOf vs.toArray n0) ∈ all)
    (don : on.data = .cell vn) (dob : ob.data = .cell vb) (dor : orr.data = .cell (some (.ref RA))) (ncb : @Ne Nat cn cb) (ncr : @Ne Nat cn cr) (nbr : @Ne Nat cb cr) (hR : RowsAt all RA vs rs0) (hlen : ∀ j, 8 ≤ j → j < 16 → (rs0.getD j []).length = 4)
    (turn : ∀ (i : Nat) (k : Int) t on vn ob vb orr vs n0 rs tl h tk I oI, i < 7 → k = 7 - (i : Int) → on.data = .cell vn → ob.data = .cell vb → orr.data = .cell (some (.ref RA)) → FewSt cn cb cr RA rs0 i on ob orr vs rs tl → (rs.getD (2 * k).toNat []).length = 4 → (rs.getD (2 * k + 1).toNat []).length = 4 → 1 ≤ k → k ≤ 7 →
      Fr h₀ env.locals h m₀ → News h₀ env.locals h ((I, oI) :: (cn, on) :: (cb, ob) :: (cr, orr) :: (RA, W.listOf (List.toArray vs) n0) :: tl) → LCg.Off1 I ((cn, on) :: (cb, ob) :: (cr, orr) :: (RA, W.listOf (List.toArray vs) n0) :: tl) → (∀ p ∈ tl, p.1 ≠ cn) → (∀ p ∈ tl, p.1 ≠ cb) → (∀ p ∈ tl, p.1 ≠ RA) → (@Ne Nat cn cb ∧ @Ne Nat cn cr ∧ @Ne Nat cb cr ∧ @Ne Nat cn RA ∧ @Ne Nat cb RA ∧ @Ne Nat cr RA) → oI.cls = .type "range_iterator" →
      wpAny (model prog w) A (assign (.Name x px) env (.int k t)) (fun _ s₂ => wpAny (model prog w) A (execs body env) (TnPost h₀ env.locals I oI (FewJ cn cb cr RA rs0 m₀ (i + 1)) { s with heap := h, toks := tk } Q) E s₂) E { s with heap := h, toks := tk })
    (done : ∀ on ob orr vs n0 rs tl h tk, orr.data = .cell (some (.ref RA)) → FewSt cn cb cr RA rs0 7 on ob orr vs rs tl → Fr h₀ env.locals h m₀ → News h₀ env.locals h ((cn, on) :: (cb, ob) :: (cr, orr) :: (RA, W.listOf (List.toArray vs) n0) :: tl) → Q .next { s with heap := h, toks := tk }) :
    wpAny (model prog w) A (pyIter (.ref r)) (fun it s₂ => TurnsAt prog w A h₀ env (.Name x px) body Q E it s₂) E s := by
  have cellNe : ∀ (a b : Addr) (oa : Obj) (its : Array Value) (n : Nat) (v : Option Value), (a, oa) ∈ all → (b, W.listOf its n) ∈ all → oa.data = .cell v → @Ne Nat a b := by
    intro a b oa its n v ha hb hd e
    have e' : a = b := e
    subst e'
    have h1 := (N _ ha).1
    rw [(N _ hb).1] at h1
    cases h1
    cases hd
  have hsub : ∀ p ∈ (cn, on) :: (cb, ob) :: (cr, orr) :: (RA, W.listOf vs.toArray n0) :: all.filter (keepR RA), p ∈ all := by
    refine List.forall_mem_cons.mpr ⟨hcn, List.forall_mem_cons.mpr ⟨hcb, List.forall_mem_cons.mpr ⟨hcr, List.forall_mem_cons.mpr ⟨hRA, fun p hp => (List.mem_filter.mp hp).1⟩⟩⟩⟩
  refine tn_range (n := 7) (news := (cn, on) :: (cb, ob) :: (cr, orr) :: (RA, W.listOf vs.toArray n0) :: all.filter (keepR RA)) (FewJ cn cb cr RA rs0 m₀) hh hr (by decide) rfl F (newsPick N hsub) ?_ ?_ ?_
  · refine ⟨rfl, on, ob, orr, vs, n0, rs0, _, rfl, ⟨vn, don⟩, ⟨vb, dob⟩, dor, ⟨hR.1, hR.2.1, fun i hi => ?_⟩, rfl, fun j h8 h16 => hlen j h8 h16, fun p hp => ?_⟩
    · obtain ⟨b, ws, n, a1, a2, a3, a4⟩ := hR.2.2 i hi
      exact ⟨b, ws, n, a1, List.mem_filter.mpr ⟨a2, by simp [keepR, a3]⟩, a4⟩
    · obtain ⟨hp, hk⟩ := List.mem_filter.mp hp
      obtain ⟨pa, po⟩ := p
      have hk2 : pa ≠ RA := by
        have := (Bool.and_eq_true_iff.mp hk).2
        simpa using this
      have other : ∀ (c : Addr) (oc : Obj) (v : Option Value), (c, oc) ∈ all → oc.data = .cell v → pa ≠ c := by
        intro c oc v hc hd e
        subst e
        have h1 := (N _ hp).1
        rw [(N _ hc).1] at h1
        cases h1
        have := (Bool.and_eq_true_iff.mp hk).1
        dsimp only at this
        rw [hd] at this
        cases this
      exact ⟨other cn on vn hcn don, other cb ob vb hcb dob, other cr orr _ hcr dor, hk2⟩
  · rintro i t m₁ nx h tk I oI hi ⟨rfl, on', ob', orr', vs', n0', rs, tl, rfl, S⟩ F₁ N₁ off hcI
    obtain ⟨vn', d1⟩ := S.dn
    obtain ⟨vb', d2⟩ := S.db
    have e : (7 : Int) + (i : Int) * (-1) = 7 - (i : Int) := by omega
    rw [e]
    exact turn i (7 - (i : Int)) t on' vn' ob' vb' orr' vs' n0' rs tl h tk I oI hi rfl d1 d2 S.dr S (S.lens _ (by omega) (by omega)) (S.lens _ (by omega) (by omega)) (by omega) (by omega) F₁ N₁ (off1_of off) (fun p hp => (S.off p hp).1) (fun p hp => (S.off p hp).2.1) (fun p hp => (S.off p hp).2.2.2)
      ⟨ncb, ncr, nbr, cellNe _ _ _ _ _ _ hcn hRA don, cellNe _ _ _ _ _ _ hcb hRA dob, cellNe _ _ _ _ _ _ hcr hRA dor⟩ hcI
  · rintro m₁ nx h tk ⟨rfl, on', ob', orr', vs', n0', rs, tl, rfl, S⟩ F₁ N₁
    exact done on' ob' orr' vs' n0' rs tl h tk S.dr S F₁ N₁
theorem row_done {l r : List Int} {z0 z1 z2 z3 M0 M1 M2 M3 x0 x1 x2 x3 : Int} (e0 : z0 = l.getD 0 0 + r.getD 0 0) (e1 : z1 = l.getD 1 0 + r.getD 1 0) (e2 : z2 = l.getD 2 0 + r.getD 2 0) (e3 : z3 = l.getD 3 0 + r.getD 3 0)
    (m0 : MinZ M0 [z0, z1, z2, z3]) (m1 : MinZ M1 [z0, z1, z2, z3]) (m2 : MinZ M2 [z0, z1, z2, z3]) (m3 : MinZ M3 [z0, z1, z2, z3]) (f0 : x0 = if 1 + M0 < z0 then 1 + M0 else z0) (f1 : x1 = if 1 + M1 < z1 then 1 + M1 else z1) (f2 : x2 = if 1 + M2 < z2 then 1 + M2 else z2) (f3 : x3 = if 1 + M3 < z3 then 1 + M3 else z3) :
    [x0, x1, x2, x3] = rowOf l r := by
  rw [f0, f1, f2, f3, minZ_eq m0, minZ_eq m1, minZ_eq m2, minZ_eq m3, e0, e1, e2, e3]
  rfl
theorem few_next {cn cb cr RA NB : Addr} {rs0 rs : List (List Int)} {i : Nat} {on ob orr on' ob' : Obj} {vs ws : List Value} {tl : List (Addr × Obj)} {n : Nat} {k : Int} (S : FewSt cn cb cr RA rs0 i on ob orr vs rs tl) (hi : i < 7) (hk : k = 7 - (i : Int)) (d1 : ∃ v, on'.data = .cell v) (d2 : ∃ v, ob'.data = .cell v)
    (hI : IntsAre ws (rowOf (rs.getD (2 * k).toNat []) (rs.getD (2 * k + 1).toNat []))) (off : NB ≠ cn ∧ NB ≠ cb ∧ NB ≠ cr ∧ NB ≠ RA) :
    FewSt cn cb cr RA rs0 (i + 1) on' ob' orr (vs.set k.toNat (.ref NB)) (fewStep rs k) ((NB, W.listOf ws.toArray n) :: tl) := by
  refine ⟨d1, d2, S.dr, (S.rows.mono fun p hp => .tail _ hp).set (.head _) hI, ?_, fun j h1 h2 => ?_, fun p hp => ?_⟩
  · rw [downKs_succ, List.foldl_append, ← S.fold, hk]; rfl
  · unfold fewStep
    by_cases e : k.toNat = j
    · subst e
      rw [List.getD_eq_getElem?_getD, List.getElem?_set_self (by rw [S.rows.2.1]; omega)]
      rfl
    · rw [List.getD_eq_getElem?_getD, List.getElem?_set_ne e, ← List.getD_eq_getElem?_getD]
      exact S.lens j (by omega) h2
  · rcases List.mem_cons.mp hp with rfl | hp
    · exact off
    · exact S.off p hp
theorem set_rows6 {prog : Program} {w : World} {A : Around} {E : Value → Shared → Prop} {s : Shared} {h₀ : Heap} {L RA : Addr} {m : Str → Option Value} {tl : List (Addr × Obj)} {vs : List Value} {n : Nat} {k : Int} {u : Tok} {x1 x2 x3 x4 x5 x6 : Addr × Obj} {Q : Unit → Shared → Prop} {x : Value} (F : Fr h₀ L s.heap m)
    (N : News h₀ L s.heap (x1 :: x2 :: x3 :: x4 :: x5 :: x6 :: (RA, W.listOf vs.toArray n) :: tl)) (hl : vs.length = 16) (h0 : 0 ≤ k) (h1 : k < 16) (n1 : x1.1 ≠ RA) (n2 : x2.1 ≠ RA) (n3 : x3.1 ≠ RA) (n4 : x4.1 ≠ RA) (n5 : x5.1 ≠ RA) (n6 : x6.1 ≠ RA) (nt : ∀ p ∈ tl, p.1 ≠ RA)
    (h : ∀ h', Fr h₀ L h' m → News h₀ L h' (x1 :: x2 :: x3 :: x4 :: x5 :: x6 :: (RA, W.listOf (vs.set k.toNat x).toArray n) :: tl) → Q () { s with heap := h' }) :
    wpAny (model prog w) A (setItem (.ref RA) (.int k u) x) Q E s := by
  refine set_rows (n := n) (l' := x1 :: x2 :: x3 :: x4 :: x5 :: x6 :: tl) F N (by simp) hl h0 h1 ?_ fun h' F' N' => h h' F' (newsPick N' fun p hp => ?_)
  · refine List.forall_mem_cons.mpr ⟨⟨by simp, n1⟩, List.forall_mem_cons.mpr ⟨⟨by simp, n2⟩, List.forall_mem_cons.mpr ⟨⟨by simp, n3⟩, List.forall_mem_cons.mpr ⟨⟨by simp, n4⟩, List.forall_mem_cons.mpr ⟨⟨by simp, n5⟩, List.forall_mem_cons.mpr ⟨⟨by simp, n6⟩, fun p hp => ⟨by simp [hp], nt p hp⟩⟩⟩⟩⟩⟩⟩
  · simp only [List.mem_cons] at hp ⊢
    grind
theorem few_turn_end {h₀ h' : Heap} {L I : Addr} {oI : Obj} {m₀ : Str → Option Value} {s₁ : Shared} {Q : Flow → Shared → Prop} {tk : Nat} {cn cb cr RA NB B : Addr} {rs0 rs : List (List Int)} {i : Nat} {on ob orr on' ob' oB o1 o2 o3 o4 o5 : Obj} {vs : List Value} {n0 : Nat} {tl tl1 tl2 : List (Addr × Obj)} {k : Int} {v1 v2 : Option Value} {x0 x1 x2 x3 y0 y1 y2 y3 M0 M1 M2 M3 z0 z1 z2 z3 : Int} {u0 u1 u2 u3 : Tok}
    (N : News h₀ L h' ((NB, LCg.lst [.int x0 u0, .int x1 u1, .int x2 u2, .int x3 u3]) :: (B, oB) :: (I, oI) :: (cn, on') :: (cb, ob') :: (cr, orr) :: (RA, W.listOf (vs.set k.toNat (.ref NB)).toArray n0) :: tl)) (F : Fr h₀ L h' m₀)
    (S : FewSt cn cb cr RA rs0 i on ob orr vs rs tl) (hi : i < 7) (hk : k = 7 - (i : Int)) (d1 : on'.data = .cell v1) (d2 : ob'.data = .cell v2)
    (oN : LCg.Off1 NB ((B, oB) :: (I, oI) :: (cn, o1) :: (cb, o2) :: (cr, o3) :: (RA, o4) :: tl1)) (oI' : LCg.Off1 I ((cn, o5) :: (cb, ob) :: (cr, orr) :: (RA, o4) :: tl2)) (htl : tl2 = tl)
    (hx0 : EqZ x0 y0) (hx1 : EqZ x1 y1) (hx2 : EqZ x2 y2) (hx3 : EqZ x3 y3) (hy0 : EqZ y0 (if 1 + M0 < z0 then 1 + M0 else z0)) (hy1 : EqZ y1 (if 1 + M1 < z1 then 1 + M1 else z1)) (hy2 : EqZ y2 (if 1 + M2 < z2 then 1 + M2 else z2)) (hy3 : EqZ y3 (if 1 + M3 < z3 then 1 + M3 else z3))
    (m0 : MinZ M0 [z0, z1, z2, z3]) (m1 : MinZ M1 [z0, z1, z2, z3]) (m2 : MinZ M2 [z0, z1, z2, z3]) (m3 : MinZ M3 [z0, z1, z2, z3])
    (hz0 : EqZ z0 ((rs.getD (2 * k).toNat []).getD 0 0 + (rs.getD (2 * k + 1).toNat []).getD 0 0)) (hz1 : EqZ z1 ((rs.getD (2 * k).toNat []).getD 1 0 + (rs.getD (2 * k + 1).toNat []).getD 1 0))
    (hz2 : EqZ z2 ((rs.getD (2 * k).toNat []).getD 2 0 + (rs.getD (2 * k + 1).toNat []).getD 2 0)) (hz3 : EqZ z3 ((rs.getD (2 * k).toNat []).getD 3 0 + (rs.getD (2 * k + 1).toNat []).getD 3 0)) :
    TnPost h₀ L I oI (FewJ cn cb cr RA rs0 m₀ (i + 1)) s₁ Q .next { s₁ with heap := h', toks := tk } := by
  subst htl
  have hrow := row_done hz0.eq hz1.eq hz2.eq hz3.eq m0 m1 m2 m3 (hx0.eq.trans hy0.eq) (hx1.eq.trans hy1.eq) (hx2.eq.trans hy2.eq) (hx3.eq.trans hy3.eq)
  have hI : IntsAre [.int x0 u0, .int x1 u1, .int x2 u2, .int x3 u3] (rowOf (rs.getD (2 * k).toNat []) (rs.getD (2 * k + 1).toNat [])) := hrow ▸ .cons _ _ (.cons _ _ (.cons _ _ (.cons _ _ .nil)))
  have S' := few_next (NB := NB) (n := 4) S hi hk ⟨v1, d1⟩ ⟨v2, d2⟩ hI ⟨Ne.symm oN.2.2.1, Ne.symm oN.2.2.2.1, Ne.symm oN.2.2.2.2.1, Ne.symm oN.2.2.2.2.2.1⟩
  refine TnEnd.intro (nx := (cn, on') :: (cb, ob') :: (cr, orr) :: (RA, W.listOf (vs.set k.toNat (.ref NB)).toArray n0) :: (NB, LCg.lst [.int x0 u0, .int x1 u1, .int x2 u2, .int x3 u3]) :: tl2) F (newsPick N fun p hp => ?_) (fun p hp => ?_) ⟨rfl, _, _, _, _, _, _, _, rfl, S'⟩
  · simp only [List.mem_cons] at hp ⊢
    grind
  · rcases List.mem_cons.mp hp with rfl | hp
    · exact oI'.1
    · rcases List.mem_cons.mp hp with rfl | hp
      · exact oI'.2.1
      · rcases List.mem_cons.mp hp with rfl | hp
        · exact oI'.2.2.1
        · rcases List.mem_cons.mp hp with rfl | hp
          · exact oI'.2.2.2.1
          · rcases List.mem_cons.mp hp with rfl | hp
            · exact Ne.symm oN.2.1
            · exact off1_mem oI'.2.2.2.2 p hp
def leafR (a : Int) : List Int := [if a = 0 then 0 else 1, if a = 1 then 0 else 1, if a = 2 then 0 else 1, if a = 3 then 0 else 1]
def few0 (a0 a1 a2 a3 a4 a5 a6 a7 : Int) : List (List Int) := [[], [], [], [], [], [], [], [], leafR a0, leafR a1, leafR a2, leafR a3, leafR a4, leafR a5, leafR a6, leafR a7]
theorem leaf_eq {a z0 z1 z2 z3 y0 y1 y2 y3 : Int} (h0 : EqZ z0 y0) (h1 : EqZ z1 y1) (h2 : EqZ z2 y2) (h3 : EqZ z3 y3) (g0 : EqZ y0 (if a = 0 then 0 else 1)) (g1 : EqZ y1 (if a = 1 then 0 else 1)) (g2 : EqZ y2 (if a = 2 then 0 else 1)) (g3 : EqZ y3 (if a = 3 then 0 else 1)) : [z0, z1, z2, z3] = leafR a := by
  rw [h0.eq, h1.eq, h2.eq, h3.eq, g0.eq, g1.eq, g2.eq, g3.eq]; rfl
theorem few0_eq {a0 a1 a2 a3 a4 a5 a6 a7 : Int} {l0 l1 l2 l3 l4 l5 l6 l7 : List Int} (h0 : l0 = leafR a0) (h1 : l1 = leafR a1) (h2 : l2 = leafR a2) (h3 : l3 = leafR a3) (h4 : l4 = leafR a4) (h5 : l5 = leafR a5) (h6 : l6 = leafR a6) (h7 : l7 = leafR a7) :
    [[], [], [], [], [], [], [], [], l0, l1, l2, l3, l4, l5, l6, l7] = few0 a0 a1 a2 a3 a4 a5 a6 a7 := by rw [h0, h1, h2, h3, h4, h5, h6, h7]; rfl
end Mine
end -- part FewL
section -- part Few
open PySem PySem.W PyProof.Rows
set_option maxRecDepth 100000
set_option maxHeartbeats 1500000
namespace Mine
theorem nat0 : (0 : Int) ≤ 0 + ((0 : Nat) : Int) ∧ (0 : Int) + ((0 : Nat) : Int) < 4 := by decide
local macro_rules | `(tactic| size_fits) => `(tactic| (rw [sizeLine_eq]; (with_reducible refine Nat.le_of_ble_eq_true ?_); with_unfolding_all rfl))
local macro_rules | `(tactic| k_ne) => `(tactic| first | exact ne_offN (by with_reducible assumption) (by k_mem) | exact Ne.symm (ne_offN (by with_reducible assumption) (by k_mem)) | (refine neN ?_; (try dsimp only); omega))
local macro_rules | `(tactic| k_mem) => `(tactic| ((repeat (first | (with_reducible exact List.mem_cons_self) | (with_reducible refine List.mem_cons_of_mem _ ?_))); done))
local macro_rules | `(tactic| k_all) => `(tactic| with_reducible assumption)
local macro_rules | `(tactic| walk_at "CompSrc") => `(tactic| (k_here; k_dflt (refine LCg.CompSrc.range (by rfl) (by k_asm) (by k_asm) (by assumption) (by first | decide | rfl) (by first | rfl | decide) (by first | size_fits | exact Nat.le_of_ble_eq_true rfl) ?_; intro g9; lcg_lit)))
theorem few_spec (w : World) (p : Program) (loose : List Str) (mean : ExcName → Option Value) (mg mb : Str → Option Value) : ∀ {ta : Addr} {n : Nat} {a0 a1 a2 a3 a4 a5 a6 a7 : Int} {t0 t1 t2 t3 t4 t5 t6 t7 : Tok} {dp un : Nat} {gd : Option (List Code)} {cn : Str} {cs : Scope} {a : Addr} {ccd : Value} {cl : List (Str × Addr)} {outer : List Env} {A₀ : Around} {base h₀ : Heap} {L : Addr} {m : Str → Option Value} {news : List (Addr × Obj)} {s : Shared} {Q E : Value → Shared → Prop}
    (B : Below A₀ base outer h₀) (F : Fr h₀ L s.heap m) (X : (hd.heap_1 w.params).In h₀) (N : News h₀ L s.heap news) (T : Top p loose mean mg mb h₀) (hk : cs.kind = .function)
    (hm : (ta, W.listOf #[.int a0 t0, .int a1 t1, .int a2 t2, .int a3 t3, .int a4 t4, .int a5 t5, .int a6 t6, .int a7 t7] n) ∈ news)
    (hd : dp + 20 < recursionLimit) (hu : un + 8 * 20 < cLine)
    (ret : ∀ RA vs n0 rs tl h' tk', Fr h₀ L h' m → News h₀ L h' ((RA, W.listOf (List.toArray vs) n0) :: (tl ++ news)) → RowsAre tl vs rs → rs = (downKs 7 7).foldl fewStep (few0 a0 a1 a2 a3 a4 a5 a6 a7) → (∀ j, 1 ≤ j → j < 16 → (rs.getD j []).length = 4) → Q (.ref RA) { s with heap := h', toks := tk' }),
    wpAny (model Challenge.rw_rl0031_01.row.prog w) (ktrTop dp un gd cn cs L a ccd cl outer) (call (.ref 157) [.ref ta]) Q E s := by
  k_fill
  k_with_none
  intro ta n a0 a1 a2 a3 a4 a5 a6 a7 t0 t1 t2 t3 t4 t5 t6 t7 dp un gd cn cs a ccd cl outer A₀ base h₀ L m news s Q E B F X N T hk hm hd hu ret
  have Nl : News h₀ L s.heap [] := fun p hp => nomatch hp
  refine wpAny_call ?_
  k_dflt (refine' frz_defC ?k1 ?k2 ?k3 ?k4 ?k5 ?kA ?kF ?kK ?k6 ?k7 ?k8 ?k9 ?kB ?kD ?_ ?c2 ?c3 ?c4; (case kA => exact rfl); (case kF => exact rfl); (case kK => assumption); (case k1 => k_asm); (case k2 => k_asm); (case k3 => k_asm); (case k4 => exact Nl); (case k5 => k_asm); (case k6 => k_is); (case k7 => k_is); (case k8 => ktr_room); (case k9 => exact BindsTo.of_eq rfl); (case kB => exact rfl); (case kD => decide +kernel); (case c2 => exact rfl); (case c3 => exact rfl); (case c4 => exact rfl); k_whole; intro g' L' h' tk' cells' FG' F' N' Y' B' X' T' l1 Z'; (try k_lt l1); k_cells Y'; (try simp only [List.cons_append, List.nil_append] at N'); (try dsimp only); (try k_fold))
  have KZ := fun (h' : Heap) (m' : Str → Option Value) (nw : List (Addr × Obj)) (F' : Fr g' L' h' m') (kN : News h₀ L h' nw) (hl : ∀ p ∈ _, p ∈ nw) => frz_keep Z' Nl N F' kN hl
  have hta : g'.IsList ta _ := ⟨_, Z' _ _ (N _ hm).1 (fun q => nomatch q), rfl, _, rfl⟩
  clear N hm Nl Z'
  (repeat' (first | (k_unfold; (try dsimp only)) | (k_end; wrow_close) | ((first | ((fail_if_success (goal_lacks exec)); (with_reducible show wpAny _ _ (exec _ _) _ _ _); ((with_reducible show wpAny _ _ (exec (Stmt.For (Expr.Name ..) (Expr.Call ..) (_ :: _) [] _) _) _ _ _); (first | (with_reducible (first | (k_here; (rename Fr _ _ _ _ => lFpq); (with_unfolding_all refine' For_turns lFpq ?_; k_whole)))) | (k_here; (rename Fr _ _ _ _ => lFpq); (with_unfolding_all refine' For_turns lFpq ?_; k_whole))); (try walk_say "OWN exec For Name Call cons nil"))) | ((fail_if_success (goal_lacks subscriptTail)); (with_reducible show wpAny _ _ (subscriptTail _ _ _ _) _ _ _); (first | ((with_reducible show wpAny _ _ (subscriptTail (Expr.Name ..) (Expr.Name ..) (Value.ref _) (Value.int _ _)) _ _ _); (first | (with_reducible (first | (k_here; (with_reducible show wpAny _ _ (subscriptTail _ _ (Value.ref _) (Value.int _ _)) _ _ _); k_dflt (refine' sub_at ?k1 ?k2 ?k4 ?k5 ?k3 ?_ ?k6; (case k1 => k_asm); (case k2 => k_mem); (case k4 => decide); (case k5 => decide); (case k3 => rfl); (case k6 => with_unfolding_all rfl); k_whole)))) | (k_here; (with_reducible show wpAny _ _ (subscriptTail _ _ (Value.ref _) (Value.int _ _)) _ _ _); k_dflt (refine' sub_at ?k1 ?k2 ?k4 ?k5 ?k3 ?_ ?k6; (case k1 => k_asm); (case k2 => k_mem); (case k4 => decide); (case k5 => decide); (case k3 => rfl); (case k6 => with_unfolding_all rfl); k_whole))); (try walk_say "OWN subscriptTail Name Name ref int")) | ((with_reducible show wpAny _ _ (subscriptTail (Expr.Subscript ..) (Expr.Name ..) (Value.ref _) (Value.int _ _)) _ _ _); (first | (with_reducible (first | (k_here; (with_reducible show wpAny _ _ (subscriptTail _ _ (Value.ref _) (Value.int _ _)) _ _ _); k_dflt (refine' ksa_sub ?k1 ?k2 ?k3 ?k4 ?k5 ?k6 ?_ ?k7; (case k1 => k_asm); (case k2 => with_reducible assumption); (case k3 => with_reducible assumption); (case k4 => decide); (case k5 => (first | (refine Int.lt_of_lt_of_eq ?_ (congrArg Nat.cast (by with_reducible assumption)).symm; decide))); (case k6 => decide); (case k7 => with_unfolding_all rfl); k_whole); intro _))) | (k_here; (with_reducible show wpAny _ _ (subscriptTail _ _ (Value.ref _) (Value.int _ _)) _ _ _); k_dflt (refine' ksa_sub ?k1 ?k2 ?k3 ?k4 ?k5 ?k6 ?_ ?k7; (case k1 => k_asm); (case k2 => with_reducible assumption); (case k3 => with_reducible assumption); (case k4 => decide); (case k5 => (first | (refine Int.lt_of_lt_of_eq ?_ (congrArg Nat.cast (by with_reducible assumption)).symm; decide))); (case k6 => decide); (case k7 => with_unfolding_all rfl); k_whole); intro _)); (try walk_say "OWN subscriptTail Subscript Name ref int")) | ((with_reducible show wpAny _ _ (subscriptTail (Expr.Name ..) (Expr.BinOp ..) (Value.ref _) (Value.int _ _)) _ _ _); (first | (with_reducible (first | (k_here; (with_reducible show wpAny _ _ (subscriptTail _ _ (Value.ref _) (Value.int _ _)) _ _ _); k_dflt (refine' sub_rows ?k1 ?k2 ?k3 ?k4 ?k5 ?k6 ?_ ?k7; (case k1 => k_asm); (case k2 => k_mem); (case k3 => exact FewSt.rows (by with_reducible assumption)); (case k4 => exact fun p hp => by simp only [List.mem_cons]; grind); (case k5 => omega); (case k6 => omega); (case k7 => with_unfolding_all rfl); k_whole); intro b9q ws9q n9q hm9q hi9q))) | (k_here; (with_reducible show wpAny _ _ (subscriptTail _ _ (Value.ref _) (Value.int _ _)) _ _ _); k_dflt (refine' sub_rows ?k1 ?k2 ?k3 ?k4 ?k5 ?k6 ?_ ?k7; (case k1 => k_asm); (case k2 => k_mem); (case k3 => exact FewSt.rows (by with_reducible assumption)); (case k4 => exact fun p hp => by simp only [List.mem_cons]; grind); (case k5 => omega); (case k6 => omega); (case k7 => with_unfolding_all rfl); k_whole); intro b9q ws9q n9q hm9q hi9q)); (try walk_say "OWN subscriptTail Name BinOp ref int")) | ((first | (with_reducible (first | (k_here; (with_reducible show wpAny _ _ (subscriptTail _ _ (Value.ref _) (Value.int _ _)) _ _ _); k_dflt (refine' sub_at ?k1 ?k2 ?k4 ?k5 ?k3 ?_ ?k6; (case k1 => k_asm); (case k2 => k_mem); (case k4 => decide); (case k5 => decide); (case k3 => rfl); (case k6 => with_unfolding_all rfl); k_whole)))) | (k_here; (with_reducible show wpAny _ _ (subscriptTail _ _ (Value.ref _) (Value.int _ _)) _ _ _); k_dflt (refine' sub_at ?k1 ?k2 ?k4 ?k5 ?k3 ?_ ?k6; (case k1 => k_asm); (case k2 => k_mem); (case k4 => decide); (case k5 => decide); (case k3 => rfl); (case k6 => with_unfolding_all rfl); k_whole))); (try walk_say "OWN subscriptTail")))) | ((fail_if_success (goal_lacks binaryOp)); (with_reducible show wpAny _ _ (binaryOp _ _ _) _ _ _); ((with_reducible show wpAny _ _ (binaryOp Operator.Mult (Value.int _ _) (Value.int _ _)) _ _ _); (first | (with_reducible (first | (k_here; with_reducible refine mul_int ?_ (IntMulOk.of_left (by decide))))) | (k_here; with_reducible refine mul_int ?_ (IntMulOk.of_left (by decide)))); (try walk_say "OWN binaryOp Mult int int"))) | ((fail_if_success (goal_lacks setItem)); (with_reducible show wpAny _ _ (setItem _ _ _) _ _ _); ((first | (with_reducible (first | (k_here; (with_reducible show wpAny _ _ (setItem (Value.ref _) (Value.int _ _) (Value.ref _)) _ _ _); k_dflt (refine' set_rows6 ?F ?N ?hl ?h0 ?h1 ?n1 ?n2 ?n3 ?n4 ?n5 ?n6 ?nt ?_; (case F => k_asm); (case N => k_asm); (case hl => exact (FewSt.rows (by with_reducible assumption)).1); (case h0 => omega); (case h1 => omega); (case n1 => k_ne); (case n2 => k_ne); (case n3 => k_ne); (case n4 => k_ne); (case n5 => k_ne); (case n6 => k_ne); (case nt => with_reducible assumption); k_whole); intro hpq Fpq Npq))) | (k_here; (with_reducible show wpAny _ _ (setItem (Value.ref _) (Value.int _ _) (Value.ref _)) _ _ _); k_dflt (refine' set_rows6 ?F ?N ?hl ?h0 ?h1 ?n1 ?n2 ?n3 ?n4 ?n5 ?n6 ?nt ?_; (case F => k_asm); (case N => k_asm); (case hl => exact (FewSt.rows (by with_reducible assumption)).1); (case h0 => omega); (case h1 => omega); (case n1 => k_ne); (case n2 => k_ne); (case n3 => k_ne); (case n4 => k_ne); (case n5 => k_ne); (case n6 => k_ne); (case nt => with_reducible assumption); k_whole); intro hpq Fpq Npq)); (try walk_say "OWN setItem ref int"))) | ((fail_if_success (goal_lacks eval)); (with_reducible show wpAny _ _ (eval _ _) _ _ _); (first | ((with_reducible show wpAny _ _ (eval (Expr.ListComp ..) _) _ _ _); (first | (with_reducible (first | ((with_reducible show wpAny _ _ (eval _ _) _ _ _); k_here; k_dflt (refine' compC' ?a0 ?a1 ?a2 ?a3 ?a4 ?a5 ?a6 ?a7 ?_; (case a0 => k_asm); (case a1 => rfl); (case a2 => with_unfolding_all rfl); (case a3 => rfl); (case a4 => rfl); (case a5 => rfl); (case a6 => assumption); (case a7 => size_fits); k_whole)) | ((with_reducible show wpAny _ _ (eval _ _) _ _ _); k_here; lcf_look; lcg_calm; k_dflt (refine LCg.ListComp_U (F₀ := by k_asm) (by with_unfolding_all rfl) (by decide) (by rfl) (by decide) (by rfl) ?_); k_dflt lcg_toSrc) | ((with_reducible show wpAny _ _ (eval _ _) _ _ _); k_here; lcg_look; lcg_calm; k_dflt (refine LCg.ListComp_U (F₀ := by k_asm) (by rfl) (by decide) (by rfl) (by decide) (by rfl) ?_); k_dflt lcg_toSrc))) | ((with_reducible show wpAny _ _ (eval _ _) _ _ _); k_here; k_dflt (refine' compC' ?a0 ?a1 ?a2 ?a3 ?a4 ?a5 ?a6 ?a7 ?_; (case a0 => k_asm); (case a1 => rfl); (case a2 => with_unfolding_all rfl); (case a3 => rfl); (case a4 => rfl); (case a5 => rfl); (case a6 => assumption); (case a7 => size_fits); k_whole)) | ((with_reducible show wpAny _ _ (eval _ _) _ _ _); k_here; lcf_look; lcg_calm; k_dflt (refine LCg.ListComp_U (F₀ := by k_asm) (by with_unfolding_all rfl) (by decide) (by rfl) (by decide) (by rfl) ?_); k_dflt lcg_toSrc) | ((with_reducible show wpAny _ _ (eval _ _) _ _ _); k_here; lcg_look; lcg_calm; k_dflt (refine LCg.ListComp_U (F₀ := by k_asm) (by rfl) (by decide) (by rfl) (by decide) (by rfl) ?_); k_dflt lcg_toSrc)); (try walk_say "OWN eval ListComp")) | ((with_reducible show wpAny _ _ (eval (Expr.Name ..) _) _ _ _); (first | (with_reducible (first | (k_here; (with_reducible show wpAny _ _ (eval (Expr.Name _ _) (compEnvC _ _ _ _)) _ _ _); k_dflt (refine' lcf_cell ?N ?c ?m ?d ?_ ?a ?b; (case a => rfl); (case b => rfl); (case N => k_asm); (case c => rfl); (case m => k_mem); (case d => with_reducible assumption); k_whole)) | (k_here; (with_reducible show wpAny _ _ (eval (Expr.Name _ _) (compEnvC _ _ _ _)) _ _ _); k_dflt (refine' LCgL.ld_own ?N ?m ?d ?x ?_ ?a ?b; (case a => rfl); (case b => rfl); (case N => k_asm); (case m => k_mem); (case d => with_reducible assumption); (case x => with_reducible assumption); k_whole)))) | (k_here; (with_reducible show wpAny _ _ (eval (Expr.Name _ _) (compEnvC _ _ _ _)) _ _ _); k_dflt (refine' lcf_cell ?N ?c ?m ?d ?_ ?a ?b; (case a => rfl); (case b => rfl); (case N => k_asm); (case c => rfl); (case m => k_mem); (case d => with_reducible assumption); k_whole)) | (k_here; (with_reducible show wpAny _ _ (eval (Expr.Name _ _) (compEnvC _ _ _ _)) _ _ _); k_dflt (refine' LCgL.ld_own ?N ?m ?d ?x ?_ ?a ?b; (case a => rfl); (case b => rfl); (case N => k_asm); (case m => k_mem); (case d => with_reducible assumption); (case x => with_reducible assumption); k_whole))); (try walk_say "OWN eval Name")) | ((with_reducible show wpAny _ _ (eval (Expr.IfExp ..) _) _ _ _); (first | (with_reducible (first | (k_here; with_reducible refine ifexp_join ?_))) | (k_here; with_reducible refine ifexp_join ?_)); (try walk_say "OWN eval IfExp")))) | ((fail_if_success (goal_lacks call)); (with_reducible show wpAny _ _ (call _ _) _ _ _); ((with_reducible show wpAny _ _ (call (Value.builtin "min") _) _ _ _); (first | (with_reducible (first | (k_here; (with_reducible show wpAny _ _ (call (Value.builtin _) [Value.int _ _, Value.int _ _]) _ _ _); (with_unfolding_all refine' min_twoZ ?k1 ?k2 ?k3 ?_; (case k1 => with_unfolding_all rfl); (case k2 => k_asm); (case k3 => k_asm); k_whole); intro hpq Mpq tpq kpq Fpq Npq apq) | (k_here; (with_reducible show wpAny _ _ (call (Value.builtin _) [Value.ref _]) _ _ _); (with_unfolding_all refine' min_listZ ?k1 ?k2 ?k3 ?k4 ?k5 ?k6 ?_; (case k1 => k_asm); (case k2 => k_asm); (case k3 => kso_list); (case k4 => l_ints); (case k5 => exact Nat.zero_lt_succ _); (case k6 => with_unfolding_all rfl); k_whole); intro hpq Mpq tpq kpq Fpq Npq apq))) | (k_here; (with_reducible show wpAny _ _ (call (Value.builtin _) [Value.int _ _, Value.int _ _]) _ _ _); (with_unfolding_all refine' min_twoZ ?k1 ?k2 ?k3 ?_; (case k1 => with_unfolding_all rfl); (case k2 => k_asm); (case k3 => k_asm); k_whole); intro hpq Mpq tpq kpq Fpq Npq apq) | (k_here; (with_reducible show wpAny _ _ (call (Value.builtin _) [Value.ref _]) _ _ _); (with_unfolding_all refine' min_listZ ?k1 ?k2 ?k3 ?k4 ?k5 ?k6 ?_; (case k1 => k_asm); (case k2 => k_asm); (case k3 => kso_list); (case k4 => l_ints); (case k5 => exact Nat.zero_lt_succ _); (case k6 => with_unfolding_all rfl); k_whole); intro hpq Mpq tpq kpq Fpq Npq apq)); (try walk_say "OWN call builtin:min"))) | ((fail_if_success (goal_lacks InvEndN)); (with_reducible show InvEndN ..); (repeat clear qk); (repeat clear ek); ((first | (with_reducible (first | k_dflt kst_close)) | k_dflt kst_close); (try walk_say "OWN InvEndN"))) | ((fail_if_success (goal_lacks LCg.CompEnd)); (with_reducible show LCg.CompEnd ..); ((first | (with_reducible (first | first | (k_dflt (refine' ce_int ?a1 ?a2 ?a3 ?a4 ?_; (case a1 => k_asm); (case a2 => k_asm); (case a3 => with_reducible assumption); (case a4 => first | exact True.intro | lcg_src)); intro z9q hz9q) | (k_dflt (refine' ce_same ?a1 ?a2 ?a3 ?a4 ?_; (case a1 => k_asm); (case a2 => k_asm); (case a3 => with_reducible assumption); (case a4 => first | exact True.intro | lcg_src))) | (k_dflt (refine' ce_one ?a1 ?a2 ?a3 ?a5 ?a4 ?_; (case a1 => k_asm); (case a2 => k_asm); (case a3 => with_reducible assumption); (case a5 => with_reducible assumption); (case a4 => first | exact True.intro | lcg_src))) | k_dflt lcg_end)) | first | (k_dflt (refine' ce_int ?a1 ?a2 ?a3 ?a4 ?_; (case a1 => k_asm); (case a2 => k_asm); (case a3 => with_reducible assumption); (case a4 => first | exact True.intro | lcg_src)); intro z9q hz9q) | (k_dflt (refine' ce_same ?a1 ?a2 ?a3 ?a4 ?_; (case a1 => k_asm); (case a2 => k_asm); (case a3 => with_reducible assumption); (case a4 => first | exact True.intro | lcg_src))) | (k_dflt (refine' ce_one ?a1 ?a2 ?a3 ?a5 ?a4 ?_; (case a1 => k_asm); (case a2 => k_asm); (case a3 => with_reducible assumption); (case a5 => with_reducible assumption); (case a4 => first | exact True.intro | lcg_src))) | k_dflt lcg_end); (try walk_say "OWN CompEnd"))) | ((fail_if_success (goal_lacks LCg.CompRest)); (with_reducible show LCg.CompRest ..); ((first | (with_reducible (first | (with_unfolding_all first | (refine LCg.CompRest.succ ?_; intro vpq Ipq oIpq Cpq oCpq Dpq mpq hpq tkpq Epq hvpq hCpq hxpq Fpq Npq offpq nepq; clear nepq; (first | lcg_open hvpq | (obtain ⟨t9pq, hv9pq⟩ := hvpq; subst hv9pq))) | refine LCg.CompRest.zero ?_))) | (with_unfolding_all first | (refine LCg.CompRest.succ ?_; intro vpq Ipq oIpq Cpq oCpq Dpq mpq hpq tkpq Epq hvpq hCpq hxpq Fpq Npq offpq nepq; clear nepq; (first | lcg_open hvpq | (obtain ⟨t9pq, hv9pq⟩ := hvpq; subst hv9pq))) | refine LCg.CompRest.zero ?_)); (try walk_say "OWN CompRest"))) | ((fail_if_success (goal_lacks LCg.FinE)); (with_reducible show LCg.FinE ..); ((first | (with_reducible (first | ((unfold LCg.FinE); intro Dpq hpq tkpq Fpq Npq o1pq; (try simp only [List.nil_append, List.cons_append] at Npq); (try dsimp only)))) | ((unfold LCg.FinE); intro Dpq hpq tkpq Fpq Npq o1pq; (try simp only [List.nil_append, List.cons_append] at Npq); (try dsimp only))); (try walk_say "OWN FinE"))) | ((fail_if_success (goal_lacks CRestC)); (with_reducible show CRestC ..); ((first | (with_reducible (first | (with_unfolding_all first | (refine CRestC.succ ?_; intro vpq Ipq oIpq Cpq oCpq cpq ocpq Dpq hpq tkpq Epq hvpq hdpq Fpq Npq offpq nepq offcpq; clear nepq; lcg_open hvpq) | refine CRestC.zero ?_))) | (with_unfolding_all first | (refine CRestC.succ ?_; intro vpq Ipq oIpq Cpq oCpq cpq ocpq Dpq hpq tkpq Epq hvpq hdpq Fpq Npq offpq nepq offcpq; clear nepq; lcg_open hvpq) | refine CRestC.zero ?_)); (try walk_say "OWN CRestC"))) | ((fail_if_success (goal_lacks RestC)); (with_reducible show RestC ..); ((first | (with_reducible (first | (k_dflt (refine restC_one (by with_reducible assumption) (by with_reducible assumption) ?_)))) | (k_dflt (refine restC_one (by with_reducible assumption) (by with_reducible assumption) ?_))); (try walk_say "OWN RestC"))) | ((fail_if_success (goal_lacks SrcC)); (with_reducible show SrcC ..); ((first | (with_reducible (first | (k_here; k_dflt (refine' SrcC.mk ?a1 ?a2 ?_; (case a1 => k_asm); (case a2 => k_asm); k_whole); intro gpq))) | (k_here; k_dflt (refine' SrcC.mk ?a1 ?a2 ?_; (case a1 => k_asm); (case a2 => k_asm); k_whole); intro gpq)); (try walk_say "OWN SrcC"))) | walk1 | (dsimp only; walk1) | (dsimp only [List.cons_append, List.nil_append]; walk1)); (try (goal_lacks LoopAtV TurnsAt; (first | (fail_if_success k_fold; skip) | (refine foldQ ?_; intro qk))))) | ((with_reducible show wpAny _ _ _ _ _ _); dsimp only) | (leave1; walk_say "STEP leave1"; try dsimp only) | fail "no step"))
  (try (with_reducible show wpAny _ _ (pyIter (Value.ref _)) _ _ _))
  rename IsRange _ _ _ _ _ _ _ _ => rgX; rename Fr g' _ _ _ => lF; rename News g' _ _ _ => lN
  k_dflt (refine' few_range (rs0 := [[], [], [], [], [], [], [], [], [_, _, _, _], [_, _, _, _], [_, _, _, _], [_, _, _, _], [_, _, _, _], [_, _, _, _], [_, _, _, _], [_, _, _, _]]) rfl rgX lF lN (cn := L' + 1 + 1) (cb := L' + 1 + 1 + 1) (cr := L' + 1) ?hcn ?hcb ?hcr ?hRA ?don ?dob ?dor ?ncb ?ncr ?nbr ?hR ?hlen ?turn ?done)
  case hcr => k_dflt k_mem
  case dor => with_reducible assumption
  case hRA => k_dflt k_mem
  case hcn => k_dflt k_mem
  case hcb => k_dflt k_mem
  case don => with_reducible assumption
  case dob => with_reducible assumption
  case ncb => (show @Ne Nat _ _; omega)
  case ncr => (show @Ne Nat _ _; omega)
  case nbr => (show @Ne Nat _ _; omega)
  case hR =>
    refine ⟨rfl, rfl, fun i hi => ?_⟩
    have hc := nat16 i hi
    rcases hc with rfl | rfl | rfl | rfl | rfl | rfl | rfl | rfl | rfl | rfl | rfl | rfl | rfl | rfl | rfl | rfl
    all_goals exact ⟨_, _, _, rfl, by k_dflt k_mem, by k_ne, by first | exact .nil | exact .cons _ _ (.cons _ _ (.cons _ _ (.cons _ _ .nil)))⟩
  case hlen =>
    intro j h8 h16
    have hc := nat8to15 j h16 h8
    rcases hc with rfl | rfl | rfl | rfl | rfl | rfl | rfl | rfl <;> rfl
  case turn =>
    intro i k t on vn ob vb orr vs n0 rs tl h tk I oI hi hk9 d1 d2 d3 S hL1 hL2 k1 k7 F' N' offI nt1 nt2 nt3 nn hcI
    obtain ⟨nn1, nn2, nn3, nn4, nn5, nn6⟩ := nn
    (repeat' (first | (k_unfold; (try dsimp only)) | (k_end; wrow_close) | ((first | ((fail_if_success (goal_lacks exec)); (with_reducible show wpAny _ _ (exec _ _) _ _ _); ((with_reducible show wpAny _ _ (exec (Stmt.For (Expr.Name ..) (Expr.Call ..) (_ :: _) [] _) _) _ _ _); (first | (with_reducible (first | (k_here; (rename Fr _ _ _ _ => lFpq); (with_unfolding_all refine' For_turns lFpq ?_; k_whole)))) | (k_here; (rename Fr _ _ _ _ => lFpq); (with_unfolding_all refine' For_turns lFpq ?_; k_whole))); (try walk_say "OWN exec For Name Call cons nil"))) | ((fail_if_success (goal_lacks subscriptTail)); (with_reducible show wpAny _ _ (subscriptTail _ _ _ _) _ _ _); (first | ((with_reducible show wpAny _ _ (subscriptTail (Expr.Name ..) (Expr.Name ..) (Value.ref _) (Value.int _ _)) _ _ _); (first | (with_reducible (first | (k_here; (with_reducible show wpAny _ _ (subscriptTail _ _ (Value.ref _) (Value.int _ _)) _ _ _); k_dflt (refine' sub_at ?k1 ?k2 ?k4 ?k5 ?k3 ?_ ?k6; (case k1 => k_asm); (case k2 => k_mem); (case k4 => decide); (case k5 => decide); (case k3 => rfl); (case k6 => with_unfolding_all rfl); k_whole)))) | (k_here; (with_reducible show wpAny _ _ (subscriptTail _ _ (Value.ref _) (Value.int _ _)) _ _ _); k_dflt (refine' sub_at ?k1 ?k2 ?k4 ?k5 ?k3 ?_ ?k6; (case k1 => k_asm); (case k2 => k_mem); (case k4 => decide); (case k5 => decide); (case k3 => rfl); (case k6 => with_unfolding_all rfl); k_whole))); (try walk_say "OWN subscriptTail Name Name ref int")) | ((with_reducible show wpAny _ _ (subscriptTail (Expr.Subscript ..) (Expr.Name ..) (Value.ref _) (Value.int _ _)) _ _ _); (first | (with_reducible (first | (k_here; (with_reducible show wpAny _ _ (subscriptTail _ _ (Value.ref _) (Value.int _ _)) _ _ _); k_dflt (refine' ksa_sub ?k1 ?k2 ?k3 ?k4 ?k5 ?k6 ?_ ?k7; (case k1 => k_asm); (case k2 => with_reducible assumption); (case k3 => with_reducible assumption); (case k4 => decide); (case k5 => (first | (refine Int.lt_of_lt_of_eq ?_ (congrArg Nat.cast (by with_reducible assumption)).symm; decide))); (case k6 => decide); (case k7 => with_unfolding_all rfl); k_whole); intro _))) | (k_here; (with_reducible show wpAny _ _ (subscriptTail _ _ (Value.ref _) (Value.int _ _)) _ _ _); k_dflt (refine' ksa_sub ?k1 ?k2 ?k3 ?k4 ?k5 ?k6 ?_ ?k7; (case k1 => k_asm); (case k2 => with_reducible assumption); (case k3 => with_reducible assumption); (case k4 => decide); (case k5 => (first | (refine Int.lt_of_lt_of_eq ?_ (congrArg Nat.cast (by with_reducible assumption)).symm; decide))); (case k6 => decide); (case k7 => with_unfolding_all rfl); k_whole); intro _)); (try walk_say "OWN subscriptTail Subscript Name ref int")) | ((with_reducible show wpAny _ _ (subscriptTail (Expr.Name ..) (Expr.BinOp ..) (Value.ref _) (Value.int _ _)) _ _ _); (first | (with_reducible (first | (k_here; (with_reducible show wpAny _ _ (subscriptTail _ _ (Value.ref _) (Value.int _ _)) _ _ _); k_dflt (refine' sub_rows ?k1 ?k2 ?k3 ?k4 ?k5 ?k6 ?_ ?k7; (case k1 => k_asm); (case k2 => k_mem); (case k3 => exact FewSt.rows (by with_reducible assumption)); (case k4 => exact fun p hp => by simp only [List.mem_cons]; grind); (case k5 => omega); (case k6 => omega); (case k7 => with_unfolding_all rfl); k_whole); intro b9q ws9q n9q hm9q hi9q))) | (k_here; (with_reducible show wpAny _ _ (subscriptTail _ _ (Value.ref _) (Value.int _ _)) _ _ _); k_dflt (refine' sub_rows ?k1 ?k2 ?k3 ?k4 ?k5 ?k6 ?_ ?k7; (case k1 => k_asm); (case k2 => k_mem); (case k3 => exact FewSt.rows (by with_reducible assumption)); (case k4 => exact fun p hp => by simp only [List.mem_cons]; grind); (case k5 => omega); (case k6 => omega); (case k7 => with_unfolding_all rfl); k_whole); intro b9q ws9q n9q hm9q hi9q)); (try walk_say "OWN subscriptTail Name BinOp ref int")) | ((first | (with_reducible (first | (k_here; (with_reducible show wpAny _ _ (subscriptTail _ _ (Value.ref _) (Value.int _ _)) _ _ _); k_dflt (refine' sub_at ?k1 ?k2 ?k4 ?k5 ?k3 ?_ ?k6; (case k1 => k_asm); (case k2 => k_mem); (case k4 => decide); (case k5 => decide); (case k3 => rfl); (case k6 => with_unfolding_all rfl); k_whole)))) | (k_here; (with_reducible show wpAny _ _ (subscriptTail _ _ (Value.ref _) (Value.int _ _)) _ _ _); k_dflt (refine' sub_at ?k1 ?k2 ?k4 ?k5 ?k3 ?_ ?k6; (case k1 => k_asm); (case k2 => k_mem); (case k4 => decide); (case k5 => decide); (case k3 => rfl); (case k6 => with_unfolding_all rfl); k_whole))); (try walk_say "OWN subscriptTail")))) | ((fail_if_success (goal_lacks binaryOp)); (with_reducible show wpAny _ _ (binaryOp _ _ _) _ _ _); ((with_reducible show wpAny _ _ (binaryOp Operator.Mult (Value.int _ _) (Value.int _ _)) _ _ _); (first | (with_reducible (first | (k_here; with_reducible refine mul_int ?_ (IntMulOk.of_left (by decide))))) | (k_here; with_reducible refine mul_int ?_ (IntMulOk.of_left (by decide)))); (try walk_say "OWN binaryOp Mult int int"))) | ((fail_if_success (goal_lacks setItem)); (with_reducible show wpAny _ _ (setItem _ _ _) _ _ _); ((first | (with_reducible (first | (k_here; (with_reducible show wpAny _ _ (setItem (Value.ref _) (Value.int _ _) (Value.ref _)) _ _ _); k_dflt (refine' set_rows6 ?F ?N ?hl ?h0 ?h1 ?n1 ?n2 ?n3 ?n4 ?n5 ?n6 ?nt ?_; (case F => k_asm); (case N => k_asm); (case hl => exact (FewSt.rows (by with_reducible assumption)).1); (case h0 => omega); (case h1 => omega); (case n1 => k_ne); (case n2 => k_ne); (case n3 => k_ne); (case n4 => k_ne); (case n5 => k_ne); (case n6 => k_ne); (case nt => with_reducible assumption); k_whole); intro hpq Fpq Npq))) | (k_here; (with_reducible show wpAny _ _ (setItem (Value.ref _) (Value.int _ _) (Value.ref _)) _ _ _); k_dflt (refine' set_rows6 ?F ?N ?hl ?h0 ?h1 ?n1 ?n2 ?n3 ?n4 ?n5 ?n6 ?nt ?_; (case F => k_asm); (case N => k_asm); (case hl => exact (FewSt.rows (by with_reducible assumption)).1); (case h0 => omega); (case h1 => omega); (case n1 => k_ne); (case n2 => k_ne); (case n3 => k_ne); (case n4 => k_ne); (case n5 => k_ne); (case n6 => k_ne); (case nt => with_reducible assumption); k_whole); intro hpq Fpq Npq)); (try walk_say "OWN setItem ref int"))) | ((fail_if_success (goal_lacks eval)); (with_reducible show wpAny _ _ (eval _ _) _ _ _); (first | ((with_reducible show wpAny _ _ (eval (Expr.ListComp ..) _) _ _ _); (first | (with_reducible (first | ((with_reducible show wpAny _ _ (eval _ _) _ _ _); k_here; k_dflt (refine' compC' ?a0 ?a1 ?a2 ?a3 ?a4 ?a5 ?a6 ?a7 ?_; (case a0 => k_asm); (case a1 => rfl); (case a2 => with_unfolding_all rfl); (case a3 => rfl); (case a4 => rfl); (case a5 => rfl); (case a6 => assumption); (case a7 => size_fits); k_whole)) | ((with_reducible show wpAny _ _ (eval _ _) _ _ _); k_here; lcf_look; lcg_calm; k_dflt (refine LCg.ListComp_U (F₀ := by k_asm) (by with_unfolding_all rfl) (by decide) (by rfl) (by decide) (by rfl) ?_); k_dflt lcg_toSrc) | ((with_reducible show wpAny _ _ (eval _ _) _ _ _); k_here; lcg_look; lcg_calm; k_dflt (refine LCg.ListComp_U (F₀ := by k_asm) (by rfl) (by decide) (by rfl) (by decide) (by rfl) ?_); k_dflt lcg_toSrc))) | ((with_reducible show wpAny _ _ (eval _ _) _ _ _); k_here; k_dflt (refine' compC' ?a0 ?a1 ?a2 ?a3 ?a4 ?a5 ?a6 ?a7 ?_; (case a0 => k_asm); (case a1 => rfl); (case a2 => with_unfolding_all rfl); (case a3 => rfl); (case a4 => rfl); (case a5 => rfl); (case a6 => assumption); (case a7 => size_fits); k_whole)) | ((with_reducible show wpAny _ _ (eval _ _) _ _ _); k_here; lcf_look; lcg_calm; k_dflt (refine LCg.ListComp_U (F₀ := by k_asm) (by with_unfolding_all rfl) (by decide) (by rfl) (by decide) (by rfl) ?_); k_dflt lcg_toSrc) | ((with_reducible show wpAny _ _ (eval _ _) _ _ _); k_here; lcg_look; lcg_calm; k_dflt (refine LCg.ListComp_U (F₀ := by k_asm) (by rfl) (by decide) (by rfl) (by decide) (by rfl) ?_); k_dflt lcg_toSrc)); (try walk_say "OWN eval ListComp")) | ((with_reducible show wpAny _ _ (eval (Expr.Name ..) _) _ _ _); (first | (with_reducible (first | (k_here; (with_reducible show wpAny _ _ (eval (Expr.Name _ _) (compEnvC _ _ _ _)) _ _ _); k_dflt (refine' lcf_cell ?N ?c ?m ?d ?_ ?a ?b; (case a => rfl); (case b => rfl); (case N => k_asm); (case c => rfl); (case m => k_mem); (case d => with_reducible assumption); k_whole)) | (k_here; (with_reducible show wpAny _ _ (eval (Expr.Name _ _) (compEnvC _ _ _ _)) _ _ _); k_dflt (refine' LCgL.ld_own ?N ?m ?d ?x ?_ ?a ?b; (case a => rfl); (case b => rfl); (case N => k_asm); (case m => k_mem); (case d => with_reducible assumption); (case x => with_reducible assumption); k_whole)))) | (k_here; (with_reducible show wpAny _ _ (eval (Expr.Name _ _) (compEnvC _ _ _ _)) _ _ _); k_dflt (refine' lcf_cell ?N ?c ?m ?d ?_ ?a ?b; (case a => rfl); (case b => rfl); (case N => k_asm); (case c => rfl); (case m => k_mem); (case d => with_reducible assumption); k_whole)) | (k_here; (with_reducible show wpAny _ _ (eval (Expr.Name _ _) (compEnvC _ _ _ _)) _ _ _); k_dflt (refine' LCgL.ld_own ?N ?m ?d ?x ?_ ?a ?b; (case a => rfl); (case b => rfl); (case N => k_asm); (case m => k_mem); (case d => with_reducible assumption); (case x => with_reducible assumption); k_whole))); (try walk_say "OWN eval Name")) | ((with_reducible show wpAny _ _ (eval (Expr.IfExp ..) _) _ _ _); (first | (with_reducible (first | (k_here; with_reducible refine ifexp_join ?_))) | (k_here; with_reducible refine ifexp_join ?_)); (try walk_say "OWN eval IfExp")))) | ((fail_if_success (goal_lacks call)); (with_reducible show wpAny _ _ (call _ _) _ _ _); ((with_reducible show wpAny _ _ (call (Value.builtin "min") _) _ _ _); (first | (with_reducible (first | (k_here; (with_reducible show wpAny _ _ (call (Value.builtin _) [Value.int _ _, Value.int _ _]) _ _ _); (with_unfolding_all refine' min_twoZ ?k1 ?k2 ?k3 ?_; (case k1 => with_unfolding_all rfl); (case k2 => k_asm); (case k3 => k_asm); k_whole); intro hpq Mpq tpq kpq Fpq Npq apq) | (k_here; (with_reducible show wpAny _ _ (call (Value.builtin _) [Value.ref _]) _ _ _); (with_unfolding_all refine' min_listZ ?k1 ?k2 ?k3 ?k4 ?k5 ?k6 ?_; (case k1 => k_asm); (case k2 => k_asm); (case k3 => kso_list); (case k4 => l_ints); (case k5 => exact Nat.zero_lt_succ _); (case k6 => with_unfolding_all rfl); k_whole); intro hpq Mpq tpq kpq Fpq Npq apq))) | (k_here; (with_reducible show wpAny _ _ (call (Value.builtin _) [Value.int _ _, Value.int _ _]) _ _ _); (with_unfolding_all refine' min_twoZ ?k1 ?k2 ?k3 ?_; (case k1 => with_unfolding_all rfl); (case k2 => k_asm); (case k3 => k_asm); k_whole); intro hpq Mpq tpq kpq Fpq Npq apq) | (k_here; (with_reducible show wpAny _ _ (call (Value.builtin _) [Value.ref _]) _ _ _); (with_unfolding_all refine' min_listZ ?k1 ?k2 ?k3 ?k4 ?k5 ?k6 ?_; (case k1 => k_asm); (case k2 => k_asm); (case k3 => kso_list); (case k4 => l_ints); (case k5 => exact Nat.zero_lt_succ _); (case k6 => with_unfolding_all rfl); k_whole); intro hpq Mpq tpq kpq Fpq Npq apq)); (try walk_say "OWN call builtin:min"))) | ((fail_if_success (goal_lacks InvEndN)); (with_reducible show InvEndN ..); (repeat clear qk); (repeat clear ek); ((first | (with_reducible (first | k_dflt kst_close)) | k_dflt kst_close); (try walk_say "OWN InvEndN"))) | ((fail_if_success (goal_lacks LCg.CompEnd)); (with_reducible show LCg.CompEnd ..); ((first | (with_reducible (first | first | (k_dflt (refine' ce_int ?a1 ?a2 ?a3 ?a4 ?_; (case a1 => k_asm); (case a2 => k_asm); (case a3 => with_reducible assumption); (case a4 => first | exact True.intro | lcg_src)); intro z9q hz9q) | (k_dflt (refine' ce_same ?a1 ?a2 ?a3 ?a4 ?_; (case a1 => k_asm); (case a2 => k_asm); (case a3 => with_reducible assumption); (case a4 => first | exact True.intro | lcg_src))) | (k_dflt (refine' ce_one ?a1 ?a2 ?a3 ?a5 ?a4 ?_; (case a1 => k_asm); (case a2 => k_asm); (case a3 => with_reducible assumption); (case a5 => with_reducible assumption); (case a4 => first | exact True.intro | lcg_src))) | k_dflt lcg_end)) | first | (k_dflt (refine' ce_int ?a1 ?a2 ?a3 ?a4 ?_; (case a1 => k_asm); (case a2 => k_asm); (case a3 => with_reducible assumption); (case a4 => first | exact True.intro | lcg_src)); intro z9q hz9q) | (k_dflt (refine' ce_same ?a1 ?a2 ?a3 ?a4 ?_; (case a1 => k_asm); (case a2 => k_asm); (case a3 => with_reducible assumption); (case a4 => first | exact True.intro | lcg_src))) | (k_dflt (refine' ce_one ?a1 ?a2 ?a3 ?a5 ?a4 ?_; (case a1 => k_asm); (case a2 => k_asm); (case a3 => with_reducible assumption); (case a5 => with_reducible assumption); (case a4 => first | exact True.intro | lcg_src))) | k_dflt lcg_end); (try walk_say "OWN CompEnd"))) | ((fail_if_success (goal_lacks LCg.CompRest)); (with_reducible show LCg.CompRest ..); ((first | (with_reducible (first | (with_unfolding_all first | (refine LCg.CompRest.succ ?_; intro vpq Ipq oIpq Cpq oCpq Dpq mpq hpq tkpq Epq hvpq hCpq hxpq Fpq Npq offpq nepq; clear nepq; (first | lcg_open hvpq | (obtain ⟨t9pq, hv9pq⟩ := hvpq; subst hv9pq))) | refine LCg.CompRest.zero ?_))) | (with_unfolding_all first | (refine LCg.CompRest.succ ?_; intro vpq Ipq oIpq Cpq oCpq Dpq mpq hpq tkpq Epq hvpq hCpq hxpq Fpq Npq offpq nepq; clear nepq; (first | lcg_open hvpq | (obtain ⟨t9pq, hv9pq⟩ := hvpq; subst hv9pq))) | refine LCg.CompRest.zero ?_)); (try walk_say "OWN CompRest"))) | ((fail_if_success (goal_lacks LCg.FinE)); (with_reducible show LCg.FinE ..); ((first | (with_reducible (first | ((unfold LCg.FinE); intro Dpq hpq tkpq Fpq Npq o1pq; (try simp only [List.nil_append, List.cons_append] at Npq); (try dsimp only)))) | ((unfold LCg.FinE); intro Dpq hpq tkpq Fpq Npq o1pq; (try simp only [List.nil_append, List.cons_append] at Npq); (try dsimp only))); (try walk_say "OWN FinE"))) | ((fail_if_success (goal_lacks CRestC)); (with_reducible show CRestC ..); ((first | (with_reducible (first | (with_unfolding_all first | (refine CRestC.succ ?_; intro vpq Ipq oIpq Cpq oCpq cpq ocpq Dpq hpq tkpq Epq hvpq hdpq Fpq Npq offpq nepq offcpq; clear nepq; lcg_open hvpq) | refine CRestC.zero ?_))) | (with_unfolding_all first | (refine CRestC.succ ?_; intro vpq Ipq oIpq Cpq oCpq cpq ocpq Dpq hpq tkpq Epq hvpq hdpq Fpq Npq offpq nepq offcpq; clear nepq; lcg_open hvpq) | refine CRestC.zero ?_)); (try walk_say "OWN CRestC"))) | ((fail_if_success (goal_lacks RestC)); (with_reducible show RestC ..); ((first | (with_reducible (first | (k_dflt (refine restC_one (by with_reducible assumption) (by with_reducible assumption) ?_)))) | (k_dflt (refine restC_one (by with_reducible assumption) (by with_reducible assumption) ?_))); (try walk_say "OWN RestC"))) | ((fail_if_success (goal_lacks SrcC)); (with_reducible show SrcC ..); ((first | (with_reducible (first | (k_here; k_dflt (refine' SrcC.mk ?a1 ?a2 ?_; (case a1 => k_asm); (case a2 => k_asm); k_whole); intro gpq))) | (k_here; k_dflt (refine' SrcC.mk ?a1 ?a2 ?_; (case a1 => k_asm); (case a2 => k_asm); k_whole); intro gpq)); (try walk_say "OWN SrcC"))) | walk1 | (dsimp only; walk1) | (dsimp only [List.cons_append, List.nil_append]; walk1)); (try (goal_lacks LoopAtV TurnsAt; (first | (fail_if_success k_fold; skip) | (refine foldQ ?_; intro qk))))) | ((with_reducible show wpAny _ _ _ _ _ _); dsimp only) | (leave1; walk_say "STEP leave1"; try dsimp only) | fail "no step"))
    rename Fr g' _ _ _ => eF; rename News g' _ _ ((_, LCg.lst [_, _, _, _]) :: (_, LCg.lst _) :: (_, _) :: _) => eN
    k_dflt (refine' few_turn_end eN eF ?q1 ?q2 ?q3 ?q4 ?q5 ?q6 ?q7 ?q8 ?x0 ?x1 ?x2 ?x3 ?y0 ?y1 ?y2 ?y3 ?m0 ?m1 ?m2 ?m3 ?z0 ?z1 ?z2 ?z3)
    case q1 => with_reducible assumption
    case q2 => with_reducible assumption
    case q3 => with_reducible assumption
    case q4 => with_reducible assumption
    case q5 => with_reducible assumption
    case q6 => with_reducible assumption
    case q7 => assumption
    case q8 => rfl
    case x0 => with_reducible assumption
    case x1 => with_reducible assumption
    case x2 => with_reducible assumption
    case x3 => with_reducible assumption
    case y0 => with_reducible assumption
    case y1 => with_reducible assumption
    case y2 => with_reducible assumption
    case y3 => with_reducible assumption
    case m0 => with_reducible assumption
    case m1 => with_reducible assumption
    case m2 => with_reducible assumption
    case m3 => with_reducible assumption
    case z0 => assumption
    case z1 => assumption
    case z2 => assumption
    case z3 => assumption
  case done =>
    intro on ob orr vs n0 rs tl h tk d3 S F' N'
    (repeat' (first | (k_unfold; (try dsimp only)) | (k_end; wrow_close) | ((first | ((fail_if_success (goal_lacks exec)); (with_reducible show wpAny _ _ (exec _ _) _ _ _); ((with_reducible show wpAny _ _ (exec (Stmt.For (Expr.Name ..) (Expr.Call ..) (_ :: _) [] _) _) _ _ _); (first | (with_reducible (first | (k_here; (rename Fr _ _ _ _ => lFpq); (with_unfolding_all refine' For_turns lFpq ?_; k_whole)))) | (k_here; (rename Fr _ _ _ _ => lFpq); (with_unfolding_all refine' For_turns lFpq ?_; k_whole))); (try walk_say "OWN exec For Name Call cons nil"))) | ((fail_if_success (goal_lacks subscriptTail)); (with_reducible show wpAny _ _ (subscriptTail _ _ _ _) _ _ _); (first | ((with_reducible show wpAny _ _ (subscriptTail (Expr.Name ..) (Expr.Name ..) (Value.ref _) (Value.int _ _)) _ _ _); (first | (with_reducible (first | (k_here; (with_reducible show wpAny _ _ (subscriptTail _ _ (Value.ref _) (Value.int _ _)) _ _ _); k_dflt (refine' sub_at ?k1 ?k2 ?k4 ?k5 ?k3 ?_ ?k6; (case k1 => k_asm); (case k2 => k_mem); (case k4 => decide); (case k5 => decide); (case k3 => rfl); (case k6 => with_unfolding_all rfl); k_whole)))) | (k_here; (with_reducible show wpAny _ _ (subscriptTail _ _ (Value.ref _) (Value.int _ _)) _ _ _); k_dflt (refine' sub_at ?k1 ?k2 ?k4 ?k5 ?k3 ?_ ?k6; (case k1 => k_asm); (case k2 => k_mem); (case k4 => decide); (case k5 => decide); (case k3 => rfl); (case k6 => with_unfolding_all rfl); k_whole))); (try walk_say "OWN subscriptTail Name Name ref int")) | ((with_reducible show wpAny _ _ (subscriptTail (Expr.Subscript ..) (Expr.Name ..) (Value.ref _) (Value.int _ _)) _ _ _); (first | (with_reducible (first | (k_here; (with_reducible show wpAny _ _ (subscriptTail _ _ (Value.ref _) (Value.int _ _)) _ _ _); k_dflt (refine' ksa_sub ?k1 ?k2 ?k3 ?k4 ?k5 ?k6 ?_ ?k7; (case k1 => k_asm); (case k2 => with_reducible assumption); (case k3 => with_reducible assumption); (case k4 => decide); (case k5 => (first | (refine Int.lt_of_lt_of_eq ?_ (congrArg Nat.cast (by with_reducible assumption)).symm; decide))); (case k6 => decide); (case k7 => with_unfolding_all rfl); k_whole); intro _))) | (k_here; (with_reducible show wpAny _ _ (subscriptTail _ _ (Value.ref _) (Value.int _ _)) _ _ _); k_dflt (refine' ksa_sub ?k1 ?k2 ?k3 ?k4 ?k5 ?k6 ?_ ?k7; (case k1 => k_asm); (case k2 => with_reducible assumption); (case k3 => with_reducible assumption); (case k4 => decide); (case k5 => (first | (refine Int.lt_of_lt_of_eq ?_ (congrArg Nat.cast (by with_reducible assumption)).symm; decide))); (case k6 => decide); (case k7 => with_unfolding_all rfl); k_whole); intro _)); (try walk_say "OWN subscriptTail Subscript Name ref int")) | ((with_reducible show wpAny _ _ (subscriptTail (Expr.Name ..) (Expr.BinOp ..) (Value.ref _) (Value.int _ _)) _ _ _); (first | (with_reducible (first | (k_here; (with_reducible show wpAny _ _ (subscriptTail _ _ (Value.ref _) (Value.int _ _)) _ _ _); k_dflt (refine' sub_rows ?k1 ?k2 ?k3 ?k4 ?k5 ?k6 ?_ ?k7; (case k1 => k_asm); (case k2 => k_mem); (case k3 => exact FewSt.rows (by with_reducible assumption)); (case k4 => exact fun p hp => by simp only [List.mem_cons]; grind); (case k5 => omega); (case k6 => omega); (case k7 => with_unfolding_all rfl); k_whole); intro b9q ws9q n9q hm9q hi9q))) | (k_here; (with_reducible show wpAny _ _ (subscriptTail _ _ (Value.ref _) (Value.int _ _)) _ _ _); k_dflt (refine' sub_rows ?k1 ?k2 ?k3 ?k4 ?k5 ?k6 ?_ ?k7; (case k1 => k_asm); (case k2 => k_mem); (case k3 => exact FewSt.rows (by with_reducible assumption)); (case k4 => exact fun p hp => by simp only [List.mem_cons]; grind); (case k5 => omega); (case k6 => omega); (case k7 => with_unfolding_all rfl); k_whole); intro b9q ws9q n9q hm9q hi9q)); (try walk_say "OWN subscriptTail Name BinOp ref int")) | ((first | (with_reducible (first | (k_here; (with_reducible show wpAny _ _ (subscriptTail _ _ (Value.ref _) (Value.int _ _)) _ _ _); k_dflt (refine' sub_at ?k1 ?k2 ?k4 ?k5 ?k3 ?_ ?k6; (case k1 => k_asm); (case k2 => k_mem); (case k4 => decide); (case k5 => decide); (case k3 => rfl); (case k6 => with_unfolding_all rfl); k_whole)))) | (k_here; (with_reducible show wpAny _ _ (subscriptTail _ _ (Value.ref _) (Value.int _ _)) _ _ _); k_dflt (refine' sub_at ?k1 ?k2 ?k4 ?k5 ?k3 ?_ ?k6; (case k1 => k_asm); (case k2 => k_mem); (case k4 => decide); (case k5 => decide); (case k3 => rfl); (case k6 => with_unfolding_all rfl); k_whole))); (try walk_say "OWN subscriptTail")))) | ((fail_if_success (goal_lacks binaryOp)); (with_reducible show wpAny _ _ (binaryOp _ _ _) _ _ _); ((with_reducible show wpAny _ _ (binaryOp Operator.Mult (Value.int _ _) (Value.int _ _)) _ _ _); (first | (with_reducible (first | (k_here; with_reducible refine mul_int ?_ (IntMulOk.of_left (by decide))))) | (k_here; with_reducible refine mul_int ?_ (IntMulOk.of_left (by decide)))); (try walk_say "OWN binaryOp Mult int int"))) | ((fail_if_success (goal_lacks setItem)); (with_reducible show wpAny _ _ (setItem _ _ _) _ _ _); ((first | (with_reducible (first | (k_here; (with_reducible show wpAny _ _ (setItem (Value.ref _) (Value.int _ _) (Value.ref _)) _ _ _); k_dflt (refine' set_rows6 ?F ?N ?hl ?h0 ?h1 ?n1 ?n2 ?n3 ?n4 ?n5 ?n6 ?nt ?_; (case F => k_asm); (case N => k_asm); (case hl => exact (FewSt.rows (by with_reducible assumption)).1); (case h0 => omega); (case h1 => omega); (case n1 => k_ne); (case n2 => k_ne); (case n3 => k_ne); (case n4 => k_ne); (case n5 => k_ne); (case n6 => k_ne); (case nt => with_reducible assumption); k_whole); intro hpq Fpq Npq))) | (k_here; (with_reducible show wpAny _ _ (setItem (Value.ref _) (Value.int _ _) (Value.ref _)) _ _ _); k_dflt (refine' set_rows6 ?F ?N ?hl ?h0 ?h1 ?n1 ?n2 ?n3 ?n4 ?n5 ?n6 ?nt ?_; (case F => k_asm); (case N => k_asm); (case hl => exact (FewSt.rows (by with_reducible assumption)).1); (case h0 => omega); (case h1 => omega); (case n1 => k_ne); (case n2 => k_ne); (case n3 => k_ne); (case n4 => k_ne); (case n5 => k_ne); (case n6 => k_ne); (case nt => with_reducible assumption); k_whole); intro hpq Fpq Npq)); (try walk_say "OWN setItem ref int"))) | ((fail_if_success (goal_lacks eval)); (with_reducible show wpAny _ _ (eval _ _) _ _ _); (first | ((with_reducible show wpAny _ _ (eval (Expr.ListComp ..) _) _ _ _); (first | (with_reducible (first | ((with_reducible show wpAny _ _ (eval _ _) _ _ _); k_here; k_dflt (refine' compC' ?a0 ?a1 ?a2 ?a3 ?a4 ?a5 ?a6 ?a7 ?_; (case a0 => k_asm); (case a1 => rfl); (case a2 => with_unfolding_all rfl); (case a3 => rfl); (case a4 => rfl); (case a5 => rfl); (case a6 => assumption); (case a7 => size_fits); k_whole)) | ((with_reducible show wpAny _ _ (eval _ _) _ _ _); k_here; lcf_look; lcg_calm; k_dflt (refine LCg.ListComp_U (F₀ := by k_asm) (by with_unfolding_all rfl) (by decide) (by rfl) (by decide) (by rfl) ?_); k_dflt lcg_toSrc) | ((with_reducible show wpAny _ _ (eval _ _) _ _ _); k_here; lcg_look; lcg_calm; k_dflt (refine LCg.ListComp_U (F₀ := by k_asm) (by rfl) (by decide) (by rfl) (by decide) (by rfl) ?_); k_dflt lcg_toSrc))) | ((with_reducible show wpAny _ _ (eval _ _) _ _ _); k_here; k_dflt (refine' compC' ?a0 ?a1 ?a2 ?a3 ?a4 ?a5 ?a6 ?a7 ?_; (case a0 => k_asm); (case a1 => rfl); (case a2 => with_unfolding_all rfl); (case a3 => rfl); (case a4 => rfl); (case a5 => rfl); (case a6 => assumption); (case a7 => size_fits); k_whole)) | ((with_reducible show wpAny _ _ (eval _ _) _ _ _); k_here; lcf_look; lcg_calm; k_dflt (refine LCg.ListComp_U (F₀ := by k_asm) (by with_unfolding_all rfl) (by decide) (by rfl) (by decide) (by rfl) ?_); k_dflt lcg_toSrc) | ((with_reducible show wpAny _ _ (eval _ _) _ _ _); k_here; lcg_look; lcg_calm; k_dflt (refine LCg.ListComp_U (F₀ := by k_asm) (by rfl) (by decide) (by rfl) (by decide) (by rfl) ?_); k_dflt lcg_toSrc)); (try walk_say "OWN eval ListComp")) | ((with_reducible show wpAny _ _ (eval (Expr.Name ..) _) _ _ _); (first | (with_reducible (first | (k_here; (with_reducible show wpAny _ _ (eval (Expr.Name _ _) (compEnvC _ _ _ _)) _ _ _); k_dflt (refine' lcf_cell ?N ?c ?m ?d ?_ ?a ?b; (case a => rfl); (case b => rfl); (case N => k_asm); (case c => rfl); (case m => k_mem); (case d => with_reducible assumption); k_whole)) | (k_here; (with_reducible show wpAny _ _ (eval (Expr.Name _ _) (compEnvC _ _ _ _)) _ _ _); k_dflt (refine' LCgL.ld_own ?N ?m ?d ?x ?_ ?a ?b; (case a => rfl); (case b => rfl); (case N => k_asm); (case m => k_mem); (case d => with_reducible assumption); (case x => with_reducible assumption); k_whole)))) | (k_here; (with_reducible show wpAny _ _ (eval (Expr.Name _ _) (compEnvC _ _ _ _)) _ _ _); k_dflt (refine' lcf_cell ?N ?c ?m ?d ?_ ?a ?b; (case a => rfl); (case b => rfl); (case N => k_asm); (case c => rfl); (case m => k_mem); (case d => with_reducible assumption); k_whole)) | (k_here; (with_reducible show wpAny _ _ (eval (Expr.Name _ _) (compEnvC _ _ _ _)) _ _ _); k_dflt (refine' LCgL.ld_own ?N ?m ?d ?x ?_ ?a ?b; (case a => rfl); (case b => rfl); (case N => k_asm); (case m => k_mem); (case d => with_reducible assumption); (case x => with_reducible assumption); k_whole))); (try walk_say "OWN eval Name")) | ((with_reducible show wpAny _ _ (eval (Expr.IfExp ..) _) _ _ _); (first | (with_reducible (first | (k_here; with_reducible refine ifexp_join ?_))) | (k_here; with_reducible refine ifexp_join ?_)); (try walk_say "OWN eval IfExp")))) | ((fail_if_success (goal_lacks call)); (with_reducible show wpAny _ _ (call _ _) _ _ _); ((with_reducible show wpAny _ _ (call (Value.builtin "min") _) _ _ _); (first | (with_reducible (first | (k_here; (with_reducible show wpAny _ _ (call (Value.builtin _) [Value.int _ _, Value.int _ _]) _ _ _); (with_unfolding_all refine' min_twoZ ?k1 ?k2 ?k3 ?_; (case k1 => with_unfolding_all rfl); (case k2 => k_asm); (case k3 => k_asm); k_whole); intro hpq Mpq tpq kpq Fpq Npq apq) | (k_here; (with_reducible show wpAny _ _ (call (Value.builtin _) [Value.ref _]) _ _ _); (with_unfolding_all refine' min_listZ ?k1 ?k2 ?k3 ?k4 ?k5 ?k6 ?_; (case k1 => k_asm); (case k2 => k_asm); (case k3 => kso_list); (case k4 => l_ints); (case k5 => exact Nat.zero_lt_succ _); (case k6 => with_unfolding_all rfl); k_whole); intro hpq Mpq tpq kpq Fpq Npq apq))) | (k_here; (with_reducible show wpAny _ _ (call (Value.builtin _) [Value.int _ _, Value.int _ _]) _ _ _); (with_unfolding_all refine' min_twoZ ?k1 ?k2 ?k3 ?_; (case k1 => with_unfolding_all rfl); (case k2 => k_asm); (case k3 => k_asm); k_whole); intro hpq Mpq tpq kpq Fpq Npq apq) | (k_here; (with_reducible show wpAny _ _ (call (Value.builtin _) [Value.ref _]) _ _ _); (with_unfolding_all refine' min_listZ ?k1 ?k2 ?k3 ?k4 ?k5 ?k6 ?_; (case k1 => k_asm); (case k2 => k_asm); (case k3 => kso_list); (case k4 => l_ints); (case k5 => exact Nat.zero_lt_succ _); (case k6 => with_unfolding_all rfl); k_whole); intro hpq Mpq tpq kpq Fpq Npq apq)); (try walk_say "OWN call builtin:min"))) | ((fail_if_success (goal_lacks InvEndN)); (with_reducible show InvEndN ..); (repeat clear qk); (repeat clear ek); ((first | (with_reducible (first | k_dflt kst_close)) | k_dflt kst_close); (try walk_say "OWN InvEndN"))) | ((fail_if_success (goal_lacks LCg.CompEnd)); (with_reducible show LCg.CompEnd ..); ((first | (with_reducible (first | first | (k_dflt (refine' ce_int ?a1 ?a2 ?a3 ?a4 ?_; (case a1 => k_asm); (case a2 => k_asm); (case a3 => with_reducible assumption); (case a4 => first | exact True.intro | lcg_src)); intro z9q hz9q) | (k_dflt (refine' ce_same ?a1 ?a2 ?a3 ?a4 ?_; (case a1 => k_asm); (case a2 => k_asm); (case a3 => with_reducible assumption); (case a4 => first | exact True.intro | lcg_src))) | (k_dflt (refine' ce_one ?a1 ?a2 ?a3 ?a5 ?a4 ?_; (case a1 => k_asm); (case a2 => k_asm); (case a3 => with_reducible assumption); (case a5 => with_reducible assumption); (case a4 => first | exact True.intro | lcg_src))) | k_dflt lcg_end)) | first | (k_dflt (refine' ce_int ?a1 ?a2 ?a3 ?a4 ?_; (case a1 => k_asm); (case a2 => k_asm); (case a3 => with_reducible assumption); (case a4 => first | exact True.intro | lcg_src)); intro z9q hz9q) | (k_dflt (refine' ce_same ?a1 ?a2 ?a3 ?a4 ?_; (case a1 => k_asm); (case a2 => k_asm); (case a3 => with_reducible assumption); (case a4 => first | exact True.intro | lcg_src))) | (k_dflt (refine' ce_one ?a1 ?a2 ?a3 ?a5 ?a4 ?_; (case a1 => k_asm); (case a2 => k_asm); (case a3 => with_reducible assumption); (case a5 => with_reducible assumption); (case a4 => first | exact True.intro | lcg_src))) | k_dflt lcg_end); (try walk_say "OWN CompEnd"))) | ((fail_if_success (goal_lacks LCg.CompRest)); (with_reducible show LCg.CompRest ..); ((first | (with_reducible (first | (with_unfolding_all first | (refine LCg.CompRest.succ ?_; intro vpq Ipq oIpq Cpq oCpq Dpq mpq hpq tkpq Epq hvpq hCpq hxpq Fpq Npq offpq nepq; clear nepq; (first | lcg_open hvpq | (obtain ⟨t9pq, hv9pq⟩ := hvpq; subst hv9pq))) | refine LCg.CompRest.zero ?_))) | (with_unfolding_all first | (refine LCg.CompRest.succ ?_; intro vpq Ipq oIpq Cpq oCpq Dpq mpq hpq tkpq Epq hvpq hCpq hxpq Fpq Npq offpq nepq; clear nepq; (first | lcg_open hvpq | (obtain ⟨t9pq, hv9pq⟩ := hvpq; subst hv9pq))) | refine LCg.CompRest.zero ?_)); (try walk_say "OWN CompRest"))) | ((fail_if_success (goal_lacks LCg.FinE)); (with_reducible show LCg.FinE ..); ((first | (with_reducible (first | ((unfold LCg.FinE); intro Dpq hpq tkpq Fpq Npq o1pq; (try simp only [List.nil_append, List.cons_append] at Npq); (try dsimp only)))) | ((unfold LCg.FinE); intro Dpq hpq tkpq Fpq Npq o1pq; (try simp only [List.nil_append, List.cons_append] at Npq); (try dsimp only))); (try walk_say "OWN FinE"))) | ((fail_if_success (goal_lacks CRestC)); (with_reducible show CRestC ..); ((first | (with_reducible (first | (with_unfolding_all first | (refine CRestC.succ ?_; intro vpq Ipq oIpq Cpq oCpq cpq ocpq Dpq hpq tkpq Epq hvpq hdpq Fpq Npq offpq nepq offcpq; clear nepq; lcg_open hvpq) | refine CRestC.zero ?_))) | (with_unfolding_all first | (refine CRestC.succ ?_; intro vpq Ipq oIpq Cpq oCpq cpq ocpq Dpq hpq tkpq Epq hvpq hdpq Fpq Npq offpq nepq offcpq; clear nepq; lcg_open hvpq) | refine CRestC.zero ?_)); (try walk_say "OWN CRestC"))) | ((fail_if_success (goal_lacks RestC)); (with_reducible show RestC ..); ((first | (with_reducible (first | (k_dflt (refine restC_one (by with_reducible assumption) (by with_reducible assumption) ?_)))) | (k_dflt (refine restC_one (by with_reducible assumption) (by with_reducible assumption) ?_))); (try walk_say "OWN RestC"))) | ((fail_if_success (goal_lacks SrcC)); (with_reducible show SrcC ..); ((first | (with_reducible (first | (k_here; k_dflt (refine' SrcC.mk ?a1 ?a2 ?_; (case a1 => k_asm); (case a2 => k_asm); k_whole); intro gpq))) | (k_here; k_dflt (refine' SrcC.mk ?a1 ?a2 ?_; (case a1 => k_asm); (case a2 => k_asm); k_whole); intro gpq)); (try walk_say "OWN SrcC"))) | walk1 | (dsimp only; walk1) | (dsimp only [List.cons_append, List.nil_append]; walk1)); (try (goal_lacks LoopAtV TurnsAt; (first | (fail_if_success k_fold; skip) | (refine foldQ ?_; intro qk))))) | ((with_reducible show wpAny _ _ _ _ _ _); dsimp only) | (leave1; walk_say "STEP leave1"; try dsimp only) | fail "no step"))
    rename Fr h₀ L _ m => kF; rename News h₀ L _ _ => kN; rename Fr g' _ _ _ => kF'
    refine ret _ vs n0 rs tl _ _ kF (newsPick (KZ _ _ _ kF' kN fun p hp => nomatch hp) fun p hp => ?_) S.rows ?_ fun j h1 h2 => S.lens j (by omega) h2
    · simp only [List.mem_cons, List.mem_append] at hp ⊢
      grind
    · rw [S.fold]
      refine congrArg (fun r => List.foldl fewStep r (downKs 7 7)) (few0_eq ?_ ?_ ?_ ?_ ?_ ?_ ?_ ?_)
      all_goals exact leaf_eq (by with_reducible assumption) (by with_reducible assumption) (by with_reducible assumption) (by with_reducible assumption) (by assumption) (by assumption) (by assumption) (by assumption)
end Mine
end -- part Few
section -- part Cells
open PySem PySem.W PyProof.Rows
set_option maxRecDepth 100000
set_option maxHeartbeats 1000000
namespace Mine
theorem cl_start {c0 c1 c2 c3 c4 c5 c6 c7 : Int} : [c0, c1, c2, c3, c4, c5, c6, c7].length = 8 ∧ (0 : Int) ≤ 0 ∧ (0 : Int) < 8 := ⟨rfl, by decide, by decide⟩
theorem cl_turn {cells : List Int} {place x : Int} (h : cells.length = 8) : (cells.set place.toNat x).length = 8 ∧ 0 ≤ (place + 1).fmod 8 ∧ (place + 1).fmod 8 < 8 := by
  refine ⟨by rw [List.length_set, h], ?_, ?_⟩ <;> (rw [Int.fmod_eq_emod_of_nonneg _ (by decide)]; omega)
local macro_rules | `(tactic| k_ne) => `(tactic| first | exact ne_offN (by with_reducible assumption) (by k_mem) | exact Ne.symm (ne_offN (by with_reducible assumption) (by k_mem)) | (refine neN ?_; (try dsimp only); omega))
local macro_rules | `(tactic| k_mem) => `(tactic| ((repeat (first | (with_reducible exact List.mem_cons_self) | (with_reducible refine List.mem_cons_of_mem _ ?_))); done))
theorem cells_spec (w : World) (p : Program) (loose : List Str) (mean : ExcName → Option Value) (mg mb : Str → Option Value) : ∀ {l : Addr} {vs : List Value} {ns : List Int} {dp un : Nat} {gd : Option (List Code)} {cn : Str} {cs : Scope} {a : Addr} {ccd : Value} {cl : List (Str × Addr)} {outer : List Env} {A₀ : Around} {base h₀ : Heap} {L : Addr} {m : Str → Option Value} {news : List (Addr × Obj)} {s : Shared} {Q E : Value → Shared → Prop}
    (B : Below A₀ base outer h₀) (F : Fr h₀ L s.heap m) (X : (hd.heap_1 w.params).In h₀) (N : News h₀ L s.heap news) (T : Top p loose mean mg mb h₀) (hk : cs.kind = .function)
    (hl : h₀.IsList l vs.toArray) (hi : IntsAre vs ns) (hlen : ns.length ≤ 63)
    (hd : dp + 20 < recursionLimit) (hu : un + 8 * 20 < cLine)
    (ret : ∀ ca cvs n0 xs h' tk', Fr h₀ L h' m → News h₀ L h' ((ca, W.listOf (List.toArray cvs) n0) :: news) → IntsAre cvs xs → xs.length = 8 → Q (.ref ca) { s with heap := h', toks := tk' }),
    wpAny (model Challenge.rw_rl0031_01.row.prog w) (ktrTop dp un gd cn cs L a ccd cl outer) (call (.ref 147) [.ref l]) Q E s := by
  k_fill
  k_with_none
  k_with "pyIter ref" => k_state (fun pre cells place => cells.length = 8 ∧ 0 ≤ place ∧ place < 8) "cells" "place"
  k_with "state" => first | exact cl_start | exact cl_turn (by with_reducible assumption)
  intro l vs ns dp un gd cn cs a ccd cl outer A₀ base h₀ L m news s Q E B F X N T hk hl hi hlen hd hu ret
  have Nl : News h₀ L s.heap [] := fun p hp => nomatch hp
  have hv : vs.length ≤ 63 := by rw [hi.length]; exact hlen
  refine wpAny_call ?_
  k_dflt (refine' frz_def ?k1 ?k2 ?k3 ?k4 ?k5 ?kA ?kF ?kK ?k6 ?k7 ?k8 ?k9 ?kB ?_ ?c2 ?c3 ?c4 ?c5; (case kA => exact rfl); (case kF => exact rfl); (case kK => assumption); (case k1 => k_asm); (case k2 => k_asm); (case k3 => k_asm); (case k4 => exact Nl); (case k5 => k_asm); (case k6 => k_is); (case k7 => k_is); (case k8 => ktr_room); (case k9 => exact BindsTo.of_eq rfl); (case c5 => decide); (case kB => exact locs rfl); (case c2 => exact rfl); (case c3 => exact rfl); (case c4 => exact rfl); k_whole; intro g' L' h' FG' F' N' B' X' T' Z'; (try dsimp only); (try k_fold))
  have KZ := fun (h' : Heap) (m' : Str → Option Value) (nw : List (Addr × Obj)) (F' : Fr g' L' h' m') (kN : News h₀ L h' nw) (hl : ∀ p ∈ _, p ∈ nw) => frz_keep Z' Nl N F' kN hl
  have hl' : g'.IsList l vs.toArray := hl.at fun o e => FG'.keep _ _ e
  clear N Nl Z'
  (repeat' (first | (k_unfold; (try dsimp only)) | (k_end; wrow_close) | ((first | ((fail_if_success (goal_lacks binaryOp)); (with_reducible show wpAny _ _ (binaryOp _ _ _) _ _ _); ((with_reducible show wpAny _ _ (binaryOp Operator.Mult (Value.int _ _) (Value.int _ _)) _ _ _); (first | (with_reducible (first | (k_here; with_reducible refine mul_int ?_ (IntMulOk.of_left (by decide))))) | (k_here; with_reducible refine mul_int ?_ (IntMulOk.of_left (by decide)))); (try walk_say "OWN binaryOp Mult int int"))) | ((fail_if_success (goal_lacks eval)); (with_reducible show wpAny _ _ (eval _ _) _ _ _); (first | ((with_reducible show wpAny _ _ (eval (Expr.ListComp ..) _) _ _ _); (first | (with_reducible (first | ((with_reducible show wpAny _ _ (eval _ _) _ _ _); k_here; lcg_look; lcg_calm; k_dflt (refine LCg.ListComp_U (F₀ := by k_asm) (by rfl) (by decide) (by rfl) (by decide) (by rfl) ?_); k_dflt lcg_toSrc))) | ((with_reducible show wpAny _ _ (eval _ _) _ _ _); k_here; lcg_look; lcg_calm; k_dflt (refine LCg.ListComp_U (F₀ := by k_asm) (by rfl) (by decide) (by rfl) (by decide) (by rfl) ?_); k_dflt lcg_toSrc)); (try walk_say "OWN eval ListComp")) | ((with_reducible show wpAny _ _ (eval (Expr.Name ..) _) _ _ _); (first | (with_reducible (first | (k_here; (with_reducible show wpAny _ _ (eval (Expr.Name _ _) (compEnvC _ _ _ _)) _ _ _); k_dflt (refine' lcf_cell ?N ?c ?m ?d ?_ ?a ?b; (case a => rfl); (case b => rfl); (case N => k_asm); (case c => rfl); (case m => k_mem); (case d => with_reducible assumption); k_whole)) | (k_here; (with_reducible show wpAny _ _ (eval (Expr.Name _ _) (compEnvC _ _ _ _)) _ _ _); k_dflt (refine' LCgL.ld_own ?N ?m ?d ?x ?_ ?a ?b; (case a => rfl); (case b => rfl); (case N => k_asm); (case m => k_mem); (case d => with_reducible assumption); (case x => with_reducible assumption); k_whole)))) | (k_here; (with_reducible show wpAny _ _ (eval (Expr.Name _ _) (compEnvC _ _ _ _)) _ _ _); k_dflt (refine' lcf_cell ?N ?c ?m ?d ?_ ?a ?b; (case a => rfl); (case b => rfl); (case N => k_asm); (case c => rfl); (case m => k_mem); (case d => with_reducible assumption); k_whole)) | (k_here; (with_reducible show wpAny _ _ (eval (Expr.Name _ _) (compEnvC _ _ _ _)) _ _ _); k_dflt (refine' LCgL.ld_own ?N ?m ?d ?x ?_ ?a ?b; (case a => rfl); (case b => rfl); (case N => k_asm); (case m => k_mem); (case d => with_reducible assumption); (case x => with_reducible assumption); k_whole))); (try walk_say "OWN eval Name")))) | ((fail_if_success (goal_lacks InvEndN)); (with_reducible show InvEndN ..); (repeat clear qk); (repeat clear ek); ((first | (with_reducible (first | k_dflt kst_close)) | k_dflt kst_close); (try walk_say "OWN InvEndN"))) | ((fail_if_success (goal_lacks LCg.CompEnd)); (with_reducible show LCg.CompEnd ..); ((first | (with_reducible (first | first | (k_dflt (refine' ce_int ?a1 ?a2 ?a3 ?a4 ?_; (case a1 => k_asm); (case a2 => k_asm); (case a3 => with_reducible assumption); (case a4 => first | exact True.intro | lcg_src)); intro z9q hz9q) | (k_dflt (refine' ce_same ?a1 ?a2 ?a3 ?a4 ?_; (case a1 => k_asm); (case a2 => k_asm); (case a3 => with_reducible assumption); (case a4 => first | exact True.intro | lcg_src))) | (k_dflt (refine' ce_one ?a1 ?a2 ?a3 ?a5 ?a4 ?_; (case a1 => k_asm); (case a2 => k_asm); (case a3 => with_reducible assumption); (case a5 => with_reducible assumption); (case a4 => first | exact True.intro | lcg_src))) | k_dflt lcg_end)) | first | (k_dflt (refine' ce_int ?a1 ?a2 ?a3 ?a4 ?_; (case a1 => k_asm); (case a2 => k_asm); (case a3 => with_reducible assumption); (case a4 => first | exact True.intro | lcg_src)); intro z9q hz9q) | (k_dflt (refine' ce_same ?a1 ?a2 ?a3 ?a4 ?_; (case a1 => k_asm); (case a2 => k_asm); (case a3 => with_reducible assumption); (case a4 => first | exact True.intro | lcg_src))) | (k_dflt (refine' ce_one ?a1 ?a2 ?a3 ?a5 ?a4 ?_; (case a1 => k_asm); (case a2 => k_asm); (case a3 => with_reducible assumption); (case a5 => with_reducible assumption); (case a4 => first | exact True.intro | lcg_src))) | k_dflt lcg_end); (try walk_say "OWN CompEnd"))) | ((fail_if_success (goal_lacks LCg.CompRest)); (with_reducible show LCg.CompRest ..); ((first | (with_reducible (first | (with_unfolding_all first | (refine LCg.CompRest.succ ?_; intro vpq Ipq oIpq Cpq oCpq Dpq mpq hpq tkpq Epq hvpq hCpq hxpq Fpq Npq offpq nepq; clear nepq; (first | lcg_open hvpq | (obtain ⟨t9pq, hv9pq⟩ := hvpq; subst hv9pq))) | refine LCg.CompRest.zero ?_))) | (with_unfolding_all first | (refine LCg.CompRest.succ ?_; intro vpq Ipq oIpq Cpq oCpq Dpq mpq hpq tkpq Epq hvpq hCpq hxpq Fpq Npq offpq nepq; clear nepq; (first | lcg_open hvpq | (obtain ⟨t9pq, hv9pq⟩ := hvpq; subst hv9pq))) | refine LCg.CompRest.zero ?_)); (try walk_say "OWN CompRest"))) | ((fail_if_success (goal_lacks LCg.FinE)); (with_reducible show LCg.FinE ..); ((first | (with_reducible (first | ((unfold LCg.FinE); intro Dpq hpq tkpq Fpq Npq o1pq; (try simp only [List.nil_append, List.cons_append] at Npq); (try dsimp only)))) | ((unfold LCg.FinE); intro Dpq hpq tkpq Fpq Npq o1pq; (try simp only [List.nil_append, List.cons_append] at Npq); (try dsimp only))); (try walk_say "OWN FinE"))) | ((fail_if_success (goal_lacks CRestC)); (with_reducible show CRestC ..); ((first | (with_reducible (first | (with_unfolding_all first | (refine CRestC.succ ?_; intro vpq Ipq oIpq Cpq oCpq cpq ocpq Dpq hpq tkpq Epq hvpq hdpq Fpq Npq offpq nepq offcpq; clear nepq; lcg_open hvpq) | refine CRestC.zero ?_))) | (with_unfolding_all first | (refine CRestC.succ ?_; intro vpq Ipq oIpq Cpq oCpq cpq ocpq Dpq hpq tkpq Epq hvpq hdpq Fpq Npq offpq nepq offcpq; clear nepq; lcg_open hvpq) | refine CRestC.zero ?_)); (try walk_say "OWN CRestC"))) | ((fail_if_success (goal_lacks RestC)); (with_reducible show RestC ..); ((first | (with_reducible (first | (k_dflt (refine restC_one (by with_reducible assumption) (by with_reducible assumption) ?_)))) | (k_dflt (refine restC_one (by with_reducible assumption) (by with_reducible assumption) ?_))); (try walk_say "OWN RestC"))) | walk1 | (dsimp only; walk1) | (dsimp only [List.cons_append, List.nil_append]; walk1)); (try (goal_lacks LoopAtV TurnsAt; (first | (fail_if_success k_fold; skip) | (refine foldQ ?_; intro qk))))) | ((with_reducible show wpAny _ _ _ _ _ _); dsimp only) | (leave1; walk_say "STEP leave1"; try dsimp only) | fail "no step"))
  rename Fr h₀ L _ m => kF; rename News h₀ L _ _ => kN; rename Fr g' _ _ _ => kF'
  refine' ret _ _ _ _ _ _ kF (newsPick (KZ _ _ _ kF' kN fun p hp => nomatch hp) ?ka) ?kb ?kc
  case ka => k_dflt refine List.forall_mem_cons.mpr ⟨List.mem_append.mpr (.inl (by k_mem)), fun p hp => List.mem_append.mpr (.inr hp)⟩
  case kb => with_reducible assumption
  case kc => with_reducible assumption
end Mine
end -- part Cells
section -- part Front
open PySem PySem.W PyProof.Rows
set_option maxRecDepth 100000
set_option maxHeartbeats 1000000
namespace Mine
def fronts : List String := ["", "", "a", "b", "aa", "ab", "ba", "bb", "aaa", "aab", "aba", "abb", "baa", "bab", "bba", "bbb"]
def frontS (k : Int) : Str := Str.ofString (fronts.getD k.toNat "")
def SayIs (k : Int) (v : Value) : Prop := (k = 0 ∧ v = .bool true) ∨ (k = 1 ∧ v = .bool false) ∨ (k = 2 ∧ ∃ t, v = .str (Str.ofString "north") t) ∨ (k = 3 ∧ ∃ t, v = .str (Str.ofString "south") t)
local macro_rules | `(tactic| size_fits) => `(tactic| (rw [sizeLine_eq]; (with_reducible refine Nat.le_of_ble_eq_true ?_); with_unfolding_all rfl))
local macro_rules | `(tactic| k_ne) => `(tactic| first | exact ne_offN (by with_reducible assumption) (by k_mem) | exact Ne.symm (ne_offN (by with_reducible assumption) (by k_mem)) | (refine neN ?_; (try dsimp only); omega))
local macro_rules | `(tactic| k_mem) => `(tactic| ((repeat (first | (with_reducible exact List.mem_cons_self) | (with_reducible refine List.mem_cons_of_mem _ ?_))); done))
theorem front_stepN : ∀ i : Nat, i < 16 → 2 ≤ i → frontS ((i : Int).fdiv 2) ++ Txt.item (Str.ofString "ab") ((i : Int).fmod 2) = frontS (i : Int) := by decide +kernel
theorem front_step {k : Int} (h : 2 ≤ k ∧ k < 16) : frontS (k.fdiv 2) ++ Txt.item (Str.ofString "ab") (k.fmod 2) = frontS k := by
  have e := front_stepN k.toNat (by omega) (by omega)
  rwa [Int.toNat_of_nonneg (by omega)] at e
theorem frontS_short {k : Int} (h : 1 ≤ k ∧ k < 16) : (frontS k).length ≤ 3 := by
  have e : ∀ i : Nat, i < 16 → (Str.ofString (fronts.getD i "")).length ≤ 3 := by decide +kernel
  exact e k.toNat (by omega)
theorem front_rest {k k' : Int} {fr : Str} (h : frontS k' ++ fr = frontS k) (hk : 1 ≤ k ∧ k < 16) : fr.length ≤ 3 := by
  have e : (frontS k' ++ fr).length = (frontS k').length + fr.length := Str.length_append ..
  rw [h] at e
  have := frontS_short hk
  omega
theorem half_of {k : Int} (h : 2 ≤ k) : 1 ≤ k.fdiv 2 ∧ k.fdiv 2 < k := by
  rw [Int.fdiv_eq_ediv_of_nonneg _ (by decide)]; omega
theorem fmod2_in (k : Int) : 0 ≤ k.fmod 2 ∧ k.fmod 2 < 2 := by
  rw [Int.fmod_eq_emod_of_nonneg _ (by decide)]; omega
theorem front_next {k k' : Int} {fr : Str} (h : frontS k' ++ fr = frontS k) (h2 : 2 ≤ k') (h16 : k' < 16) : frontS (k'.fdiv 2) ++ (Txt.item (Str.ofString "ab") (k'.fmod 2) ++ fr) = frontS k := by
  rw [← Str.append_assoc, front_step ⟨h2, h16⟩, h]
def fFr (k : Int) (t1 : Tok) (fr : Str) (t2 : Tok) : Str → Option Value :=
  fun z => if z = Str.ofString "front" then some (.str fr t2) else if z = Str.ofString "node" then some (.int k t1) else none
theorem fr_turn {h₀ h : Heap} {L : Addr} {m m' : Str → Option Value} (F : Fr h₀ L h m) (e : ∀ z, m z = m' z) : Fr h₀ L h m' := funext e ▸ F
theorem front_loop {prog : Program} {w : World} {A : Around} {E : Value → Shared → Prop} {env : Env} {test : PySem.Expr} {body orelse : List Stmt} {Q : Flow → Shared → Prop} {s : Shared} {k : Int} {g : Heap} {L : Addr}
    (hE : PassesOwn (model prog w) A env E)
    (turn : ∀ (k' : Int) fr t1 t2 h tk, 1 ≤ k' → k' ≤ k → frontS k' ++ fr = frontS k → Fr g L h (fFr k' t1 fr t2) → News g L h [] →
      (∀ (k'' : Int) fr' t1' t2' h' tk', 1 ≤ k'' → k'' < k' → frontS k'' ++ fr' = frontS k → Fr g L h' (fFr k'' t1' fr' t2') → News g L h' [] → WhlRest prog w A E env test body orelse Q 0 { s with heap := h', toks := tk' }) →
      wpAny (model prog w) A (isTrue test env (eval test env)) (fun b s₂ => WhlIf b (wpAny (model prog w) A (execs body env) (WhlPost prog w A E env test body orelse Q 0) E s₂) (wpAny (model prog w) A (execs orelse env) Q E s₂)) E { s with heap := h, toks := tk }) :
    ∀ (n : Nat) (k' : Int) fr t1 t2 h tk, k'.toNat ≤ n → 1 ≤ k' → k' ≤ k → frontS k' ++ fr = frontS k → Fr g L h (fFr k' t1 fr t2) → News g L h [] → WhlRest prog w A E env test body orelse Q 0 { s with heap := h, toks := tk } := by
  intro n
  induction n with
  | zero => intro k' fr t1 t2 h tk hn h1; omega
  | succ n ih =>
    intro k' fr t1 t2 h tk hn h1 h2 e F N
    show WhlRest prog w A E env test body orelse Q (0 + 1) _
    exact whl_turn hE (turn k' fr t1 t2 h tk h1 h2 e F N fun k'' fr' t1' t2' h' tk' a b c F' N' => ih k'' fr' t1' t2' h' tk' (by omega) a (by omega) c F' N')
theorem ab_len (k : Int) : (Txt.item (Str.ofString "ab") (k.fmod 2)).length ≤ 1 := by
  have h : k.fmod 2 = 0 ∨ k.fmod 2 = 1 := by have := fmod2_in k; omega
  rcases h with h | h <;> rw [h] <;> decide +kernel
theorem front_frame2 {k k2 : Int} {fr f2 : Str} {t1 t2 ta tb : Tok} : ∀ z, (if z = Str.ofString "node" then some (.int k2 ta) else if z = Str.ofString "front" then some (.str f2 tb) else fFr k t1 fr t2 z) = fFr k2 ta f2 tb z := by
  intro z
  unfold fFr
  by_cases h : z = Str.ofString "node"
  · subst h; rfl
  · rw [if_neg h]
    by_cases h2 : z = Str.ofString "front"
    · rw [if_pos h2, if_pos h2]
    · rw [if_neg h2, if_neg h2, if_neg h2, if_neg h, if_neg h]
theorem front_frame {k : Int} {t0 t2 : Tok} : ∀ z, (if z = Str.ofString "front" then some (.str (Str.ofString "") t2) else List.lookup z [(Str.ofString "node", Value.int k t0)]) = fFr k t0 (Str.ofString "") t2 z := by
  intro z
  unfold fFr
  split
  · rfl
  · by_cases h : z = Str.ofString "node"
    · rw [if_pos h, h]; simp [List.lookup]
    · rw [if_neg h]; simp [List.lookup, beq_eq_false_iff_ne.mpr h]
theorem append_none {a : Str} : a ++ Str.ofString "" = a := Str.ext' (by rw [Str.cps_append]; exact Array.append_empty)
theorem none_append {a b : Str} (h : frontS 1 ++ a = b) : a = b := by
  rw [← h]; exact Str.ext' (by rw [Str.cps_append]; exact (Array.empty_append).symm)
theorem front_spec (w : World) (p : Program) (loose : List Str) (mean : ExcName → Option Value) (mg mb : Str → Option Value) : ∀ {k : Int} {t0 : Tok} {dp un : Nat} {gd : Option (List Code)} {cn : Str} {cs : Scope} {a : Addr} {ccd : Value} {cl : List (Str × Addr)} {outer : List Env} {A₀ : Around} {base h₀ : Heap} {L : Addr} {m : Str → Option Value} {news : List (Addr × Obj)} {s : Shared} {Q E : Value → Shared → Prop}
    (B : Below A₀ base outer h₀) (F : Fr h₀ L s.heap m) (X : (hd.heap_1 w.params).In h₀) (N : News h₀ L s.heap news) (T : Top p loose mean mg mb h₀) (hk : cs.kind = .function) (hb : 1 ≤ k ∧ k < 16)
    (hd : dp + 20 < recursionLimit) (hu : un + 8 * 20 < cLine)
    (ret : ∀ t h' tk', Fr h₀ L h' m → News h₀ L h' news → Q (.str (frontS k) t) { s with heap := h', toks := tk' }),
    wpAny (model Challenge.rw_rl0031_01.row.prog w) (ktrTop dp un gd cn cs L a ccd cl outer) (call (.ref 171) [.int k t0]) Q E s := by
  k_fill
  k_with_none
  intro k t0 dp un gd cn cs a ccd cl outer A₀ base h₀ L m news s Q E B F X N T hk hb hd hu ret
  have Nl : News h₀ L s.heap [] := fun p hp => nomatch hp
  refine wpAny_call ?_
  k_dflt (refine' frz_def ?k1 ?k2 ?k3 ?k4 ?k5 ?kA ?kF ?kK ?k6 ?k7 ?k8 ?k9 ?kB ?_ ?c2 ?c3 ?c4 ?c5; (case kA => exact rfl); (case kF => exact rfl); (case kK => assumption); (case k1 => k_asm); (case k2 => k_asm); (case k3 => k_asm); (case k4 => exact Nl); (case k5 => k_asm); (case k6 => k_is); (case k7 => k_is); (case k8 => ktr_room); (case k9 => exact BindsTo.of_eq rfl); (case c5 => decide); (case kB => exact locs rfl); (case c2 => exact rfl); (case c3 => exact rfl); (case c4 => exact rfl); k_whole; intro g' L' h' FG' F' N' B' X' T' Z'; (try dsimp only); (try k_fold))
  have KZ := fun (h' : Heap) (m' : Str → Option Value) (nw : List (Addr × Obj)) (F' : Fr g' L' h' m') (kN : News h₀ L h' nw) (hl : ∀ p ∈ _, p ∈ nw) => frz_keep Z' Nl N F' kN hl
  clear N Nl Z'
  (repeat' ((fail_if_success (with_reducible show wpAny _ _ (exec (Stmt.While ..) _) _ _ _)); (first | (k_unfold; (try dsimp only)) | (k_end; wrow_close) | ((first | walk1 | (dsimp only; walk1))) | fail "no step")))
  k_dflt (refine whl_start 0 ?_)
  rename Fr g' _ _ _ => lF; rename News g' _ _ _ => lN
  k_dflt (refine' front_loop (k := k) (L := L') ?hE ?turn k.toNat k (Str.ofString "") t0 _ _ _ (Nat.le_refl _) hb.1 (Int.le_refl _) ?he (fr_turn (m := fun y => if y = Str.ofString "front" then some (Value.str (Str.ofString "") _) else List.lookup y [(Str.ofString "node", Value.int k t0)]) lF ?hz) lN)
  case hE => first | passes_own | with_unfolding_all passes_own
  case he => exact append_none
  case hz => exact front_frame
  case turn =>
    intro k' fr t1 t2 h tk h1 h2 e F' N' IH
    clear lF lN
    have hc : k' = 1 ∨ 2 ≤ k' := by omega
    rcases hc with rfl | hk2
    · (repeat' (first | (k_unfold; (try dsimp only)) | (k_end; wrow_close) | ((first | ((with_reducible show wpAny _ _ (binaryOp _ _ _) _ _ _); ((with_reducible show wpAny _ _ (binaryOp Operator.Add (Value.str _ _) (Value.str _ _)) _ _ _); (first | (with_reducible (first | (k_dflt (refine add_str (hsz := ?hz) ?_; (case hz => (have h9 := front_rest e hb; rw [sizeLine_eq]; exact Nat.le_trans (Nat.add_le_add (ab_len _) h9) (by decide))); intro t9 tk9)))) | (k_dflt (refine add_str (hsz := ?hz) ?_; (case hz => (have h9 := front_rest e hb; rw [sizeLine_eq]; exact Nat.le_trans (Nat.add_le_add (ab_len _) h9) (by decide))); intro t9 tk9))); (try walk_say "OWN binaryOp Add str str"))) | ((with_reducible show WhlRest ..); ((first | (with_reducible (first | (k_dflt (refine' IH (k'.fdiv 2) (Txt.item (Str.ofString "ab") (k'.fmod 2) ++ fr) _ _ _ _ ?a1 ?a2 ?a3 (fr_turn (by assumption) ?a4) (by assumption); (case a1 => exact (half_of hk2).1); (case a2 => exact (half_of hk2).2); (case a3 => exact front_next e hk2 (by omega)); (case a4 => exact front_frame2))))) | (k_dflt (refine' IH (k'.fdiv 2) (Txt.item (Str.ofString "ab") (k'.fmod 2) ++ fr) _ _ _ _ ?a1 ?a2 ?a3 (fr_turn (by assumption) ?a4) (by assumption); (case a1 => exact (half_of hk2).1); (case a2 => exact (half_of hk2).2); (case a3 => exact front_next e hk2 (by omega)); (case a4 => exact front_frame2)))); (try walk_say "OWN WhlRest"))) | ((with_reducible show WhlIf ..); ((first | (with_reducible (first | (k_dflt (first | (refine WhlIf.yes (decide_eq_true (by omega)) ?_) | (refine WhlIf.no (decide_eq_false (by omega)) ?_))))) | (k_dflt (first | (refine WhlIf.yes (decide_eq_true (by omega)) ?_) | (refine WhlIf.no (decide_eq_false (by omega)) ?_)))); (try walk_say "OWN WhlIf"))) | walk1 | (dsimp only; walk1) | (dsimp only [List.cons_append, List.nil_append]; walk1)); (try (goal_lacks LoopAtV TurnsAt; (first | (fail_if_success k_fold; skip) | (refine foldQ ?_; intro qk))))) | ((with_reducible show wpAny _ _ _ _ _ _); dsimp only) | (leave1; walk_say "STEP leave1"; try dsimp only) | fail "no step"))
      rename Fr h₀ L _ m => kF; rename News h₀ L _ _ => kN; rename Fr g' _ _ _ => kF'
      have e1 : fr = frontS k := none_append e
      subst e1
      exact ret _ _ _ kF (newsPick (KZ _ _ _ kF' kN (fun p hp => nomatch hp)) fun p hp => List.mem_append.mpr (.inr hp))
    · (repeat' (first | (k_unfold; (try dsimp only)) | (k_end; wrow_close) | ((first | ((with_reducible show wpAny _ _ (binaryOp _ _ _) _ _ _); ((with_reducible show wpAny _ _ (binaryOp Operator.Add (Value.str _ _) (Value.str _ _)) _ _ _); (first | (with_reducible (first | (k_dflt (refine add_str (hsz := ?hz) ?_; (case hz => (have h9 := front_rest e hb; rw [sizeLine_eq]; exact Nat.le_trans (Nat.add_le_add (ab_len _) h9) (by decide))); intro t9 tk9)))) | (k_dflt (refine add_str (hsz := ?hz) ?_; (case hz => (have h9 := front_rest e hb; rw [sizeLine_eq]; exact Nat.le_trans (Nat.add_le_add (ab_len _) h9) (by decide))); intro t9 tk9))); (try walk_say "OWN binaryOp Add str str"))) | ((with_reducible show WhlRest ..); ((first | (with_reducible (first | (k_dflt (refine' IH (k'.fdiv 2) (Txt.item (Str.ofString "ab") (k'.fmod 2) ++ fr) _ _ _ _ ?a1 ?a2 ?a3 (fr_turn (by assumption) ?a4) (by assumption); (case a1 => exact (half_of hk2).1); (case a2 => exact (half_of hk2).2); (case a3 => exact front_next e hk2 (by omega)); (case a4 => exact front_frame2))))) | (k_dflt (refine' IH (k'.fdiv 2) (Txt.item (Str.ofString "ab") (k'.fmod 2) ++ fr) _ _ _ _ ?a1 ?a2 ?a3 (fr_turn (by assumption) ?a4) (by assumption); (case a1 => exact (half_of hk2).1); (case a2 => exact (half_of hk2).2); (case a3 => exact front_next e hk2 (by omega)); (case a4 => exact front_frame2)))); (try walk_say "OWN WhlRest"))) | ((with_reducible show WhlIf ..); ((first | (with_reducible (first | (k_dflt (first | (refine WhlIf.yes (decide_eq_true (by omega)) ?_) | (refine WhlIf.no (decide_eq_false (by omega)) ?_))))) | (k_dflt (first | (refine WhlIf.yes (decide_eq_true (by omega)) ?_) | (refine WhlIf.no (decide_eq_false (by omega)) ?_)))); (try walk_say "OWN WhlIf"))) | walk1 | (dsimp only; walk1) | (dsimp only [List.cons_append, List.nil_append]; walk1)); (try (goal_lacks LoopAtV TurnsAt; (first | (fail_if_success k_fold; skip) | (refine foldQ ?_; intro qk))))) | ((with_reducible show wpAny _ _ _ _ _ _); dsimp only) | (leave1; walk_say "STEP leave1"; try dsimp only) | fail "no step"))
theorem saying_spec (w : World) (p : Program) (loose : List Str) (mean : ExcName → Option Value) (mg mb : Str → Option Value) : ∀ {k : Int} {t0 : Tok} {dp un : Nat} {gd : Option (List Code)} {cn : Str} {cs : Scope} {a : Addr} {ccd : Value} {cl : List (Str × Addr)} {outer : List Env} {A₀ : Around} {base h₀ : Heap} {L : Addr} {m : Str → Option Value} {news : List (Addr × Obj)} {s : Shared} {Q E : Value → Shared → Prop}
    (B : Below A₀ base outer h₀) (F : Fr h₀ L s.heap m) (X : (hd.heap_1 w.params).In h₀) (N : News h₀ L s.heap news) (T : Top p loose mean mg mb h₀) (hk : cs.kind = .function) (hb : 0 ≤ k ∧ k < 4)
    (hd : dp + 20 < recursionLimit) (hu : un + 8 * 20 < cLine)
    (ret : ∀ v h' tk', SayIs k v → Fr h₀ L h' m → News h₀ L h' news → Q v { s with heap := h', toks := tk' }),
    wpAny (model Challenge.rw_rl0031_01.row.prog w) (ktrTop dp un gd cn cs L a ccd cl outer) (call (.ref 178) [.int k t0]) Q E s := by
  k_fill
  k_with_none
  intro k t0 dp un gd cn cs a ccd cl outer A₀ base h₀ L m news s Q E B F X N T hk hb hd hu ret
  have Nl : News h₀ L s.heap [] := fun p hp => nomatch hp
  refine wpAny_call ?_
  have hc : k = 0 ∨ k = 1 ∨ k = 2 ∨ k = 3 := by omega
  rcases hc with rfl|rfl|rfl|rfl
  all_goals (
    k_dflt (refine' frz_def ?k1 ?k2 ?k3 ?k4 ?k5 ?kA ?kF ?kK ?k6 ?k7 ?k8 ?k9 ?kB ?_ ?c2 ?c3 ?c4 ?c5; (case kA => exact rfl); (case kF => exact rfl); (case kK => assumption); (case k1 => k_asm); (case k2 => k_asm); (case k3 => k_asm); (case k4 => exact Nl); (case k5 => k_asm); (case k6 => k_is); (case k7 => k_is); (case k8 => ktr_room); (case k9 => exact BindsTo.of_eq rfl); (case c5 => decide); (case kB => exact locs rfl); (case c2 => exact rfl); (case c3 => exact rfl); (case c4 => exact rfl); k_whole; intro g' L' h' FG' F' N' B' X' T' Z'; (try dsimp only); (try k_fold))
    have KZ := fun (h' : Heap) (m' : Str → Option Value) (nw : List (Addr × Obj)) (F' : Fr g' L' h' m') (kN : News h₀ L h' nw) (hl : ∀ p ∈ _, p ∈ nw) => frz_keep Z' Nl N F' kN hl
    clear N Nl Z'
    (repeat' (first | (k_unfold; (try dsimp only)) | (k_end; wrow_close) | ((first | ((with_reducible show wpAny _ _ (binaryOp _ _ _) _ _ _); ((with_reducible show wpAny _ _ (binaryOp Operator.Mult (Value.int _ _) (Value.int _ _)) _ _ _); (first | (with_reducible (first | (k_here; with_reducible refine mul_int ?_ (IntMulOk.of_left (by decide))))) | (k_here; with_reducible refine mul_int ?_ (IntMulOk.of_left (by decide)))); (try walk_say "OWN binaryOp Mult int int"))) | ((with_reducible show wpAny _ _ (eval _ _) _ _ _); (first | ((with_reducible show wpAny _ _ (eval (Expr.ListComp ..) _) _ _ _); (first | (with_reducible (first | ((with_reducible show wpAny _ _ (eval _ _) _ _ _); k_here; lcg_look; lcg_calm; k_dflt (refine LCg.ListComp_U (F₀ := by k_asm) (by rfl) (by decide) (by rfl) (by decide) (by rfl) ?_); k_dflt lcg_toSrc))) | ((with_reducible show wpAny _ _ (eval _ _) _ _ _); k_here; lcg_look; lcg_calm; k_dflt (refine LCg.ListComp_U (F₀ := by k_asm) (by rfl) (by decide) (by rfl) (by decide) (by rfl) ?_); k_dflt lcg_toSrc)); (try walk_say "OWN eval ListComp")) | ((with_reducible show wpAny _ _ (eval (Expr.Name ..) _) _ _ _); (first | (with_reducible (first | (k_here; (with_reducible show wpAny _ _ (eval (Expr.Name _ _) (compEnvC _ _ _ _)) _ _ _); k_dflt (refine' lcf_cell ?N ?c ?m ?d ?_ ?a ?b; (case a => rfl); (case b => rfl); (case N => k_asm); (case c => rfl); (case m => k_mem); (case d => with_reducible assumption); k_whole)) | (k_here; (with_reducible show wpAny _ _ (eval (Expr.Name _ _) (compEnvC _ _ _ _)) _ _ _); k_dflt (refine' LCgL.ld_own ?N ?m ?d ?x ?_ ?a ?b; (case a => rfl); (case b => rfl); (case N => k_asm); (case m => k_mem); (case d => with_reducible assumption); (case x => with_reducible assumption); k_whole)))) | (k_here; (with_reducible show wpAny _ _ (eval (Expr.Name _ _) (compEnvC _ _ _ _)) _ _ _); k_dflt (refine' lcf_cell ?N ?c ?m ?d ?_ ?a ?b; (case a => rfl); (case b => rfl); (case N => k_asm); (case c => rfl); (case m => k_mem); (case d => with_reducible assumption); k_whole)) | (k_here; (with_reducible show wpAny _ _ (eval (Expr.Name _ _) (compEnvC _ _ _ _)) _ _ _); k_dflt (refine' LCgL.ld_own ?N ?m ?d ?x ?_ ?a ?b; (case a => rfl); (case b => rfl); (case N => k_asm); (case m => k_mem); (case d => with_reducible assumption); (case x => with_reducible assumption); k_whole))); (try walk_say "OWN eval Name")))) | ((with_reducible show InvEndN ..); (repeat clear qk); (repeat clear ek); ((first | (with_reducible (first | k_dflt kst_close)) | k_dflt kst_close); (try walk_say "OWN InvEndN"))) | ((with_reducible show LCg.CompEnd ..); ((first | (with_reducible (first | first | (k_dflt (refine' ce_int ?a1 ?a2 ?a3 ?a4 ?_; (case a1 => k_asm); (case a2 => k_asm); (case a3 => with_reducible assumption); (case a4 => first | exact True.intro | lcg_src)); intro z9 hz9) | (k_dflt (refine' ce_same ?a1 ?a2 ?a3 ?a4 ?_; (case a1 => k_asm); (case a2 => k_asm); (case a3 => with_reducible assumption); (case a4 => first | exact True.intro | lcg_src))) | (k_dflt (refine' ce_one ?a1 ?a2 ?a3 ?a5 ?a4 ?_; (case a1 => k_asm); (case a2 => k_asm); (case a3 => with_reducible assumption); (case a5 => with_reducible assumption); (case a4 => first | exact True.intro | lcg_src))) | k_dflt lcg_end)) | first | (k_dflt (refine' ce_int ?a1 ?a2 ?a3 ?a4 ?_; (case a1 => k_asm); (case a2 => k_asm); (case a3 => with_reducible assumption); (case a4 => first | exact True.intro | lcg_src)); intro z9 hz9) | (k_dflt (refine' ce_same ?a1 ?a2 ?a3 ?a4 ?_; (case a1 => k_asm); (case a2 => k_asm); (case a3 => with_reducible assumption); (case a4 => first | exact True.intro | lcg_src))) | (k_dflt (refine' ce_one ?a1 ?a2 ?a3 ?a5 ?a4 ?_; (case a1 => k_asm); (case a2 => k_asm); (case a3 => with_reducible assumption); (case a5 => with_reducible assumption); (case a4 => first | exact True.intro | lcg_src))) | k_dflt lcg_end); (try walk_say "OWN CompEnd"))) | ((with_reducible show LCg.CompRest ..); ((first | (with_reducible (first | (with_unfolding_all first | (refine LCg.CompRest.succ ?_; intro v' I' oI' C' oC' D' m' h' tk' E' hv' hC' hx' F' N' off' ne'; clear ne'; (first | lcg_open hv' | (obtain ⟨t9', hv9'⟩ := hv'; subst hv9'))) | refine LCg.CompRest.zero ?_))) | (with_unfolding_all first | (refine LCg.CompRest.succ ?_; intro v' I' oI' C' oC' D' m' h' tk' E' hv' hC' hx' F' N' off' ne'; clear ne'; (first | lcg_open hv' | (obtain ⟨t9', hv9'⟩ := hv'; subst hv9'))) | refine LCg.CompRest.zero ?_)); (try walk_say "OWN CompRest"))) | ((with_reducible show LCg.FinE ..); ((first | (with_reducible (first | ((unfold LCg.FinE); intro D' h' tk' F' N' o1'; (try simp only [List.nil_append, List.cons_append] at N'); (try dsimp only)))) | ((unfold LCg.FinE); intro D' h' tk' F' N' o1'; (try simp only [List.nil_append, List.cons_append] at N'); (try dsimp only))); (try walk_say "OWN FinE"))) | ((with_reducible show CRestC ..); ((first | (with_reducible (first | (with_unfolding_all first | (refine CRestC.succ ?_; intro v' I' oI' C' oC' c' oc' D' h' tk' E' hv' hd' F' N' off' ne' offc'; clear ne'; lcg_open hv') | refine CRestC.zero ?_))) | (with_unfolding_all first | (refine CRestC.succ ?_; intro v' I' oI' C' oC' c' oc' D' h' tk' E' hv' hd' F' N' off' ne' offc'; clear ne'; lcg_open hv') | refine CRestC.zero ?_)); (try walk_say "OWN CRestC"))) | ((with_reducible show RestC ..); ((first | (with_reducible (first | (k_dflt (refine restC_one (by with_reducible assumption) (by with_reducible assumption) ?_)))) | (k_dflt (refine restC_one (by with_reducible assumption) (by with_reducible assumption) ?_))); (try walk_say "OWN RestC"))) | walk1 | (dsimp only; walk1) | (dsimp only [List.cons_append, List.nil_append]; walk1)); (try (goal_lacks LoopAtV TurnsAt; (first | (fail_if_success k_fold; skip) | (refine foldQ ?_; intro qk))))) | ((with_reducible show wpAny _ _ _ _ _ _); dsimp only) | (leave1; walk_say "STEP leave1"; try dsimp only) | fail "no step"))
    rename Fr h₀ L _ m => kF; rename News h₀ L _ _ => kN; rename Fr g' _ _ _ => kF'
    exact ret _ _ _ (by simp [SayIs]) kF (newsPick (KZ _ _ _ kF' kN (fun p hp => nomatch hp)) fun p hp => List.mem_append.mpr (.inr hp)))
end Mine
end -- part Front
section -- part Rule
open PySem PySem.W PyProof.Rows
set_option maxRecDepth 100000
set_option maxHeartbeats 1000000
namespace Mine
/-- what a rule reaches of a name -/
def wS (fr nm : Str) : Int := ((fr.length : Int) + 1) * (if (Txt.slice nm none (some (fr.length : Int)) == fr) = true then 1 else 0)
def LamIs (w : World) (p : Program) (loose : List Str) (mean : ExcName → Option Value) (mg mb : Str → Option Value) (live : List (Addr × Obj)) (f : Addr) (fr : Str) : Prop :=
  ∀ {nm : Str} {t : Tok} {dp un : Nat} {gd : Option (List Code)} {cn : Str} {cs : Scope} {a : Addr} {ccd : Value} {cl : List (Str × Addr)} {outer : List Env} {A₀ : Around} {base h₀ : Heap} {L : Addr} {m : Str → Option Value} {news : List (Addr × Obj)} {s : Shared} {Q E : Value → Shared → Prop}
    (B : Below A₀ base outer h₀) (F : Fr h₀ L s.heap m) (X : (hd.heap_1 w.params).In h₀) (N : News h₀ L s.heap news) (T : Top p loose mean mg mb h₀) (hk : cs.kind = .function) (hsub : ∀ q ∈ live, q ∈ news) (hd : dp + 15 < recursionLimit) (hu : un + 8 * 15 < cLine) (hl : nm.length ≤ 100)
    (ret : ∀ t' h' tk', Fr h₀ L h' m → News h₀ L h' news → Q (.int (wS fr nm) t') { s with heap := h', toks := tk' }),
    wpAny (model Challenge.rw_rl0031_01.row.prog w) (ktrTop dp un gd cn cs L a ccd cl outer) (call (.ref f) [.str nm t]) Q E s
theorem LamIs.mono {w : World} {p : Program} {loose : List Str} {mean : ExcName → Option Value} {mg mb : Str → Option Value} {l l' : List (Addr × Obj)} {f : Addr} {fr : Str} (h : LamIs w p loose mean mg mb l f fr) (hs : ∀ q ∈ l, q ∈ l') : LamIs w p loose mean mg mb l' f fr := by
  intro nm t dp un gd cn cs a ccd cl outer A₀ base h₀ L m news s Q E B F X N T hk hsub hd hu hl ret
  exact h B F X N T hk (fun q hq => hsub q (hs q hq)) hd hu hl ret
/-- the ledger bears a rule for the front fr that says sv -/
def RuleIs (w : World) (p : Program) (loose : List Str) (mean : ExcName → Option Value) (mg mb : Str → Option Value) (l : List (Addr × Obj)) (v : Value) (fr : Str) (sv : Value) : Prop :=
  ∃ r d es n f fd, v = .ref r ∧ (r, instObj 52 d) ∈ l ∧ (d, dictOf es n) ∈ l ∧ (f, ({ cls := .type "function", data := .func fd } : Obj)) ∈ l ∧ getL (Str.ofString "applies_to") es = some (some (.ref f)) ∧ getL (Str.ofString "allowance") es = some (some sv) ∧ LamIs w p loose mean mg mb l f fr
theorem RuleIs.mono {w : World} {p : Program} {loose : List Str} {mean : ExcName → Option Value} {mg mb : Str → Option Value} {l l' : List (Addr × Obj)} {v sv : Value} {fr : Str} (h : RuleIs w p loose mean mg mb l v fr sv) (hs : ∀ q ∈ l, q ∈ l') : RuleIs w p loose mean mg mb l' v fr sv :=
  let ⟨r, d, es, n, f, fd, e, h1, h2, h3, h4, h5, h6⟩ := h
  ⟨r, d, es, n, f, fd, e, hs _ h1, hs _ h2, hs _ h3, h4, h5, h6.mono hs⟩
abbrev qualL : Str := (Str.ofString "_law_rule" ++ (".<locals>." : Str)) ++ Str.ofString "<lambda>"
/-- the table holds the lambda's code, which the ledger bears -/
def CodeTab (c' : Addr) (l : List (Addr × Obj)) : Prop := ∃ oc vs t, (180, tabObj #[rawInt 134, rawInt 22, .ref c']) ∈ l ∧ (c', oc) ∈ l ∧ c' ≠ 180 ∧ oc.data = .fields vs ∧ vs[1]? = some (.str qualL t)
def isSeqO (p : Addr × Obj) : Bool := match p.2.data with | .seq _ _ => true | _ => false
/-- what a frozen callee makes stands off all of the caller's but what was live -/
theorem frz_fresh {hh g h' h₀ : Heap} {L L' : Addr} {live news nw rest : List (Addr × Obj)} (Z : Frz hh g live) (N : News h₀ L hh news) (kN : News g L' h' nw) (hr : ∀ q ∈ rest, q ∈ news) : ∀ p ∈ nw, ∀ q ∈ rest, q.1 ∉ live.map (·.1) → p.1 ≠ q.1 := by
  intro p hp q hq hl e
  have h1 := Z _ _ (N q (hr q hq)).1 hl
  rw [← e, (kN p hp).2.2] at h1
  cases h1
theorem fresh_first {hh g h' h₀ : Heap} {L L' : Addr} {news nw rest : List (Addr × Obj)} {o : Obj} (Z : Frz hh g [(180, o)]) (N : News h₀ L hh news) (hr : ∀ q ∈ rest, q ∈ news ∧ q.1 ≠ 180) (kN : News g L' h' nw) : ∀ p ∈ nw, ∀ q ∈ rest, p.1 ≠ q.1 :=
  fun p hp q hq => frz_fresh Z N kN (fun q hq => (hr q hq).1) p hp q hq fun h => (hr q hq).2 (List.mem_singleton.mp h)
theorem fresh_next {hh g h' h₀ : Heap} {L L' c' : Addr} {news nw rest : List (Addr × Obj)} {o oc : Obj} {vs : Array Value} (Z : Frz hh g [(180, o), (c', oc)]) (N : News h₀ L hh news) (hc : (c', oc) ∈ news) (hd : oc.data = .fields vs) (hr : ∀ q ∈ rest, q ∈ news ∧ q.1 ≠ 180) (kN : News g L' h' nw) : ∀ p ∈ nw, ∀ q ∈ rest, (isSeqO q = true ∨ q.1 ≠ c') → p.1 ≠ q.1 :=
  fun p hp q hq hs => frz_fresh Z N kN (fun q hq => (hr q hq).1) p hp q hq fun h => by
    rcases List.mem_cons.mp h with h | h
    · exact (hr q hq).2 h
    · have e : q.1 = c' := List.mem_singleton.mp h
      replace hs := hs.resolve_right fun n => n e
      have h1 := (N q (hr q hq).1).1
      rw [e, (N _ hc).1] at h1
      have h2 := Option.some.inj h1
      unfold isSeqO at hs
      rw [← h2, hd] at hs
      cases hs
theorem lam_pick {h₀ h : Heap} {L f : Addr} {o : Obj} {r : List (Addr × Obj)} {G : Prop} (N : News h₀ L h ((f, o) :: r)) (k : ∀ f9 nw9, f9 = f → nw9 = (f, o) :: r → G) : G := k _ _ rfl rfl
local macro_rules | `(tactic| size_fits) => `(tactic| (rw [sizeLine_eq]; (with_reducible refine Nat.le_of_ble_eq_true ?_); with_unfolding_all rfl))
local macro_rules | `(tactic| k_ne) => `(tactic| first | exact ne_offN (by with_reducible assumption) (by k_mem) | exact Ne.symm (ne_offN (by with_reducible assumption) (by k_mem)) | (refine neN ?_; (try dsimp only); omega))
local macro_rules | `(tactic| k_mem) => `(tactic| ((repeat (first | (with_reducible exact List.mem_cons_self) | (with_reducible refine List.mem_cons_of_mem _ ?_))); done))
theorem rule_first (w : World) (p : Program) (loose : List Str) (mean : ExcName → Option Value) (mg mb : Str → Option Value) : ∀ {fr : Str} {tf : Tok} {v : Value} {rest : List (Addr × Obj)} {dp un : Nat} {gd : Option (List Code)} {cn : Str} {cs : Scope} {a : Addr} {ccd : Value} {cl : List (Str × Addr)} {outer : List Env} {A₀ : Around} {base h₀ : Heap} {L : Addr} {m : Str → Option Value} {news : List (Addr × Obj)} {s : Shared} {Q E : Value → Shared → Prop}
    (B : Below A₀ base outer h₀) (F : Fr h₀ L s.heap m) (X : (hd.heap_1 w.params).In h₀) (N : News h₀ L s.heap news) (T : Top p loose mean mg mb h₀) (hk : cs.kind = .function)
    (hm : (180, tabObj #[]) ∈ news) (hrest : ∀ q ∈ rest, q ∈ news ∧ q.1 ≠ 180)
    (hd : dp + 20 < recursionLimit) (hu : un + 8 * 20 < cLine) (hfr : fr.length ≤ 100)
    (ret : ∀ r nw c2 h' tk', Fr h₀ L h' m → News h₀ L h' (nw ++ rest) → (∀ p ∈ nw, ∀ q ∈ rest, p.1 ≠ q.1) → CodeTab c2 nw → RuleIs w p loose mean mg mb nw r fr v → Q r { s with heap := h', toks := tk' }),
    wpAny (model Challenge.rw_rl0031_01.row.prog w) (ktrTop dp un gd cn cs L a ccd cl outer) (call (.ref 185) [.str fr tf, v]) Q E s := by
  k_fill
  k_with_none
  intro fr tf v rest dp un gd cn cs a ccd cl outer A₀ base h₀ L m news s Q E B F X N T hk hm hrest hd hu hfr ret
  have Nl : News h₀ L s.heap [_] := fun p hp => by rw [List.mem_singleton.mp hp]; exact N _ hm
  refine wpAny_call ?_
  k_dflt (refine' frz_defC ?k1 ?k2 ?k3 ?k4 ?k5 ?kA ?kF ?kK ?k6 ?k7 ?k8 ?k9 ?kB ?kD ?_ ?c2 ?c3 ?c4; (case kA => exact rfl); (case kF => exact rfl); (case kK => assumption); (case k1 => k_asm); (case k2 => k_asm); (case k3 => k_asm); (case k4 => exact Nl); (case k5 => k_asm); (case k6 => k_is); (case k7 => k_is); (case k8 => ktr_room); (case k9 => exact BindsTo.of_eq rfl); (case kB => exact rfl); (case kD => decide +kernel); (case c2 => exact rfl); (case c3 => exact rfl); (case c4 => exact rfl); k_whole; intro g' L' h' tk' cells' FG' F' N' Y' B' X' T' l1 Z'; (try k_lt l1); k_cells Y'; (try simp only [List.cons_append, List.nil_append] at N'); (try dsimp only); (try k_fold))
  have KZ := fun (h' : Heap) (m' : Str → Option Value) (nw : List (Addr × Obj)) (F' : Fr g' L' h' m') (kN : News h₀ L h' nw) (hl : ∀ p ∈ _, p.1 ≠ 180 → p ∈ nw) => frz_keepT (rest := rest) 180 Z' Nl N F' kN hl hrest
  have KQ := fun (h' : Heap) (nw : List (Addr × Obj)) (kN : News g' L' h' nw) => fresh_first Z' N hrest kN
  clear N hm Nl Z'
  have CH : CodeHd g' 184 180 := codeHd_of_K X' (by with_unfolding_all rfl)
  (repeat' (first | (k_unfold; (try dsimp only)) | (k_end; wrow_close) | ((first | ((fail_if_success (goal_lacks binaryOp)); (with_reducible show wpAny _ _ (binaryOp _ _ _) _ _ _); ((with_reducible show wpAny _ _ (binaryOp Operator.Mult (Value.int _ _) (Value.int _ _)) _ _ _); (first | (with_reducible (first | (k_here; with_reducible refine mul_int ?_ (IntMulOk.of_left (by decide))))) | (k_here; with_reducible refine mul_int ?_ (IntMulOk.of_left (by decide)))); (try walk_say "OWN binaryOp Mult int int"))) | ((fail_if_success (goal_lacks eval)); (with_reducible show wpAny _ _ (eval _ _) _ _ _); (first | ((with_reducible show wpAny _ _ (eval (Expr.ListComp ..) _) _ _ _); (first | (with_reducible (first | ((with_reducible show wpAny _ _ (eval _ _) _ _ _); k_here; lcg_look; lcg_calm; k_dflt (refine LCg.ListComp_U (F₀ := by k_asm) (by rfl) (by decide) (by rfl) (by decide) (by rfl) ?_); k_dflt lcg_toSrc))) | ((with_reducible show wpAny _ _ (eval _ _) _ _ _); k_here; lcg_look; lcg_calm; k_dflt (refine LCg.ListComp_U (F₀ := by k_asm) (by rfl) (by decide) (by rfl) (by decide) (by rfl) ?_); k_dflt lcg_toSrc)); (try walk_say "OWN eval ListComp")) | ((with_reducible show wpAny _ _ (eval (Expr.Name ..) _) _ _ _); (first | (with_reducible (first | (k_here; (with_reducible show wpAny _ _ (eval (Expr.Name _ _) (compEnvC _ _ _ _)) _ _ _); k_dflt (refine' lcf_cell ?N ?c ?m ?d ?_ ?a ?b; (case a => rfl); (case b => rfl); (case N => k_asm); (case c => rfl); (case m => k_mem); (case d => with_reducible assumption); k_whole)) | (k_here; (with_reducible show wpAny _ _ (eval (Expr.Name _ _) (compEnvC _ _ _ _)) _ _ _); k_dflt (refine' LCgL.ld_own ?N ?m ?d ?x ?_ ?a ?b; (case a => rfl); (case b => rfl); (case N => k_asm); (case m => k_mem); (case d => with_reducible assumption); (case x => with_reducible assumption); k_whole)))) | (k_here; (with_reducible show wpAny _ _ (eval (Expr.Name _ _) (compEnvC _ _ _ _)) _ _ _); k_dflt (refine' lcf_cell ?N ?c ?m ?d ?_ ?a ?b; (case a => rfl); (case b => rfl); (case N => k_asm); (case c => rfl); (case m => k_mem); (case d => with_reducible assumption); k_whole)) | (k_here; (with_reducible show wpAny _ _ (eval (Expr.Name _ _) (compEnvC _ _ _ _)) _ _ _); k_dflt (refine' LCgL.ld_own ?N ?m ?d ?x ?_ ?a ?b; (case a => rfl); (case b => rfl); (case N => k_asm); (case m => k_mem); (case d => with_reducible assumption); (case x => with_reducible assumption); k_whole))); (try walk_say "OWN eval Name")))) | ((fail_if_success (goal_lacks InvEndN)); (with_reducible show InvEndN ..); (repeat clear qk); (repeat clear ek); ((first | (with_reducible (first | k_dflt kst_close)) | k_dflt kst_close); (try walk_say "OWN InvEndN"))) | ((fail_if_success (goal_lacks LCg.CompEnd)); (with_reducible show LCg.CompEnd ..); ((first | (with_reducible (first | first | (k_dflt (refine' ce_int ?a1 ?a2 ?a3 ?a4 ?_; (case a1 => k_asm); (case a2 => k_asm); (case a3 => with_reducible assumption); (case a4 => first | exact True.intro | lcg_src)); intro z9q hz9q) | (k_dflt (refine' ce_same ?a1 ?a2 ?a3 ?a4 ?_; (case a1 => k_asm); (case a2 => k_asm); (case a3 => with_reducible assumption); (case a4 => first | exact True.intro | lcg_src))) | (k_dflt (refine' ce_one ?a1 ?a2 ?a3 ?a5 ?a4 ?_; (case a1 => k_asm); (case a2 => k_asm); (case a3 => with_reducible assumption); (case a5 => with_reducible assumption); (case a4 => first | exact True.intro | lcg_src))) | k_dflt lcg_end)) | first | (k_dflt (refine' ce_int ?a1 ?a2 ?a3 ?a4 ?_; (case a1 => k_asm); (case a2 => k_asm); (case a3 => with_reducible assumption); (case a4 => first | exact True.intro | lcg_src)); intro z9q hz9q) | (k_dflt (refine' ce_same ?a1 ?a2 ?a3 ?a4 ?_; (case a1 => k_asm); (case a2 => k_asm); (case a3 => with_reducible assumption); (case a4 => first | exact True.intro | lcg_src))) | (k_dflt (refine' ce_one ?a1 ?a2 ?a3 ?a5 ?a4 ?_; (case a1 => k_asm); (case a2 => k_asm); (case a3 => with_reducible assumption); (case a5 => with_reducible assumption); (case a4 => first | exact True.intro | lcg_src))) | k_dflt lcg_end); (try walk_say "OWN CompEnd"))) | ((fail_if_success (goal_lacks LCg.CompRest)); (with_reducible show LCg.CompRest ..); ((first | (with_reducible (first | (with_unfolding_all first | (refine LCg.CompRest.succ ?_; intro vpq Ipq oIpq Cpq oCpq Dpq mpq hpq tkpq Epq hvpq hCpq hxpq Fpq Npq offpq nepq; clear nepq; (first | lcg_open hvpq | (obtain ⟨t9pq, hv9pq⟩ := hvpq; subst hv9pq))) | refine LCg.CompRest.zero ?_))) | (with_unfolding_all first | (refine LCg.CompRest.succ ?_; intro vpq Ipq oIpq Cpq oCpq Dpq mpq hpq tkpq Epq hvpq hCpq hxpq Fpq Npq offpq nepq; clear nepq; (first | lcg_open hvpq | (obtain ⟨t9pq, hv9pq⟩ := hvpq; subst hv9pq))) | refine LCg.CompRest.zero ?_)); (try walk_say "OWN CompRest"))) | ((fail_if_success (goal_lacks LCg.FinE)); (with_reducible show LCg.FinE ..); ((first | (with_reducible (first | ((unfold LCg.FinE); intro Dpq hpq tkpq Fpq Npq o1pq; (try simp only [List.nil_append, List.cons_append] at Npq); (try dsimp only)))) | ((unfold LCg.FinE); intro Dpq hpq tkpq Fpq Npq o1pq; (try simp only [List.nil_append, List.cons_append] at Npq); (try dsimp only))); (try walk_say "OWN FinE"))) | ((fail_if_success (goal_lacks CRestC)); (with_reducible show CRestC ..); ((first | (with_reducible (first | (with_unfolding_all first | (refine CRestC.succ ?_; intro vpq Ipq oIpq Cpq oCpq cpq ocpq Dpq hpq tkpq Epq hvpq hdpq Fpq Npq offpq nepq offcpq; clear nepq; lcg_open hvpq) | refine CRestC.zero ?_))) | (with_unfolding_all first | (refine CRestC.succ ?_; intro vpq Ipq oIpq Cpq oCpq cpq ocpq Dpq hpq tkpq Epq hvpq hdpq Fpq Npq offpq nepq offcpq; clear nepq; lcg_open hvpq) | refine CRestC.zero ?_)); (try walk_say "OWN CRestC"))) | ((fail_if_success (goal_lacks RestC)); (with_reducible show RestC ..); ((first | (with_reducible (first | (k_dflt (refine restC_one (by with_reducible assumption) (by with_reducible assumption) ?_)))) | (k_dflt (refine restC_one (by with_reducible assumption) (by with_reducible assumption) ?_))); (try walk_say "OWN RestC"))) | walk1 | (dsimp only; walk1) | (dsimp only [List.cons_append, List.nil_append]; walk1)); skip) | ((with_reducible show wpAny _ _ _ _ _ _); dsimp only) | (leave1; walk_say "STEP leave1"; try dsimp only) | fail "no step"))
  rename Fr h₀ L _ m => kF; rename News h₀ L _ ((_, kla_obj _ _ _ _ _ _ _ _ _) :: _) => kN; rename Fr g' _ _ _ => kF'
  rename News g' _ _ ((_, kla_obj _ _ _ _ _ _ _ _ _) :: _) => kN'
  refine' ret _ _ _ _ _ kF (KZ _ _ _ kF' kN ?ka) (KQ _ _ kN') ?kc ?kd
  case ka => intro p hp h; rw [List.mem_singleton.mp hp] at h; exact absurd rfl h
  case kc => exact ⟨_, _, _, by k_dflt k_mem, by k_dflt k_mem, by k_ne, by assumption, by assumption⟩
  case kd =>
    refine ⟨_, _, _, _, _, _, rfl, by k_dflt k_mem, by k_dflt k_mem, by k_dflt k_mem, by with_unfolding_all rfl, by with_unfolding_all rfl, ?_⟩
    clear KZ ret
    intro nm t dp un gd cn cs a ccd cl outer A₀ base h₀ L m news s Q E B F X N T hk hsub hd hu hl ret
    have Nl := newsPick N hsub
    refine wpAny_call ?_
    k_dflt (refine' frz_lam ?k1 ?k2 ?k3 ?k4 ?k5 ?kA ?kF ?kK ?k6 ?k7 ?k8 ?k9 ?kB ?_ ?c2 ?c3 ?c4 ?c5; (case kA => exact rfl); (case kF => exact rfl); (case kK => assumption); (case k1 => k_asm); (case k2 => k_asm); (case k3 => k_asm); (case k4 => exact Nl); (case k5 => k_asm); (case k6 => k_mem); (case k7 => exact codeRec_news (by k_asm) (by k_mem) (by assumption) (by assumption)); (case k8 => ktr_room); (case k9 => exact rfl); (case c5 => decide); (case kB => exact locs rfl); (case c2 => exact rfl); (case c3 => exact rfl); (case c4 => exact rfl); k_whole; intro g' L' h' FG' F' N' B' X' T' Z'; (try dsimp only); (try k_fold))
    have KZ := fun (h' : Heap) (m' : Str → Option Value) (nw : List (Addr × Obj)) (F' : Fr g' L' h' m') (kN : News h₀ L h' nw) (hl : ∀ p ∈ _, p ∈ nw) => frz_keep Z' Nl N F' kN hl
    clear N Nl Z'
    (repeat' (first | (k_unfold; (try dsimp only)) | (k_end; wrow_close) | ((first | ((fail_if_success (goal_lacks binaryOp)); (with_reducible show wpAny _ _ (binaryOp _ _ _) _ _ _); ((with_reducible show wpAny _ _ (binaryOp Operator.Mult (Value.int _ _) (Value.int _ _)) _ _ _); (first | (with_reducible (first | (k_here; with_reducible refine mul_int ?_ (IntMulOk.of_left (by decide))))) | (k_here; with_reducible refine mul_int ?_ (IntMulOk.of_left (by decide)))); (try walk_say "OWN binaryOp Mult int int"))) | ((fail_if_success (goal_lacks eval)); (with_reducible show wpAny _ _ (eval _ _) _ _ _); (first | ((with_reducible show wpAny _ _ (eval (Expr.ListComp ..) _) _ _ _); (first | (with_reducible (first | ((with_reducible show wpAny _ _ (eval _ _) _ _ _); k_here; lcg_look; lcg_calm; k_dflt (refine LCg.ListComp_U (F₀ := by k_asm) (by rfl) (by decide) (by rfl) (by decide) (by rfl) ?_); k_dflt lcg_toSrc))) | ((with_reducible show wpAny _ _ (eval _ _) _ _ _); k_here; lcg_look; lcg_calm; k_dflt (refine LCg.ListComp_U (F₀ := by k_asm) (by rfl) (by decide) (by rfl) (by decide) (by rfl) ?_); k_dflt lcg_toSrc)); (try walk_say "OWN eval ListComp")) | ((with_reducible show wpAny _ _ (eval (Expr.Name ..) _) _ _ _); (first | (with_reducible (first | (k_here; (with_reducible show wpAny _ _ (eval (Expr.Name _ _) (compEnvC _ _ _ _)) _ _ _); k_dflt (refine' lcf_cell ?N ?c ?m ?d ?_ ?a ?b; (case a => rfl); (case b => rfl); (case N => k_asm); (case c => rfl); (case m => k_mem); (case d => with_reducible assumption); k_whole)) | (k_here; (with_reducible show wpAny _ _ (eval (Expr.Name _ _) (compEnvC _ _ _ _)) _ _ _); k_dflt (refine' LCgL.ld_own ?N ?m ?d ?x ?_ ?a ?b; (case a => rfl); (case b => rfl); (case N => k_asm); (case m => k_mem); (case d => with_reducible assumption); (case x => with_reducible assumption); k_whole)))) | (k_here; (with_reducible show wpAny _ _ (eval (Expr.Name _ _) (compEnvC _ _ _ _)) _ _ _); k_dflt (refine' lcf_cell ?N ?c ?m ?d ?_ ?a ?b; (case a => rfl); (case b => rfl); (case N => k_asm); (case c => rfl); (case m => k_mem); (case d => with_reducible assumption); k_whole)) | (k_here; (with_reducible show wpAny _ _ (eval (Expr.Name _ _) (compEnvC _ _ _ _)) _ _ _); k_dflt (refine' LCgL.ld_own ?N ?m ?d ?x ?_ ?a ?b; (case a => rfl); (case b => rfl); (case N => k_asm); (case m => k_mem); (case d => with_reducible assumption); (case x => with_reducible assumption); k_whole))); (try walk_say "OWN eval Name")))) | ((fail_if_success (goal_lacks InvEndN)); (with_reducible show InvEndN ..); (repeat clear qk); (repeat clear ek); ((first | (with_reducible (first | k_dflt kst_close)) | k_dflt kst_close); (try walk_say "OWN InvEndN"))) | ((fail_if_success (goal_lacks LCg.CompEnd)); (with_reducible show LCg.CompEnd ..); ((first | (with_reducible (first | first | (k_dflt (refine' ce_int ?a1 ?a2 ?a3 ?a4 ?_; (case a1 => k_asm); (case a2 => k_asm); (case a3 => with_reducible assumption); (case a4 => first | exact True.intro | lcg_src)); intro z9q hz9q) | (k_dflt (refine' ce_same ?a1 ?a2 ?a3 ?a4 ?_; (case a1 => k_asm); (case a2 => k_asm); (case a3 => with_reducible assumption); (case a4 => first | exact True.intro | lcg_src))) | (k_dflt (refine' ce_one ?a1 ?a2 ?a3 ?a5 ?a4 ?_; (case a1 => k_asm); (case a2 => k_asm); (case a3 => with_reducible assumption); (case a5 => with_reducible assumption); (case a4 => first | exact True.intro | lcg_src))) | k_dflt lcg_end)) | first | (k_dflt (refine' ce_int ?a1 ?a2 ?a3 ?a4 ?_; (case a1 => k_asm); (case a2 => k_asm); (case a3 => with_reducible assumption); (case a4 => first | exact True.intro | lcg_src)); intro z9q hz9q) | (k_dflt (refine' ce_same ?a1 ?a2 ?a3 ?a4 ?_; (case a1 => k_asm); (case a2 => k_asm); (case a3 => with_reducible assumption); (case a4 => first | exact True.intro | lcg_src))) | (k_dflt (refine' ce_one ?a1 ?a2 ?a3 ?a5 ?a4 ?_; (case a1 => k_asm); (case a2 => k_asm); (case a3 => with_reducible assumption); (case a5 => with_reducible assumption); (case a4 => first | exact True.intro | lcg_src))) | k_dflt lcg_end); (try walk_say "OWN CompEnd"))) | ((fail_if_success (goal_lacks LCg.CompRest)); (with_reducible show LCg.CompRest ..); ((first | (with_reducible (first | (with_unfolding_all first | (refine LCg.CompRest.succ ?_; intro vpq Ipq oIpq Cpq oCpq Dpq mpq hpq tkpq Epq hvpq hCpq hxpq Fpq Npq offpq nepq; clear nepq; (first | lcg_open hvpq | (obtain ⟨t9pq, hv9pq⟩ := hvpq; subst hv9pq))) | refine LCg.CompRest.zero ?_))) | (with_unfolding_all first | (refine LCg.CompRest.succ ?_; intro vpq Ipq oIpq Cpq oCpq Dpq mpq hpq tkpq Epq hvpq hCpq hxpq Fpq Npq offpq nepq; clear nepq; (first | lcg_open hvpq | (obtain ⟨t9pq, hv9pq⟩ := hvpq; subst hv9pq))) | refine LCg.CompRest.zero ?_)); (try walk_say "OWN CompRest"))) | ((fail_if_success (goal_lacks LCg.FinE)); (with_reducible show LCg.FinE ..); ((first | (with_reducible (first | ((unfold LCg.FinE); intro Dpq hpq tkpq Fpq Npq o1pq; (try simp only [List.nil_append, List.cons_append] at Npq); (try dsimp only)))) | ((unfold LCg.FinE); intro Dpq hpq tkpq Fpq Npq o1pq; (try simp only [List.nil_append, List.cons_append] at Npq); (try dsimp only))); (try walk_say "OWN FinE"))) | ((fail_if_success (goal_lacks CRestC)); (with_reducible show CRestC ..); ((first | (with_reducible (first | (with_unfolding_all first | (refine CRestC.succ ?_; intro vpq Ipq oIpq Cpq oCpq cpq ocpq Dpq hpq tkpq Epq hvpq hdpq Fpq Npq offpq nepq offcpq; clear nepq; lcg_open hvpq) | refine CRestC.zero ?_))) | (with_unfolding_all first | (refine CRestC.succ ?_; intro vpq Ipq oIpq Cpq oCpq cpq ocpq Dpq hpq tkpq Epq hvpq hdpq Fpq Npq offpq nepq offcpq; clear nepq; lcg_open hvpq) | refine CRestC.zero ?_)); (try walk_say "OWN CRestC"))) | ((fail_if_success (goal_lacks RestC)); (with_reducible show RestC ..); ((first | (with_reducible (first | (k_dflt (refine restC_one (by with_reducible assumption) (by with_reducible assumption) ?_)))) | (k_dflt (refine restC_one (by with_reducible assumption) (by with_reducible assumption) ?_))); (try walk_say "OWN RestC"))) | walk1 | (dsimp only; walk1) | (dsimp only [List.cons_append, List.nil_append]; walk1)); skip) | ((with_reducible show wpAny _ _ _ _ _ _); dsimp only) | (leave1; walk_say "STEP leave1"; try dsimp only) | fail "no step"))
    rename Fr h₀ L _ m => kF2; rename News h₀ L _ _ => kN2; rename Fr g' _ _ _ => kF3
    exact ret _ _ _ kF2 (newsPick (KZ _ _ _ kF3 kN2 fun p hp => hp) fun p hp => List.mem_append.mpr (.inr hp))
theorem rule_next (w : World) (p : Program) (loose : List Str) (mean : ExcName → Option Value) (mg mb : Str → Option Value) : ∀ {fr : Str} {tf : Tok} {v : Value} {rest : List (Addr × Obj)} {c' : Addr} {oc : Obj} {vs : Array Value} {tq : Tok} {dp un : Nat} {gd : Option (List Code)} {cn : Str} {cs : Scope} {a : Addr} {ccd : Value} {cl : List (Str × Addr)} {outer : List Env} {A₀ : Around} {base h₀ : Heap} {L : Addr} {m : Str → Option Value} {news : List (Addr × Obj)} {s : Shared} {Q E : Value → Shared → Prop}
    (B : Below A₀ base outer h₀) (F : Fr h₀ L s.heap m) (X : (hd.heap_1 w.params).In h₀) (N : News h₀ L s.heap news) (T : Top p loose mean mg mb h₀) (hk : cs.kind = .function)
    (hm : (180, tabObj #[rawInt 134, rawInt 22, .ref c']) ∈ news) (hc : (c', oc) ∈ news) (hc0 : c' ≠ 180) (hd1 : oc.data = .fields vs) (hd2 : vs[1]? = some (.str qualL tq)) (hrest : ∀ q ∈ rest, q ∈ news ∧ q.1 ≠ 180)
    (hd : dp + 20 < recursionLimit) (hu : un + 8 * 20 < cLine) (hfr : fr.length ≤ 100)
    (ret : ∀ r nw h' tk', Fr h₀ L h' m → News h₀ L h' (nw ++ rest) → (∀ p ∈ nw, ∀ q ∈ rest, (isSeqO q = true ∨ q.1 ≠ c') → p.1 ≠ q.1) → CodeTab c' nw → RuleIs w p loose mean mg mb nw r fr v → Q r { s with heap := h', toks := tk' }),
    wpAny (model Challenge.rw_rl0031_01.row.prog w) (ktrTop dp un gd cn cs L a ccd cl outer) (call (.ref 185) [.str fr tf, v]) Q E s := by
  k_fill
  k_with_none
  intro fr tf v rest c' oc vs tq dp un gd cn cs a ccd cl outer A₀ base h₀ L m news s Q E B F X N T hk hm hc hc0 hd1 hd2 hrest hd hu hfr ret
  have Nl : News h₀ L s.heap [_, _] := fun p hp => by rcases List.mem_cons.mp hp with rfl | hp; exact N _ hm; rw [List.mem_singleton.mp hp]; exact N _ hc
  refine wpAny_call ?_
  k_dflt (refine' frz_defC ?k1 ?k2 ?k3 ?k4 ?k5 ?kA ?kF ?kK ?k6 ?k7 ?k8 ?k9 ?kB ?kD ?_ ?c2 ?c3 ?c4; (case kA => exact rfl); (case kF => exact rfl); (case kK => assumption); (case k1 => k_asm); (case k2 => k_asm); (case k3 => k_asm); (case k4 => exact Nl); (case k5 => k_asm); (case k6 => k_is); (case k7 => k_is); (case k8 => ktr_room); (case k9 => exact BindsTo.of_eq rfl); (case kB => exact rfl); (case kD => decide +kernel); (case c2 => exact rfl); (case c3 => exact rfl); (case c4 => exact rfl); k_whole; intro g' L' h' tk' cells' FG' F' N' Y' B' X' T' l1 Z'; (try k_lt l1); k_cells Y'; (try simp only [List.cons_append, List.nil_append] at N'); (try dsimp only); (try k_fold))
  have KZ := fun (h' : Heap) (m' : Str → Option Value) (nw : List (Addr × Obj)) (F' : Fr g' L' h' m') (kN : News h₀ L h' nw) (hl : ∀ p ∈ _, p.1 ≠ 180 → p ∈ nw) => frz_keepT (rest := rest) 180 Z' Nl N F' kN hl hrest
  have KQ := fun (h' : Heap) (nw : List (Addr × Obj)) (kN : News g' L' h' nw) => fresh_next Z' N hc hd1 hrest kN
  clear N hm hc Nl Z'
  have CH : CodeHd g' 184 180 := codeHd_of_K X' (by with_unfolding_all rfl)
  (repeat' (first | (k_unfold; (try dsimp only)) | (k_end; wrow_close) | ((first | ((fail_if_success (goal_lacks binaryOp)); (with_reducible show wpAny _ _ (binaryOp _ _ _) _ _ _); ((with_reducible show wpAny _ _ (binaryOp Operator.Mult (Value.int _ _) (Value.int _ _)) _ _ _); (first | (with_reducible (first | (k_here; with_reducible refine mul_int ?_ (IntMulOk.of_left (by decide))))) | (k_here; with_reducible refine mul_int ?_ (IntMulOk.of_left (by decide)))); (try walk_say "OWN binaryOp Mult int int"))) | ((fail_if_success (goal_lacks eval)); (with_reducible show wpAny _ _ (eval _ _) _ _ _); (first | ((with_reducible show wpAny _ _ (eval (Expr.ListComp ..) _) _ _ _); (first | (with_reducible (first | ((with_reducible show wpAny _ _ (eval _ _) _ _ _); k_here; lcg_look; lcg_calm; k_dflt (refine LCg.ListComp_U (F₀ := by k_asm) (by rfl) (by decide) (by rfl) (by decide) (by rfl) ?_); k_dflt lcg_toSrc))) | ((with_reducible show wpAny _ _ (eval _ _) _ _ _); k_here; lcg_look; lcg_calm; k_dflt (refine LCg.ListComp_U (F₀ := by k_asm) (by rfl) (by decide) (by rfl) (by decide) (by rfl) ?_); k_dflt lcg_toSrc)); (try walk_say "OWN eval ListComp")) | ((with_reducible show wpAny _ _ (eval (Expr.Name ..) _) _ _ _); (first | (with_reducible (first | (k_here; (with_reducible show wpAny _ _ (eval (Expr.Name _ _) (compEnvC _ _ _ _)) _ _ _); k_dflt (refine' lcf_cell ?N ?c ?m ?d ?_ ?a ?b; (case a => rfl); (case b => rfl); (case N => k_asm); (case c => rfl); (case m => k_mem); (case d => with_reducible assumption); k_whole)) | (k_here; (with_reducible show wpAny _ _ (eval (Expr.Name _ _) (compEnvC _ _ _ _)) _ _ _); k_dflt (refine' LCgL.ld_own ?N ?m ?d ?x ?_ ?a ?b; (case a => rfl); (case b => rfl); (case N => k_asm); (case m => k_mem); (case d => with_reducible assumption); (case x => with_reducible assumption); k_whole)))) | (k_here; (with_reducible show wpAny _ _ (eval (Expr.Name _ _) (compEnvC _ _ _ _)) _ _ _); k_dflt (refine' lcf_cell ?N ?c ?m ?d ?_ ?a ?b; (case a => rfl); (case b => rfl); (case N => k_asm); (case c => rfl); (case m => k_mem); (case d => with_reducible assumption); k_whole)) | (k_here; (with_reducible show wpAny _ _ (eval (Expr.Name _ _) (compEnvC _ _ _ _)) _ _ _); k_dflt (refine' LCgL.ld_own ?N ?m ?d ?x ?_ ?a ?b; (case a => rfl); (case b => rfl); (case N => k_asm); (case m => k_mem); (case d => with_reducible assumption); (case x => with_reducible assumption); k_whole))); (try walk_say "OWN eval Name")))) | ((fail_if_success (goal_lacks InvEndN)); (with_reducible show InvEndN ..); (repeat clear qk); (repeat clear ek); ((first | (with_reducible (first | k_dflt kst_close)) | k_dflt kst_close); (try walk_say "OWN InvEndN"))) | ((fail_if_success (goal_lacks LCg.CompEnd)); (with_reducible show LCg.CompEnd ..); ((first | (with_reducible (first | first | (k_dflt (refine' ce_int ?a1 ?a2 ?a3 ?a4 ?_; (case a1 => k_asm); (case a2 => k_asm); (case a3 => with_reducible assumption); (case a4 => first | exact True.intro | lcg_src)); intro z9q hz9q) | (k_dflt (refine' ce_same ?a1 ?a2 ?a3 ?a4 ?_; (case a1 => k_asm); (case a2 => k_asm); (case a3 => with_reducible assumption); (case a4 => first | exact True.intro | lcg_src))) | (k_dflt (refine' ce_one ?a1 ?a2 ?a3 ?a5 ?a4 ?_; (case a1 => k_asm); (case a2 => k_asm); (case a3 => with_reducible assumption); (case a5 => with_reducible assumption); (case a4 => first | exact True.intro | lcg_src))) | k_dflt lcg_end)) | first | (k_dflt (refine' ce_int ?a1 ?a2 ?a3 ?a4 ?_; (case a1 => k_asm); (case a2 => k_asm); (case a3 => with_reducible assumption); (case a4 => first | exact True.intro | lcg_src)); intro z9q hz9q) | (k_dflt (refine' ce_same ?a1 ?a2 ?a3 ?a4 ?_; (case a1 => k_asm); (case a2 => k_asm); (case a3 => with_reducible assumption); (case a4 => first | exact True.intro | lcg_src))) | (k_dflt (refine' ce_one ?a1 ?a2 ?a3 ?a5 ?a4 ?_; (case a1 => k_asm); (case a2 => k_asm); (case a3 => with_reducible assumption); (case a5 => with_reducible assumption); (case a4 => first | exact True.intro | lcg_src))) | k_dflt lcg_end); (try walk_say "OWN CompEnd"))) | ((fail_if_success (goal_lacks LCg.CompRest)); (with_reducible show LCg.CompRest ..); ((first | (with_reducible (first | (with_unfolding_all first | (refine LCg.CompRest.succ ?_; intro vpq Ipq oIpq Cpq oCpq Dpq mpq hpq tkpq Epq hvpq hCpq hxpq Fpq Npq offpq nepq; clear nepq; (first | lcg_open hvpq | (obtain ⟨t9pq, hv9pq⟩ := hvpq; subst hv9pq))) | refine LCg.CompRest.zero ?_))) | (with_unfolding_all first | (refine LCg.CompRest.succ ?_; intro vpq Ipq oIpq Cpq oCpq Dpq mpq hpq tkpq Epq hvpq hCpq hxpq Fpq Npq offpq nepq; clear nepq; (first | lcg_open hvpq | (obtain ⟨t9pq, hv9pq⟩ := hvpq; subst hv9pq))) | refine LCg.CompRest.zero ?_)); (try walk_say "OWN CompRest"))) | ((fail_if_success (goal_lacks LCg.FinE)); (with_reducible show LCg.FinE ..); ((first | (with_reducible (first | ((unfold LCg.FinE); intro Dpq hpq tkpq Fpq Npq o1pq; (try simp only [List.nil_append, List.cons_append] at Npq); (try dsimp only)))) | ((unfold LCg.FinE); intro Dpq hpq tkpq Fpq Npq o1pq; (try simp only [List.nil_append, List.cons_append] at Npq); (try dsimp only))); (try walk_say "OWN FinE"))) | ((fail_if_success (goal_lacks CRestC)); (with_reducible show CRestC ..); ((first | (with_reducible (first | (with_unfolding_all first | (refine CRestC.succ ?_; intro vpq Ipq oIpq Cpq oCpq cpq ocpq Dpq hpq tkpq Epq hvpq hdpq Fpq Npq offpq nepq offcpq; clear nepq; lcg_open hvpq) | refine CRestC.zero ?_))) | (with_unfolding_all first | (refine CRestC.succ ?_; intro vpq Ipq oIpq Cpq oCpq cpq ocpq Dpq hpq tkpq Epq hvpq hdpq Fpq Npq offpq nepq offcpq; clear nepq; lcg_open hvpq) | refine CRestC.zero ?_)); (try walk_say "OWN CRestC"))) | ((fail_if_success (goal_lacks RestC)); (with_reducible show RestC ..); ((first | (with_reducible (first | (k_dflt (refine restC_one (by with_reducible assumption) (by with_reducible assumption) ?_)))) | (k_dflt (refine restC_one (by with_reducible assumption) (by with_reducible assumption) ?_))); (try walk_say "OWN RestC"))) | walk1 | (dsimp only; walk1) | (dsimp only [List.cons_append, List.nil_append]; walk1)); skip) | ((with_reducible show wpAny _ _ _ _ _ _); dsimp only) | (leave1; walk_say "STEP leave1"; try dsimp only) | fail "no step"))
  rename Fr h₀ L _ m => kF; rename News h₀ L _ ((_, kla_obj _ _ _ _ _ _ _ _ _) :: _) => kN; rename Fr g' _ _ _ => kF'
  rename News g' _ _ ((_, kla_obj _ _ _ _ _ _ _ _ _) :: _) => kN'
  refine' ret _ _ _ _ kF (KZ _ _ _ kF' kN ?ka) (KQ _ _ kN') ?kc ?kd
  case ka => (intro p hp h; rcases List.mem_cons.mp hp with rfl | hp; exact absurd rfl h; rw [List.mem_singleton.mp hp]; k_dflt k_mem)
  case kc => exact ⟨oc, vs, tq, by k_dflt k_mem, by k_dflt k_mem, hc0, hd1, hd2⟩
  case kd =>
    refine ⟨_, _, _, _, _, _, rfl, by k_dflt k_mem, by k_dflt k_mem, by k_dflt k_mem, by with_unfolding_all rfl, by with_unfolding_all rfl, ?_⟩
    clear KZ ret
    intro nm t dp un gd cn cs a ccd cl outer A₀ base h₀ L m news s Q E B F X N T hk hsub hd hu hl ret
    have Nl := newsPick N hsub
    refine wpAny_call ?_
    k_dflt (refine' frz_lam ?k1 ?k2 ?k3 ?k4 ?k5 ?kA ?kF ?kK ?k6 ?k7 ?k8 ?k9 ?kB ?_ ?c2 ?c3 ?c4 ?c5; (case kA => exact rfl); (case kF => exact rfl); (case kK => assumption); (case k1 => k_asm); (case k2 => k_asm); (case k3 => k_asm); (case k4 => exact Nl); (case k5 => k_asm); (case k6 => k_mem); (case k7 => exact codeRec_news (by k_asm) (by k_mem) (by assumption) (by assumption)); (case k8 => ktr_room); (case k9 => exact rfl); (case c5 => decide); (case kB => exact locs rfl); (case c2 => exact rfl); (case c3 => exact rfl); (case c4 => exact rfl); k_whole; intro g' L' h' FG' F' N' B' X' T' Z'; (try dsimp only); (try k_fold))
    have KZ := fun (h' : Heap) (m' : Str → Option Value) (nw : List (Addr × Obj)) (F' : Fr g' L' h' m') (kN : News h₀ L h' nw) (hl : ∀ p ∈ _, p ∈ nw) => frz_keep Z' Nl N F' kN hl
    clear N Nl Z'
    (repeat' (first | (k_unfold; (try dsimp only)) | (k_end; wrow_close) | ((first | ((fail_if_success (goal_lacks binaryOp)); (with_reducible show wpAny _ _ (binaryOp _ _ _) _ _ _); ((with_reducible show wpAny _ _ (binaryOp Operator.Mult (Value.int _ _) (Value.int _ _)) _ _ _); (first | (with_reducible (first | (k_here; with_reducible refine mul_int ?_ (IntMulOk.of_left (by decide))))) | (k_here; with_reducible refine mul_int ?_ (IntMulOk.of_left (by decide)))); (try walk_say "OWN binaryOp Mult int int"))) | ((fail_if_success (goal_lacks eval)); (with_reducible show wpAny _ _ (eval _ _) _ _ _); (first | ((with_reducible show wpAny _ _ (eval (Expr.ListComp ..) _) _ _ _); (first | (with_reducible (first | ((with_reducible show wpAny _ _ (eval _ _) _ _ _); k_here; lcg_look; lcg_calm; k_dflt (refine LCg.ListComp_U (F₀ := by k_asm) (by rfl) (by decide) (by rfl) (by decide) (by rfl) ?_); k_dflt lcg_toSrc))) | ((with_reducible show wpAny _ _ (eval _ _) _ _ _); k_here; lcg_look; lcg_calm; k_dflt (refine LCg.ListComp_U (F₀ := by k_asm) (by rfl) (by decide) (by rfl) (by decide) (by rfl) ?_); k_dflt lcg_toSrc)); (try walk_say "OWN eval ListComp")) | ((with_reducible show wpAny _ _ (eval (Expr.Name ..) _) _ _ _); (first | (with_reducible (first | (k_here; (with_reducible show wpAny _ _ (eval (Expr.Name _ _) (compEnvC _ _ _ _)) _ _ _); k_dflt (refine' lcf_cell ?N ?c ?m ?d ?_ ?a ?b; (case a => rfl); (case b => rfl); (case N => k_asm); (case c => rfl); (case m => k_mem); (case d => with_reducible assumption); k_whole)) | (k_here; (with_reducible show wpAny _ _ (eval (Expr.Name _ _) (compEnvC _ _ _ _)) _ _ _); k_dflt (refine' LCgL.ld_own ?N ?m ?d ?x ?_ ?a ?b; (case a => rfl); (case b => rfl); (case N => k_asm); (case m => k_mem); (case d => with_reducible assumption); (case x => with_reducible assumption); k_whole)))) | (k_here; (with_reducible show wpAny _ _ (eval (Expr.Name _ _) (compEnvC _ _ _ _)) _ _ _); k_dflt (refine' lcf_cell ?N ?c ?m ?d ?_ ?a ?b; (case a => rfl); (case b => rfl); (case N => k_asm); (case c => rfl); (case m => k_mem); (case d => with_reducible assumption); k_whole)) | (k_here; (with_reducible show wpAny _ _ (eval (Expr.Name _ _) (compEnvC _ _ _ _)) _ _ _); k_dflt (refine' LCgL.ld_own ?N ?m ?d ?x ?_ ?a ?b; (case a => rfl); (case b => rfl); (case N => k_asm); (case m => k_mem); (case d => with_reducible assumption); (case x => with_reducible assumption); k_whole))); (try walk_say "OWN eval Name")))) | ((fail_if_success (goal_lacks InvEndN)); (with_reducible show InvEndN ..); (repeat clear qk); (repeat clear ek); ((first | (with_reducible (first | k_dflt kst_close)) | k_dflt kst_close); (try walk_say "OWN InvEndN"))) | ((fail_if_success (goal_lacks LCg.CompEnd)); (with_reducible show LCg.CompEnd ..); ((first | (with_reducible (first | first | (k_dflt (refine' ce_int ?a1 ?a2 ?a3 ?a4 ?_; (case a1 => k_asm); (case a2 => k_asm); (case a3 => with_reducible assumption); (case a4 => first | exact True.intro | lcg_src)); intro z9q hz9q) | (k_dflt (refine' ce_same ?a1 ?a2 ?a3 ?a4 ?_; (case a1 => k_asm); (case a2 => k_asm); (case a3 => with_reducible assumption); (case a4 => first | exact True.intro | lcg_src))) | (k_dflt (refine' ce_one ?a1 ?a2 ?a3 ?a5 ?a4 ?_; (case a1 => k_asm); (case a2 => k_asm); (case a3 => with_reducible assumption); (case a5 => with_reducible assumption); (case a4 => first | exact True.intro | lcg_src))) | k_dflt lcg_end)) | first | (k_dflt (refine' ce_int ?a1 ?a2 ?a3 ?a4 ?_; (case a1 => k_asm); (case a2 => k_asm); (case a3 => with_reducible assumption); (case a4 => first | exact True.intro | lcg_src)); intro z9q hz9q) | (k_dflt (refine' ce_same ?a1 ?a2 ?a3 ?a4 ?_; (case a1 => k_asm); (case a2 => k_asm); (case a3 => with_reducible assumption); (case a4 => first | exact True.intro | lcg_src))) | (k_dflt (refine' ce_one ?a1 ?a2 ?a3 ?a5 ?a4 ?_; (case a1 => k_asm); (case a2 => k_asm); (case a3 => with_reducible assumption); (case a5 => with_reducible assumption); (case a4 => first | exact True.intro | lcg_src))) | k_dflt lcg_end); (try walk_say "OWN CompEnd"))) | ((fail_if_success (goal_lacks LCg.CompRest)); (with_reducible show LCg.CompRest ..); ((first | (with_reducible (first | (with_unfolding_all first | (refine LCg.CompRest.succ ?_; intro vpq Ipq oIpq Cpq oCpq Dpq mpq hpq tkpq Epq hvpq hCpq hxpq Fpq Npq offpq nepq; clear nepq; (first | lcg_open hvpq | (obtain ⟨t9pq, hv9pq⟩ := hvpq; subst hv9pq))) | refine LCg.CompRest.zero ?_))) | (with_unfolding_all first | (refine LCg.CompRest.succ ?_; intro vpq Ipq oIpq Cpq oCpq Dpq mpq hpq tkpq Epq hvpq hCpq hxpq Fpq Npq offpq nepq; clear nepq; (first | lcg_open hvpq | (obtain ⟨t9pq, hv9pq⟩ := hvpq; subst hv9pq))) | refine LCg.CompRest.zero ?_)); (try walk_say "OWN CompRest"))) | ((fail_if_success (goal_lacks LCg.FinE)); (with_reducible show LCg.FinE ..); ((first | (with_reducible (first | ((unfold LCg.FinE); intro Dpq hpq tkpq Fpq Npq o1pq; (try simp only [List.nil_append, List.cons_append] at Npq); (try dsimp only)))) | ((unfold LCg.FinE); intro Dpq hpq tkpq Fpq Npq o1pq; (try simp only [List.nil_append, List.cons_append] at Npq); (try dsimp only))); (try walk_say "OWN FinE"))) | ((fail_if_success (goal_lacks CRestC)); (with_reducible show CRestC ..); ((first | (with_reducible (first | (with_unfolding_all first | (refine CRestC.succ ?_; intro vpq Ipq oIpq Cpq oCpq cpq ocpq Dpq hpq tkpq Epq hvpq hdpq Fpq Npq offpq nepq offcpq; clear nepq; lcg_open hvpq) | refine CRestC.zero ?_))) | (with_unfolding_all first | (refine CRestC.succ ?_; intro vpq Ipq oIpq Cpq oCpq cpq ocpq Dpq hpq tkpq Epq hvpq hdpq Fpq Npq offpq nepq offcpq; clear nepq; lcg_open hvpq) | refine CRestC.zero ?_)); (try walk_say "OWN CRestC"))) | ((fail_if_success (goal_lacks RestC)); (with_reducible show RestC ..); ((first | (with_reducible (first | (k_dflt (refine restC_one (by with_reducible assumption) (by with_reducible assumption) ?_)))) | (k_dflt (refine restC_one (by with_reducible assumption) (by with_reducible assumption) ?_))); (try walk_say "OWN RestC"))) | walk1 | (dsimp only; walk1) | (dsimp only [List.cons_append, List.nil_append]; walk1)); skip) | ((with_reducible show wpAny _ _ _ _ _ _); dsimp only) | (leave1; walk_say "STEP leave1"; try dsimp only) | fail "no step"))
    rename Fr h₀ L _ m => kF2; rename News h₀ L _ _ => kN2; rename Fr g' _ _ _ => kF3
    exact ret _ _ _ kF2 (newsPick (KZ _ _ _ kF3 kN2 fun p hp => hp) fun p hp => List.mem_append.mpr (.inr hp))
theorem rule_any (w : World) (p : Program) (loose : List Str) (mean : ExcName → Option Value) (mg mb : Str → Option Value) : ∀ {fr : Str} {tf : Tok} {v : Value} {rest : List (Addr × Obj)} {pt : Array Value} {dp un : Nat} {gd : Option (List Code)} {cn : Str} {cs : Scope} {a : Addr} {ccd : Value} {cl : List (Str × Addr)} {outer : List Env} {A₀ : Around} {base h₀ : Heap} {L : Addr} {m : Str → Option Value} {news : List (Addr × Obj)} {s : Shared} {Q E : Value → Shared → Prop}
    (B : Below A₀ base outer h₀) (F : Fr h₀ L s.heap m) (X : (hd.heap_1 w.params).In h₀) (N : News h₀ L s.heap news) (T : Top p loose mean mg mb h₀) (hk : cs.kind = .function)
    (hm : (180, tabObj pt) ∈ news) (hT : pt = #[] ∨ ∃ c', pt = #[rawInt 134, rawInt 22, .ref c'] ∧ CodeTab c' news) (hrest : ∀ q ∈ rest, q ∈ news ∧ q.1 ≠ 180)
    (hd : dp + 20 < recursionLimit) (hu : un + 8 * 20 < cLine) (hfr : fr.length ≤ 100)
    (ret : ∀ r nw c2 h' tk', Fr h₀ L h' m → News h₀ L h' (nw ++ rest) → (∀ p ∈ nw, ∀ q ∈ rest, (pt = #[] ∨ isSeqO q = true ∨ q.1 ≠ c2) → p.1 ≠ q.1) → CodeTab c2 nw → (pt = #[] ∨ pt = #[rawInt 134, rawInt 22, .ref c2]) → RuleIs w p loose mean mg mb nw r fr v → Q r { s with heap := h', toks := tk' }),
    wpAny (model Challenge.rw_rl0031_01.row.prog w) (ktrTop dp un gd cn cs L a ccd cl outer) (call (.ref 185) [.str fr tf, v]) Q E s := by
  intro fr tf v rest pt dp un gd cn cs a ccd cl outer A₀ base h₀ L m news s Q E B F X N T hk hm hT hrest hd hu hfr ret
  rcases hT with rfl | ⟨c', rfl, oc, vs, tq, h1, h2, h3, h4, h5⟩
  · exact rule_first w p loose mean mg mb B F X N T hk hm hrest hd hu hfr fun r nw c2 h' tk' F' N' hf hC hR => ret r nw c2 h' tk' F' N' (fun p hp q hq _ => hf p hp q hq) hC (.inl rfl) hR
  · exact rule_next w p loose mean mg mb B F X N T hk h1 h2 h3 h4 h5 hrest hd hu hfr fun r nw h' tk' F' N' hf hC hR => ret r nw c' h' tk' F' N' (fun p hp q hq h => hf p hp q hq (h.resolve_left fun e => by have e2 := congrArg Array.size e; simp at e2)) hC (.inr rfl) hR
end Mine
end -- part Rule
section -- part List
open PySem PySem.W PyProof.Rows PySem.Calls PySem.Spec PyProof.V
set_option maxRecDepth 100000
set_option maxHeartbeats 2000000
namespace Mine
/-- a loop over a list of the ledger: the list stands in every nx -/
theorem tn_list {prog : Program} {w : World} {A : Around} {E : Value → Shared → Prop} {s : Shared} {env : Env} {h₀ : Heap} {x : Str} {px : Pos} {body : List Stmt} {Q : Flow → Shared → Prop} {l : Addr} {vs : List Value} {nn : Nat} {m₀ : Str → Option Value} {news : List (Addr × Obj)} (J : Nat → (Str → Option Value) → List (Addr × Obj) → Prop)
    (hh : A.handled = none) (hl : (l, W.listOf vs.toArray nn) ∈ news) (hJl : ∀ i m nx, J i m nx → (l, W.listOf vs.toArray nn) ∈ nx) (F : Fr h₀ env.locals s.heap m₀) (N : News h₀ env.locals s.heap news) (hj : J 0 m₀ news)
    (turn : ∀ (i : Nat) v m₁ nx h tk I oI, vs[i]? = some v → J i m₁ nx → Fr h₀ env.locals h m₁ → News h₀ env.locals h ((I, oI) :: nx) → (∀ p ∈ nx, p.1 ≠ I) →
      wpAny (model prog w) A (assign (.Name x px) env v) (fun _ s₂ => wpAny (model prog w) A (execs body env) (TnPost h₀ env.locals I oI (J (i + 1)) { s with heap := h, toks := tk } Q) E s₂) E { s with heap := h, toks := tk })
    (done : ∀ m₁ nx h tk, J vs.length m₁ nx → Fr h₀ env.locals h m₁ → News h₀ env.locals h nx → Q .next { s with heap := h, toks := tk }) :
    wpAny (model prog w) A (pyIter (.ref l)) (fun it s₂ => TurnsAt prog w A h₀ env (.Name x px) body Q E it s₂) E s := by
  have hol : s.heap.get? l = some (W.listOf vs.toArray nn) := (N _ hl).1
  have hls : s.heap.IsList l vs.toArray := ⟨_, hol, rfl, nn, rfl⟩
  have hlL : l ≠ env.locals := (N _ hl).2.1
  have hne : l ≠ s.heap.objs.size := Nat.ne_of_lt (Heap.lt_size hol)
  refine wpAny_pyIter_list hls ?_
  have W := Walks.list (prog := prog) (w := w) hh s.heap.objs.size l hne vs.toArray
  rw [show vs.toArray.size = vs.length by simp] at W
  refine ⟨_, _, _, vs.length, _, _, _, m₀, news, J, rfl, KTurns.ofWalks W fun i v s Q E st q => letGo_listiter st.1 q, ?_, ?_, ?_, ⟨⟨_, Heap.get?_push_size _ rfl, rfl, rfl⟩, hls.at fun o e => Heap.get?_push_of_some _ e⟩, F.push _, (fun p hp => ⟨Heap.get?_push_of_some _ (N p hp).1, (N p hp).2⟩), hj, ?_, ?_⟩
  · intro hI
    rcases List.mem_cons.mp hI with e | hI
    · exact absurd F.ns.lt (e ▸ Nat.lt_irrefl _)
    · exact hlL (List.mem_singleton.mp hI).symm
  · intro b hb
    rw [List.mem_singleton.mp hb]
    exact next_is_new F
  · intro p hp hI
    exact absurd (Heap.lt_size (N p hp).1) ((List.mem_singleton.mp hI) ▸ Nat.lt_irrefl _)
  · rintro i v m₁ nx h₁ tk₁ own hi hPv hJ hoff hown hget hall st F₁ N₁
    have hI0 : h₀.get? s.heap.objs.size = none := next_is_new F
    obtain ⟨oI, hoI⟩ : ∃ oI, h₁.get? s.heap.objs.size = some oI := by obtain ⟨o, e, _⟩ := st.1; exact ⟨o, e⟩
    have hIm := hall s.heap.objs.size (List.mem_cons_self) hI0 _ hoI
    have off : ∀ p ∈ nx, p.1 ≠ s.heap.objs.size := fun p hp e => hoff p hp (List.mem_singleton.mpr e)
    have N₂ : News h₀ env.locals h₁ ((s.heap.objs.size, oI) :: nx) := fun p hp => by
      rcases List.mem_cons.mp hp with rfl | hp
      · exact N₁ _ (List.mem_append_left _ hIm)
      · exact N₁ _ (List.mem_append_right _ hp)
    have hlx := N₂ _ (.tail _ (hJl i m₁ nx hJ))
    have fin : ∀ s₃, TnEnd h₀ env.locals s.heap.objs.size oI (J (i + 1)) { s with heap := h₁, toks := tk₁ } s₃ → LoopStepU h₀ env.locals [s.heap.objs.size] own (J (i + 1)) { s with heap := h₁, toks := tk₁ } .next s₃ := by
      rintro s₃ ⟨h', tk, m', nx', e, F', N', ho, hj'⟩
      refine ⟨rfl, h', tk, m', nx', e, F', ?_, fun p hp hI => ho p hp (List.mem_singleton.mp hI), hj'⟩
      rintro ⟨pa, po⟩ hp
      rcases List.mem_append.mp hp with hp | hp
      · have h2 : pa = s.heap.objs.size ∨ pa = l := by simpa using hown _ hp
        have h3 : h₁.get? pa = some po := hget _ hp
        rcases h2 with rfl | rfl
        · rw [hoI] at h3
          cases h3
          exact N' _ (.head _)
        · rw [hlx.1] at h3
          cases h3
          exact N' _ (.tail _ (hJl _ _ _ hj'))
      · exact N' _ (.tail _ hp)
    have hv : vs[i]? = some v := by
      have hP' : vs.toArray[i]? = some v := hPv
      simpa using hP'
    refine wpAny_mono (turn i v m₁ nx h₁ tk₁ s.heap.objs.size oI hv hJ F₁ N₂ off) (fun _ s₂ h₂ => wpAny_mono h₂ (fun f s₃ p => ?_) fun _ _ e => e) fun _ _ e => e
    cases f with
    | ret v => exact .ret p
    | brk => exact .brk p
    | next => exact .next (fin _ p)
    | cont => exact .cont (fin _ p)
  · rintro h' tk m' nx' F' N' _ hJ
    exact done m' nx' h' tk hJ F' N'
end Mine
end -- part List
section -- part Cell1
open PySem PySem.W PyProof.Rows PySem.Calls PySem.Spec PyProof.V
set_option maxRecDepth 100000
set_option maxHeartbeats 2000000
namespace Mine
def isSeq (p : Addr × Obj) : Bool := match p.2.data with | .seq _ _ => true | _ => false
/-- of a symbolic ledger only the lists: none of them is a cell -/
theorem RowsAre.clean {tl : List (Addr × Obj)} {vs : List Value} {rs : List (List Int)} (h : RowsAre tl vs rs) : RowsAre (tl.filter isSeq) vs rs :=
  ⟨h.1, h.2.1, fun i hi => let ⟨b, ws, n, a, c, d⟩ := h.2.2 i hi; ⟨b, ws, n, a, List.mem_filter.mpr ⟨c, rfl⟩, d⟩⟩
theorem seq_ne_cell {h₀ h : Heap} {L cn : Addr} {all : List (Addr × Obj)} {on : Obj} {v : Option Value} (N : News h₀ L h all) (hc : (cn, on) ∈ all) (hd : on.data = .cell v) {p : Addr × Obj} (hp : p ∈ all) (hs : isSeq p = true) : p.1 ≠ cn := by
  intro e
  obtain ⟨pa, po⟩ := p
  dsimp only at e
  subst e
  have h1 := (N _ hp).1
  rw [(N _ hc).1] at h1
  cases h1
  unfold isSeq at hs
  dsimp only at hs
  rw [hd] at hs
  cases hs
/-- a loop over a range whose variable is a cell; nothing else changes -/
theorem tn_cell1 {prog : Program} {w : World} {A : Around} {E : Value → Shared → Prop} {s : Shared} {env : Env} {h₀ : Heap} {x : Str} {px : Pos} {body : List Stmt} {Q : Flow → Shared → Prop} {r : Addr} {a b : Int} {t u v : Tok} {n : Nat} {m₀ : Str → Option Value} {all rest : List (Addr × Obj)} {cn : Addr} {on : Obj} {vn : Option Value}
    (hh : A.handled = none) (hr : IsRange s.heap r a b 1 t u v) (hsm : Builtin.Range.small a b 1 = true) (hn : Builtin.Range.rangeSize a b 1 = (n : Int)) (F : Fr h₀ env.locals s.heap m₀) (N : News h₀ env.locals s.heap all) (hcn : (cn, on) ∈ all) (don : on.data = .cell vn) (hrest : ∀ p ∈ rest, p ∈ all ∧ p.1 ≠ cn)
    (turn : ∀ (i : Nat) (k : Int) t on vn h tk I oI, i < n → k = a + (i : Int) → on.data = .cell vn → Fr h₀ env.locals h m₀ → News h₀ env.locals h ((I, oI) :: (cn, on) :: rest) → LCg.Off1 I ((cn, on) :: rest) → (∀ p ∈ rest, p.1 ≠ cn) →
      wpAny (model prog w) A (assign (.Name x px) env (.int k t)) (fun _ s₂ => wpAny (model prog w) A (execs body env) (TnPost h₀ env.locals I oI (fun m nx => m = m₀ ∧ ∃ on, (∃ v, on.data = .cell v) ∧ nx = (cn, on) :: rest) { s with heap := h, toks := tk } Q) E s₂) E { s with heap := h, toks := tk })
    (done : ∀ on vn h tk, on.data = .cell vn → Fr h₀ env.locals h m₀ → News h₀ env.locals h ((cn, on) :: rest) → Q .next { s with heap := h, toks := tk }) :
    wpAny (model prog w) A (pyIter (.ref r)) (fun it s₂ => TurnsAt prog w A h₀ env (.Name x px) body Q E it s₂) E s := by
  refine tn_range (n := n) (news := (cn, on) :: rest) (fun _ m nx => m = m₀ ∧ ∃ on, (∃ v, on.data = .cell v) ∧ nx = (cn, on) :: rest) hh hr hsm hn F (newsPick N (List.forall_mem_cons.mpr ⟨hcn, fun p hp => (hrest p hp).1⟩)) ⟨rfl, on, ⟨vn, don⟩, rfl⟩ ?_ ?_
  · rintro i t m₁ nx h tk I oI hi ⟨rfl, on', ⟨v', d'⟩, rfl⟩ F₁ N₁ off _
    rw [Int.mul_one]
    exact turn i _ t on' v' h tk I oI hi rfl d' F₁ N₁ (off1_of off) fun p hp => (hrest p hp).2
  · rintro m₁ nx h tk ⟨rfl, on', ⟨v', d'⟩, rfl⟩ F₁ N₁
    exact done on' v' h tk d' F₁ N₁
end Mine
end -- part Cell1
section -- part Pure
open PySem PySem.W PyProof.Rows
set_option maxRecDepth 100000
set_option maxHeartbeats 1000000
namespace Mine
theorem allI {P : Int → Prop} (n : Nat) (h : ∀ i : Fin n, P (i.val : Int)) {m : Int} (h0 : 0 ≤ m) (h1 : m < n) : P m := by
  have := h ⟨m.toNat, by omega⟩
  rwa [show (((⟨m.toNat, by omega⟩ : Fin n).val : Nat) : Int) = m from Int.toNat_of_nonneg h0] at this
def combM (l r : Int) : Int := if Builtin.bitAnd l r = 0 then Builtin.bitOr l r else Builtin.bitAnd l r
def oneM (l r : Int) : Int := if Builtin.bitAnd l r = 0 then 1 else 0
def bitI (m k : Int) : Int := (m.fdiv (2 ^ k.toNat)).fmod 2
/-- what the masks' loop gives, seen at the end -/
structure MOk (a0 a1 a2 a3 a4 a5 a6 a7 : Int) (ms cs : List Int) : Prop where
  m8 : ms.getD 8 0 = 1 * 2 ^ a0.toNat
  m9 : ms.getD 9 0 = 1 * 2 ^ a1.toNat
  m10 : ms.getD 10 0 = 1 * 2 ^ a2.toNat
  m11 : ms.getD 11 0 = 1 * 2 ^ a3.toNat
  m12 : ms.getD 12 0 = 1 * 2 ^ a4.toNat
  m13 : ms.getD 13 0 = 1 * 2 ^ a5.toNat
  m14 : ms.getD 14 0 = 1 * 2 ^ a6.toNat
  m15 : ms.getD 15 0 = 1 * 2 ^ a7.toNat
  c8 : ∀ j, 8 ≤ j → j < 16 → cs.getD j 0 = 0
  mn : ∀ n, 1 ≤ n → n < 8 → ms.getD n 0 = combM (ms.getD (2 * n) 0) (ms.getD (2 * n + 1) 0)
  cn : ∀ n, 1 ≤ n → n < 8 → cs.getD n 0 = cs.getD (2 * n) 0 + cs.getD (2 * n + 1) 0 + oneM (ms.getD (2 * n) 0) (ms.getD (2 * n + 1) 0)
theorem msStep_eq (st : List Int × List Int) (n : Nat) : msStep st (n : Int) = (st.1.set n (combM (st.1.getD (2 * n) 0) (st.1.getD (2 * n + 1) 0)), st.2.set n (st.2.getD (2 * n) 0 + st.2.getD (2 * n + 1) 0 + oneM (st.1.getD (2 * n) 0) (st.1.getD (2 * n + 1) 0))) := by
  have e1 : (2 * (n : Int)).toNat = 2 * n := by omega
  have e2 : (2 * (n : Int) + 1).toNat = 2 * n + 1 := by omega
  have e3 : ((n : Int)).toNat = n := by omega
  unfold msStep combM oneM
  rw [e1, e2, e3]
  split
  · rfl
  · simp
def GoodM (st : List Int × List Int) (k : Nat) : Prop := st.1.length = 16 ∧ st.2.length = 16 ∧ ∀ n, k ≤ n → n < 8 → st.1.getD n 0 = combM (st.1.getD (2 * n) 0) (st.1.getD (2 * n + 1) 0) ∧ st.2.getD n 0 = st.2.getD (2 * n) 0 + st.2.getD (2 * n + 1) 0 + oneM (st.1.getD (2 * n) 0) (st.1.getD (2 * n + 1) 0)
theorem getD_set_ne {l : List Int} {i j : Nat} {x : Int} (h : j ≠ i) : (l.set i x).getD j 0 = l.getD j 0 := by
  simp only [List.getD_eq_getElem?_getD, List.getElem?_set_ne (Ne.symm h)]
theorem getD_set_eq {l : List Int} {i : Nat} {x : Int} (h : i < l.length) : (l.set i x).getD i 0 = x := by
  simp [List.getD_eq_getElem?_getD, h]
theorem goodM_step {st : List Int × List Int} {k : Nat} (hk : 1 ≤ k) (hk8 : k < 8) (h : GoodM st (k + 1)) : GoodM (msStep st (k : Int)) k := by
  obtain ⟨h1, h2, h3⟩ := h
  rw [msStep_eq]
  refine ⟨by simp [h1], by simp [h2], fun n hn hn8 => ?_⟩
  dsimp only
  rcases Nat.eq_or_lt_of_le hn with rfl | hlt
  · rw [getD_set_eq (by omega), getD_set_eq (by omega), getD_set_ne (by omega), getD_set_ne (by omega), getD_set_ne (by omega), getD_set_ne (by omega)]
    exact ⟨rfl, rfl⟩
  · rw [getD_set_ne (by omega), getD_set_ne (by omega), getD_set_ne (by omega), getD_set_ne (by omega), getD_set_ne (by omega), getD_set_ne (by omega)]
    exact h3 n hlt hn8
theorem keepM_step {st : List Int × List Int} {k j : Nat} (hk : k < 8) (hj : 8 ≤ j) : (msStep st (k : Int)).1.getD j 0 = st.1.getD j 0 ∧ (msStep st (k : Int)).2.getD j 0 = st.2.getD j 0 := by
  rw [msStep_eq]
  exact ⟨getD_set_ne (by omega), getD_set_ne (by omega)⟩
theorem mOk_of {a0 a1 a2 a3 a4 a5 a6 a7 : Int} {ms cs : List Int} (h : (ms, cs) = (downKs 7 7).foldl msStep (mk16 a0 a1 a2 a3 a4 a5 a6 a7, ct16)) : MOk a0 a1 a2 a3 a4 a5 a6 a7 ms cs := by
  have e : downKs 7 7 = [((7 : Nat) : Int), ((6 : Nat) : Int), ((5 : Nat) : Int), ((4 : Nat) : Int), ((3 : Nat) : Int), ((2 : Nat) : Int), ((1 : Nat) : Int)] := by decide
  rw [e] at h
  simp only [List.foldl_cons, List.foldl_nil] at h
  have g8 : GoodM (mk16 a0 a1 a2 a3 a4 a5 a6 a7, ct16) 8 := ⟨rfl, rfl, fun n h1 h2 => by omega⟩
  have g1 := goodM_step (by decide) (by decide) (goodM_step (by decide) (by decide) (goodM_step (by decide) (by decide) (goodM_step (by decide) (by decide) (goodM_step (by decide) (by decide) (goodM_step (by decide) (by decide) (goodM_step (k := 7) (by decide) (by decide) g8))))))
  have kp : ∀ j, 8 ≤ j → ms.getD j 0 = (mk16 a0 a1 a2 a3 a4 a5 a6 a7).getD j 0 ∧ cs.getD j 0 = ct16.getD j 0 := by
    intro j hj
    have e1 : ms = (ms, cs).1 := rfl
    have e2 : cs = (ms, cs).2 := rfl
    rw [e1, e2, h]
    have k1 := fun st (k : Nat) (hk : k < 8) => keepM_step (st := st) hk hj
    rw [(k1 _ 1 (by decide)).1, (k1 _ 2 (by decide)).1, (k1 _ 3 (by decide)).1, (k1 _ 4 (by decide)).1, (k1 _ 5 (by decide)).1, (k1 _ 6 (by decide)).1, (k1 _ 7 (by decide)).1,
      (k1 _ 1 (by decide)).2, (k1 _ 2 (by decide)).2, (k1 _ 3 (by decide)).2, (k1 _ 4 (by decide)).2, (k1 _ 5 (by decide)).2, (k1 _ 6 (by decide)).2, (k1 _ 7 (by decide)).2]
    exact ⟨rfl, rfl⟩
  rw [← h] at g1
  refine ⟨(kp 8 (by decide)).1, (kp 9 (by decide)).1, (kp 10 (by decide)).1, (kp 11 (by decide)).1, (kp 12 (by decide)).1, (kp 13 (by decide)).1, (kp 14 (by decide)).1, (kp 15 (by decide)).1, fun j h8 h16 => ?_, fun n hn hn8 => (g1.2.2 n hn hn8).1, fun n hn hn8 => (g1.2.2 n hn hn8).2⟩
  rw [(kp j h8).2]
  have : ∀ j : Fin 16, ct16.getD j.val 0 = 0 := by decide
  exact this ⟨j, h16⟩

theorem comb_range : ∀ i j : Fin 16, 1 ≤ (i.val : Int) → 1 ≤ (j.val : Int) → 1 ≤ combM i.val j.val ∧ combM i.val j.val < 16 := by decide +kernel
theorem all2 {P : Int → Int → Prop} (n k : Nat) (h : ∀ (i : Fin n) (j : Fin k), P (i.val : Int) (j.val : Int)) {m l : Int} (h0 : 0 ≤ m) (h1 : m < n) (l0 : 0 ≤ l) (l1 : l < k) : P m l :=
  allI (P := fun m => P m l) n (fun i => allI (P := fun l => P i.val l) k (fun j => h i j) l0 l1) h0 h1
theorem all3 {P : Int → Int → Int → Prop} (n k q : Nat) (h : ∀ (i : Fin n) (j : Fin k) (x : Fin q), P (i.val : Int) (j.val : Int) (x.val : Int)) {m l y : Int} (h0 : 0 ≤ m) (h1 : m < n) (l0 : 0 ≤ l) (l1 : l < k) (y0 : 0 ≤ y) (y1 : y < q) : P m l y :=
  allI (P := fun m => P m l y) n (fun i => all2 (P := fun l y => P i.val l y) k q (fun j x => h i j x) l0 l1 y0 y1) h0 h1
/-- every mask is from 1 to 15 -/
structure MRange (ms : List Int) : Prop where
  lo : ∀ n, 1 ≤ n → n < 16 → 1 ≤ ms.getD n 0
  hi : ∀ n, 1 ≤ n → n < 16 → ms.getD n 0 < 16
theorem pow_range {a : Int} (h0 : 0 ≤ a) (h1 : a < 4) : 1 ≤ (1 : Int) * 2 ^ a.toNat ∧ (1 : Int) * 2 ^ a.toNat < 16 := allI (P := fun a => 1 ≤ (1 : Int) * 2 ^ a.toNat ∧ (1 : Int) * 2 ^ a.toNat < 16) 4 (by decide) h0 h1
theorem comb_ok {l r : Int} (l0 : 1 ≤ l) (l1 : l < 16) (r0 : 1 ≤ r) (r1 : r < 16) : 1 ≤ combM l r ∧ combM l r < 16 :=
  all2 (P := fun l r => 1 ≤ l → 1 ≤ r → 1 ≤ combM l r ∧ combM l r < 16) 16 16 comb_range (by omega) l1 (by omega) r1 l0 r0
abbrev In4 (a : Int) : Prop := 0 ≤ a ∧ a < 4
theorem mRange_of {a0 a1 a2 a3 a4 a5 a6 a7 : Int} {ms cs : List Int} (M : MOk a0 a1 a2 a3 a4 a5 a6 a7 ms cs) (b0 : In4 a0) (b1 : In4 a1) (b2 : In4 a2) (b3 : In4 a3) (b4 : In4 a4) (b5 : In4 a5) (b6 : In4 a6) (b7 : In4 a7) : MRange ms := by
  have L : ∀ n, 8 ≤ n → n < 16 → 1 ≤ ms.getD n 0 ∧ ms.getD n 0 < 16 := by
    intro n h8 h16
    have hc := nat8to15 n h16 h8
    rcases hc with rfl | rfl | rfl | rfl | rfl | rfl | rfl | rfl
    · rw [M.m8]; exact pow_range b0.1 b0.2
    · rw [M.m9]; exact pow_range b1.1 b1.2
    · rw [M.m10]; exact pow_range b2.1 b2.2
    · rw [M.m11]; exact pow_range b3.1 b3.2
    · rw [M.m12]; exact pow_range b4.1 b4.2
    · rw [M.m13]; exact pow_range b5.1 b5.2
    · rw [M.m14]; exact pow_range b6.1 b6.2
    · rw [M.m15]; exact pow_range b7.1 b7.2
  have up : ∀ lo, 1 ≤ lo → (∀ n, 2 * lo ≤ n → n < 16 → 1 ≤ ms.getD n 0 ∧ ms.getD n 0 < 16) → ∀ n, lo ≤ n → n < 16 → 1 ≤ ms.getD n 0 ∧ ms.getD n 0 < 16 := by
    intro lo hlo H n hn h16
    by_cases h8 : 8 ≤ n
    · exact L n h8 h16
    · rw [M.mn n (by omega) (by omega)]
      have x := H (2 * n) (by omega) (by omega)
      have y := H (2 * n + 1) (by omega) (by omega)
      exact comb_ok x.1 x.2 y.1 y.2
  have u4 := up 4 (by decide) L
  have u2 := up 2 (by decide) u4
  have u1 := up 1 (by decide) u2
  exact ⟨fun n h h' => (u1 n h h').1, fun n h h' => (u1 n h h').2⟩
end Mine
end -- part Pure
section -- part Pure2
open PySem PySem.W PyProof.Rows
set_option maxRecDepth 100000
set_option maxHeartbeats 1000000
namespace Mine
def bc (l r k : Int) : Int := bitI l k + bitI r k
def rowD (l r : Int) : Prop :=
  (oneM l r = 1 ∧ (0 ≤ bc l r 0 ∧ 0 ≤ bc l r 1 ∧ 0 ≤ bc l r 2 ∧ 0 ≤ bc l r 3) ∧ (bc l r 0 ≤ 1 ∧ bc l r 1 ≤ 1 ∧ bc l r 2 ≤ 1 ∧ bc l r 3 ≤ 1) ∧ (bc l r 0 = 1 ∨ bc l r 1 = 1 ∨ bc l r 2 = 1 ∨ bc l r 3 = 1) ∧ (bitI (combM l r) 0 = bc l r 0 ∧ bitI (combM l r) 1 = bc l r 1 ∧ bitI (combM l r) 2 = bc l r 2 ∧ bitI (combM l r) 3 = bc l r 3)) ∨
  (oneM l r = 0 ∧ (0 ≤ bc l r 0 ∧ 0 ≤ bc l r 1 ∧ 0 ≤ bc l r 2 ∧ 0 ≤ bc l r 3) ∧ (bc l r 0 ≤ 2 ∧ bc l r 1 ≤ 2 ∧ bc l r 2 ≤ 2 ∧ bc l r 3 ≤ 2) ∧ (bc l r 0 = 2 ∨ bc l r 1 = 2 ∨ bc l r 2 = 2 ∨ bc l r 3 = 2) ∧
    (bitI (combM l r) 0 = (if bc l r 0 = 2 then 1 else 0) ∧ bitI (combM l r) 1 = (if bc l r 1 = 2 then 1 else 0) ∧ bitI (combM l r) 2 = (if bc l r 2 = 2 then 1 else 0) ∧ bitI (combM l r) 3 = (if bc l r 3 = 2 then 1 else 0)))
theorem rowD_all : ∀ i j : Fin 16, 1 ≤ (i.val : Int) → 1 ≤ (j.val : Int) → rowD i.val j.val := by
  unfold rowD
  decide +kernel
theorem rowD_of {l r : Int} (l0 : 1 ≤ l) (l1 : l < 16) (r0 : 1 ≤ r) (r1 : r < 16) : rowD l r :=
  all2 (P := fun l r => 1 ≤ l → 1 ≤ r → rowD l r) 16 16 rowD_all (by omega) l1 (by omega) r1 l0 r0
theorem rn_up {S M b : Int} (m : M ≤ S + 2 - b) {d : Int} (hb : b = d) : M ≤ S + 2 - d := hb ▸ m
theorem rn_lo {S M b d : Int} (m : M = S + 2 - b) (hb : b ≤ d) : S + 2 - d ≤ M := by omega
theorem rn_one {S M X b z : Int} (hM : M = S + 1) (hX : X = S + 2 - b) (h1 : b ≤ 1) (hz : z = if 1 + M < X then 1 + M else X) (h0 : 0 ≤ b) : z = S + 1 + 1 - b := by
  split at hz <;> omega
theorem rn_two {S M X b z : Int} (hM : M = S) (hX : X = S + 2 - b) (h1 : b ≤ 2) (hz : z = if 1 + M < X then 1 + M else X) (h0 : 0 ≤ b) : z = S + 0 + 1 - (if b = 2 then 1 else 0) := by
  split at hz <;> split <;> omega
theorem rn_sum {x y cl cr b c : Int} (hx : x = cl + 1 - b) (hy : y = cr + 1 - c) : x + y = cl + cr + 2 - (b + c) := by omega
theorem rn_min {S M b0 b1 b2 b3 d : Int} (m0 : M ≤ S + 2 - b0) (m1 : M ≤ S + 2 - b1) (m2 : M ≤ S + 2 - b2) (m3 : M ≤ S + 2 - b3) (mm : M = S + 2 - b0 ∨ M = S + 2 - b1 ∨ M = S + 2 - b2 ∨ M = S + 2 - b3)
    (h : b0 ≤ d ∧ b1 ≤ d ∧ b2 ≤ d ∧ b3 ≤ d) (c : b0 = d ∨ b1 = d ∨ b2 = d ∨ b3 = d) : M = S + 2 - d :=
  Int.le_antisymm (c.elim (rn_up m0) fun c => c.elim (rn_up m1) fun c => c.elim (rn_up m2) (rn_up m3))
    (mm.elim (fun e => rn_lo e h.1) fun mm => mm.elim (fun e => rn_lo e h.2.1) fun mm => mm.elim (fun e => rn_lo e h.2.2.1) fun e => rn_lo e h.2.2.2)
/-- the heart of the fewest: a node's row from its two children's -/
theorem row_node {l r cl cr x0 x1 x2 x3 y0 y1 y2 y3 M z : Int} (l0 : 1 ≤ l) (l1 : l < 16) (r0 : 1 ≤ r) (r1 : r < 16)
    (hx0 : x0 = cl + 1 - bitI l 0) (hx1 : x1 = cl + 1 - bitI l 1) (hx2 : x2 = cl + 1 - bitI l 2) (hx3 : x3 = cl + 1 - bitI l 3)
    (hy0 : y0 = cr + 1 - bitI r 0) (hy1 : y1 = cr + 1 - bitI r 1) (hy2 : y2 = cr + 1 - bitI r 2) (hy3 : y3 = cr + 1 - bitI r 3)
    (m0 : M ≤ x0 + y0) (m1 : M ≤ x1 + y1) (m2 : M ≤ x2 + y2) (m3 : M ≤ x3 + y3) (mm : M = x0 + y0 ∨ M = x1 + y1 ∨ M = x2 + y2 ∨ M = x3 + y3) :
    (z = (if 1 + M < x0 + y0 then 1 + M else x0 + y0) → z = cl + cr + oneM l r + 1 - bitI (combM l r) 0) ∧ (z = (if 1 + M < x1 + y1 then 1 + M else x1 + y1) → z = cl + cr + oneM l r + 1 - bitI (combM l r) 1) ∧
    (z = (if 1 + M < x2 + y2 then 1 + M else x2 + y2) → z = cl + cr + oneM l r + 1 - bitI (combM l r) 2) ∧ (z = (if 1 + M < x3 + y3 then 1 + M else x3 + y3) → z = cl + cr + oneM l r + 1 - bitI (combM l r) 3) := by
  have D := rowD_of l0 l1 r0 r1
  unfold rowD bc at D
  have e0 := rn_sum hx0 hy0
  have e1 := rn_sum hx1 hy1
  have e2 := rn_sum hx2 hy2
  have e3 := rn_sum hx3 hy3
  rw [e0] at m0 mm
  rw [e1] at m1 mm
  rw [e2] at m2 mm
  rw [e3] at m3 mm
  rcases D with ⟨h1, a, b, c, d0, d1, d2, d3⟩ | ⟨h1, a, b, c, d0, d1, d2, d3⟩
  · have hM : M = cl + cr + 1 := (rn_min m0 m1 m2 m3 mm b c).trans (by omega)
    rw [h1, d0, d1, d2, d3]
    exact ⟨fun hz => rn_one hM e0 b.1 hz a.1, fun hz => rn_one hM e1 b.2.1 hz a.2.1, fun hz => rn_one hM e2 b.2.2.1 hz a.2.2.1, fun hz => rn_one hM e3 b.2.2.2 hz a.2.2.2⟩
  · have hM : M = cl + cr := (rn_min m0 m1 m2 m3 mm b c).trans (by omega)
    rw [h1, d0, d1, d2, d3]
    exact ⟨fun hz => rn_two hM e0 b.1 hz a.1, fun hz => rn_two hM e1 b.2.1 hz a.2.1, fun hz => rn_two hM e2 b.2.2.1 hz a.2.2.1, fun hz => rn_two hM e3 b.2.2.2 hz a.2.2.2⟩
theorem row_leaf {a z k : Int} (b : In4 a) (hk : In4 k) (h : z = if a = k then 0 else 1) : z = 0 + 1 - bitI (1 * 2 ^ a.toNat) k := by
  rw [h]
  exact all2 (P := fun a k => (if a = k then (0 : Int) else 1) = 0 + 1 - bitI (1 * 2 ^ a.toNat) k) 4 4 (by decide +kernel) b.1 b.2 hk.1 hk.2
/- ---- the rulebook ---- -/
theorem has_bit {m k : Int} (m0 : 0 ≤ m) (m1 : m < 16) (hk : In4 k) : (hasB m k ∧ bitI m k = 1) ∨ (¬ hasB m k ∧ bitI m k = 0) :=
  all2 (P := fun m k => (hasB m k ∧ bitI m k = 1) ∨ (¬ hasB m k ∧ bitI m k = 0)) 16 4 (by decide +kernel) m0 m1 hk.1 hk.2
theorem kept_ok {m turn said : Int} (m0 : 1 ≤ m) (m1 : m < 16) (ht : In4 turn) (hs : In4 said) : In4 (keptF m turn said) ∧ hasB m (keptF m turn said) :=
  all3 (P := fun m turn said => 1 ≤ m → In4 (keptF m turn said) ∧ hasB m (keptF m turn said)) 16 4 4 (by decide +kernel) (by omega) m1 ht.1 ht.2 hs.1 hs.2 m0
theorem has_pow {a k : Int} (b : In4 a) (hk : In4 k) : hasB (1 * 2 ^ a.toNat) k → k = a :=
  all2 (P := fun a k => hasB (1 * 2 ^ a.toNat) k → k = a) 4 4 (by decide +kernel) b.1 b.2 hk.1 hk.2
def nowF (ms : List Int) (turn : Int) (n : Nat) (said : Int) : Int := if hasB (ms.getD n 0) said then said else keptF (ms.getD n 0) turn said
def ownF (ms : List Int) (turn : Int) (n : Nat) (said : Int) : List (Int × Int) := if hasB (ms.getD n 0) said then [] else [((n : Int), keptF (ms.getD n 0) turn said)]
theorem lay_unf (ms : List Int) (turn : Int) (g n : Nat) (said : Int) : layN ms turn (g + 1) (n : Int) said = ownF ms turn n said ++ (if n < 8 then layN ms turn g ((2 * n : Nat) : Int) (nowF ms turn n said) ++ layN ms turn g ((2 * n + 1 : Nat) : Int) (nowF ms turn n said) else []) := by
  have e1 : ((2 * n : Nat) : Int) = 2 * (n : Int) := by omega
  have e2 : ((2 * n + 1 : Nat) : Int) = 2 * (n : Int) + 1 := by omega
  have e3 : ((n : Int)).toNat = n := by omega
  conv => lhs; unfold layN
  unfold ownF nowF
  rw [e3, e1, e2]
  dsimp only
  by_cases hn : n < 8
  · have hn' : (n : Int) < 8 := by omega
    rw [if_pos hn', if_pos hn', if_pos hn]
    split <;> simp
  · have hn' : ¬ (n : Int) < 8 := by omega
    rw [if_neg hn', if_neg hn', if_neg hn]
    split <;> simp
theorem now_ok {ms : List Int} {turn said : Int} {n : Nat} (R : MRange ms) (h1 : 1 ≤ n) (h2 : n < 16) (ht : In4 turn) (hs : In4 said) : In4 (nowF ms turn n said) ∧ hasB (ms.getD n 0) (nowF ms turn n said) := by
  unfold nowF
  split
  · rename_i h
    exact ⟨hs, h⟩
  · exact kept_ok (R.lo n h1 h2) (R.hi n h1 h2) ht hs
theorem len_own {ms : List Int} {turn said : Int} {n : Nat} (R : MRange ms) (h1 : 1 ≤ n) (h2 : n < 16) (hs : In4 said) : ((ownF ms turn n said).length : Int) = 1 - bitI (ms.getD n 0) said := by
  have h := has_bit (m := ms.getD n 0) (k := said) (by have := R.lo n h1 h2; omega) (R.hi n h1 h2) hs
  unfold ownF
  rcases h with ⟨a, b⟩ | ⟨a, b⟩
  · rw [if_pos a, b]; rfl
  · rw [if_neg a, b]; rfl
theorem bit_comb {l r s : Int} (l0 : 1 ≤ l) (l1 : l < 16) (r0 : 1 ≤ r) (r1 : r < 16) (hs : In4 s) (h : bitI (combM l r) s = 1) : bitI l s + bitI r s = 2 - oneM l r :=
  all3 (P := fun l r s => 1 ≤ l → 1 ≤ r → bitI (combM l r) s = 1 → bitI l s + bitI r s = 2 - oneM l r) 16 16 4 (by decide +kernel) (by omega) l1 (by omega) r1 hs.1 hs.2 l0 r0 h
theorem len_lay {a0 a1 a2 a3 a4 a5 a6 a7 turn : Int} {ms cs : List Int} (M : MOk a0 a1 a2 a3 a4 a5 a6 a7 ms cs) (R : MRange ms) (ht : In4 turn) : ∀ (g n : Nat) (said : Int), 1 ≤ n → n < 16 → 16 ≤ n * 2 ^ g → In4 said →
    ((layN ms turn g (n : Int) said).length : Int) = cs.getD n 0 + 1 - bitI (ms.getD n 0) said
  | 0, n, said, h1, h2, h3, hs => by simp at h3; omega
  | g + 1, n, said, h1, h2, h3, hs => by
    rw [lay_unf, List.length_append]
    have e := len_own (turn := turn) R h1 h2 hs
    by_cases hn : n < 8
    · rw [if_pos hn, List.length_append]
      have q := now_ok R h1 h2 ht hs
      have p2 : n * 2 ^ (g + 1) = (2 * n) * 2 ^ g := by rw [Nat.pow_succ, Nat.mul_comm 2 n, Nat.mul_assoc, Nat.mul_comm 2]
      have i1 := len_lay M R ht g (2 * n) (nowF ms turn n said) (by omega) (by omega) (by omega) q.1
      have i2 := len_lay M R ht g (2 * n + 1) (nowF ms turn n said) (by omega) (by omega) (by rw [Nat.add_mul]; omega) q.1
      have hb := has_bit (m := ms.getD n 0) (k := nowF ms turn n said) (by have := R.lo n h1 h2; omega) (R.hi n h1 h2) q.1
      have hb1 : bitI (ms.getD n 0) (nowF ms turn n said) = 1 := hb.elim (fun x => x.2) fun x => absurd q.2 x.1
      rw [M.mn n h1 hn] at hb1
      have hc := bit_comb (R.lo _ (by omega) (by omega)) (R.hi _ (by omega) (by omega)) (R.lo _ (by omega) (by omega)) (R.hi _ (by omega) (by omega)) q.1 hb1
      rw [M.cn n h1 hn]
      omega
    · rw [if_neg hn, M.c8 n (by omega) h2]
      simp only [List.length_nil]
      omega
end Mine
end -- part Pure2
section -- part Pure3
open PySem PySem.W PyProof.Rows
set_option maxRecDepth 100000
set_option maxHeartbeats 1000000
namespace Mine
def anc (q : Nat) (x : Int) : Prop := ∃ j : Nat, x = ((q / 2 ^ j : Nat) : Int)
def Deep (rs : List (Int × Int)) (q : Nat) (said T : Int) : Prop :=
  ((∀ x k, (x, k) ∈ rs → ¬ anc q x) ∧ said = T) ∨ ∃ x, anc q x ∧ (x, T) ∈ rs ∧ ∀ y k, (y, k) ∈ rs → anc q y → y ≤ x ∧ (y = x → k = T)
theorem own_mem {ms : List Int} {turn said x k : Int} {n : Nat} (h : (x, k) ∈ ownF ms turn n said) : x = (n : Int) ∧ k = keptF (ms.getD n 0) turn said := by
  unfold ownF at h
  split at h
  · cases h
  · rw [List.mem_singleton] at h
    cases h
    exact ⟨rfl, rfl⟩
theorem lay_mem {ms : List Int} {turn : Int} (R : MRange ms) (ht : In4 turn) : ∀ (g n : Nat) (said x k : Int), 1 ≤ n → n < 16 → In4 said → (x, k) ∈ layN ms turn g (n : Int) said → ∃ y : Nat, x = (y : Int) ∧ 1 ≤ y ∧ y < 16 ∧ In4 k ∧ ∃ i, y / 2 ^ i = n
  | 0, n, said, x, k, h1, h2, hs, h => by simp [layN] at h
  | g + 1, n, said, x, k, h1, h2, hs, h => by
    rw [lay_unf] at h
    rcases List.mem_append.mp h with h | h
    · obtain ⟨rfl, rfl⟩ := own_mem h
      exact ⟨n, rfl, h1, h2, (kept_ok (R.lo n h1 h2) (R.hi n h1 h2) ht hs).1, 0, by simp⟩
    · split at h
      · rename_i hn
        have q := now_ok R h1 h2 ht hs
        rcases List.mem_append.mp h with h | h
        · obtain ⟨y, a, b, c, d, i, e⟩ := lay_mem R ht g (2 * n) _ x k (by omega) (by omega) q.1 h
          exact ⟨y, a, b, c, d, i + 1, by rw [Nat.pow_succ, ← Nat.div_div_eq_div_mul, e]; omega⟩
        · obtain ⟨y, a, b, c, d, i, e⟩ := lay_mem R ht g (2 * n + 1) _ x k (by omega) (by omega) q.1 h
          exact ⟨y, a, b, c, d, i + 1, by rw [Nat.pow_succ, ← Nat.div_div_eq_div_mul, e]; omega⟩
      · cases h
theorem div_pow_add (q a b : Nat) : q / 2 ^ (a + b) = q / 2 ^ a / 2 ^ b := by rw [Nat.pow_add, Nat.div_div_eq_div_mul]
theorem path_one {q a b c o n : Nat} (hn : 1 ≤ n) (hc : q / 2 ^ a = c) (ho : q / 2 ^ b = o) (c2 : 2 * n ≤ c ∧ c ≤ 2 * n + 1) (o2 : 2 * n ≤ o ∧ o ≤ 2 * n + 1) : o = c := by
  have low : ∀ (x i j : Nat), i < j → q / 2 ^ i = x → q / 2 ^ j ≤ x / 2 := by
    intro x i j hij hx
    obtain ⟨d, rfl⟩ : ∃ d, j = i + (d + 1) := ⟨j - i - 1, by omega⟩
    rw [div_pow_add, hx, Nat.pow_succ, Nat.mul_comm, ← Nat.div_div_eq_div_mul]
    exact Nat.div_le_self _ _
  rcases Nat.lt_trichotomy a b with h | h | h
  · have := low c a b h hc
    omega
  · subst h
    omega
  · have := low o b a h ho
    omega
/-- the rules of the sibling's side say nothing of q -/
theorem sib_none {ms : List Int} {turn said : Int} {g o c n a q : Nat} (R : MRange ms) (ht : In4 turn) (hs : In4 said) (hn : 1 ≤ n) (h8 : n < 8) (hc : q / 2 ^ a = c) (c2 : 2 * n ≤ c ∧ c ≤ 2 * n + 1) (o2 : 2 * n ≤ o ∧ o ≤ 2 * n + 1) (hne : o ≠ c) :
    ∀ x k, (x, k) ∈ layN ms turn g (o : Int) said → ¬ anc q x := by
  rintro x k h ⟨j, hx⟩
  obtain ⟨y, rfl, _, _, _, i, hi⟩ := lay_mem R ht g o said _ k (by omega) (by omega) hs h
  have hy : y = q / 2 ^ j := by exact_mod_cast hx
  rw [hy, ← div_pow_add] at hi
  exact hne (path_one hn hc hi c2 o2)
theorem deep_join {own A B : List (Int × Int)} {q n : Nat} {said said' T : Int} (hq : anc q (n : Int)) (ho : (own = [] ∧ said' = said) ∨ own = [((n : Int), said')]) (hA : Deep A q said' T) (hB : ∀ x k, (x, k) ∈ B → ¬ anc q x) (hlt : ∀ x k, (x, k) ∈ A → anc q x → (n : Int) < x) :
    Deep (own ++ (A ++ B)) q said T ∧ Deep (own ++ (B ++ A)) q said T := by
  have main : ∀ l : List (Int × Int), (∀ p, p ∈ l ↔ p ∈ own ∨ p ∈ A ∨ p ∈ B) → Deep l q said T := by
    intro l hl
    rcases hA with ⟨h1, h2⟩ | ⟨x, hx, hm, hmax⟩
    · rcases ho with ⟨rfl, e⟩ | rfl
      · refine .inl ⟨fun x k h => ?_, e ▸ h2⟩
        rcases (hl _).mp h with h | h | h
        · cases h
        · exact h1 x k h
        · exact hB x k h
      · refine .inr ⟨(n : Int), hq, (hl _).mpr (.inl (by rw [h2]; exact List.mem_singleton.mpr rfl)), fun y k h ha => ?_⟩
        rcases (hl _).mp h with h | h | h
        · rw [List.mem_singleton] at h
          cases h
          exact ⟨Int.le_refl _, fun _ => h2⟩
        · exact absurd ha (h1 y k h)
        · exact absurd ha (hB y k h)
    · refine .inr ⟨x, hx, (hl _).mpr (.inr (.inl hm)), fun y k h ha => ?_⟩
      rcases (hl _).mp h with h | h | h
      · have hxn := hlt x T hm hx
        rcases ho with ⟨rfl, e⟩ | rfl
        · cases h
        · rw [List.mem_singleton] at h
          cases h
          exact ⟨by omega, fun e => absurd e (by omega)⟩
      · exact hmax y k h ha
      · exact absurd ha (hB y k h)
  exact ⟨main _ fun p => by simp only [List.mem_append], main _ fun p => by simp only [List.mem_append]; constructor <;> (intro h; rcases h with h | h | h <;> simp [h])⟩
theorem own_now {ms : List Int} {turn said : Int} {n : Nat} : (ownF ms turn n said = [] ∧ nowF ms turn n said = said) ∨ ownF ms turn n said = [((n : Int), nowF ms turn n said)] := by
  unfold ownF nowF
  split
  · exact .inl ⟨rfl, rfl⟩
  · exact .inr rfl
theorem lay_deep {ms : List Int} {turn T : Int} {q : Nat} (R : MRange ms) (ht : In4 turn) (hT : In4 T) (hq8 : 8 ≤ q) (hq16 : q < 16) (hm : ms.getD q 0 = 1 * 2 ^ T.toNat) : ∀ (g n j : Nat) (said : Int), 1 ≤ n → n < 16 → 16 ≤ n * 2 ^ g → In4 said → q / 2 ^ j = n → Deep (layN ms turn g (n : Int) said) q said T
  | 0, n, j, said, h1, h2, h3, hs, hj => by simp at h3; omega
  | g + 1, n, j, said, h1, h2, h3, hs, hj => by
    rw [lay_unf]
    have hanc : anc q (n : Int) := ⟨j, by rw [hj]⟩
    have qn := now_ok R h1 h2 ht hs
    by_cases hn : n < 8
    · rw [if_pos hn]
      have p2 : n * 2 ^ (g + 1) = (2 * n) * 2 ^ g := by rw [Nat.pow_succ, Nat.mul_comm 2 n, Nat.mul_assoc, Nat.mul_comm 2]
      obtain ⟨i, rfl⟩ : ∃ i, j = i + 1 := by
        cases j with
        | zero => simp at hj; omega
        | succ i => exact ⟨i, rfl⟩
      have hc : q / 2 ^ i / 2 = n := by rw [div_pow_add] at hj; simpa using hj
      have lt : ∀ (c : Nat) (x k : Int), 2 * n ≤ c → c ≤ 2 * n + 1 → (x, k) ∈ layN ms turn g (c : Int) (nowF ms turn n said) → (n : Int) < x := by
        intro c x k c1 c2 h
        obtain ⟨y, rfl, y1, _, _, i', hi⟩ := lay_mem R ht g c _ x k (by omega) (by omega) qn.1 h
        have : c ≤ y := by rw [← hi]; exact Nat.div_le_self _ _
        omega
      have hcc : q / 2 ^ i = 2 * n ∨ q / 2 ^ i = 2 * n + 1 := by omega
      rcases hcc with hc' | hc'
      · have D := lay_deep R ht hT hq8 hq16 hm g (2 * n) i (nowF ms turn n said) (by omega) (by omega) (by omega) qn.1 hc'
        exact (deep_join hanc own_now D (sib_none (o := 2 * n + 1) R ht qn.1 h1 hn hc' (by omega) (by omega) (by omega)) fun x k h _ => lt _ x k (by omega) (by omega) h).1
      · have D := lay_deep R ht hT hq8 hq16 hm g (2 * n + 1) i (nowF ms turn n said) (by omega) (by omega) (by rw [Nat.add_mul]; omega) qn.1 hc'
        exact (deep_join hanc own_now D (sib_none (o := 2 * n) R ht qn.1 h1 hn hc' (by omega) (by omega) (by omega)) fun x k h _ => lt _ x k (by omega) (by omega) h).2
    · rw [if_neg hn]
      have hqn : n = q := by
        cases j with
        | zero => simpa using hj.symm
        | succ j =>
          have : q / 2 ^ (j + 1) ≤ q / 2 := by
            rw [Nat.pow_succ, Nat.mul_comm, ← Nat.div_div_eq_div_mul]
            exact Nat.div_le_self _ _
          omega
      subst hqn
      have hk : nowF ms turn n said = T := by
        have h := qn.2
        rw [hm] at h
        exact has_pow hT qn.1 h
      have D : Deep [] n (nowF ms turn n said) T := .inl ⟨fun _ _ h => (nomatch h), hk⟩
      have J := (deep_join (B := []) hanc own_now D (fun _ _ h => by cases h) fun _ _ h => by cases h).1
      simpa using J
end Mine
end -- part Pure3
section -- part Pure4
open PySem PySem.W PyProof.Rows
set_option maxRecDepth 100000
set_option maxHeartbeats 1000000
namespace Mine
def rowF (ms cs : List Int) (n : Nat) : List Int := [cs.getD n 0 + 1 - bitI (ms.getD n 0) 0, cs.getD n 0 + 1 - bitI (ms.getD n 0) 1, cs.getD n 0 + 1 - bitI (ms.getD n 0) 2, cs.getD n 0 + 1 - bitI (ms.getD n 0) 3]
def FOk (ms cs : List Int) (st : List (List Int)) (k : Nat) : Prop := st.length = 16 ∧ ∀ n, k ≤ n → n < 16 → st.getD n [] = rowF ms cs n
theorem row_comb {ms cs : List Int} {n : Nat} {a0 a1 a2 a3 a4 a5 a6 a7 : Int} (M : MOk a0 a1 a2 a3 a4 a5 a6 a7 ms cs) (R : MRange ms) (h1 : 1 ≤ n) (h8 : n < 8) : rowOf (rowF ms cs (2 * n)) (rowF ms cs (2 * n + 1)) = rowF ms cs n := by
  have q := fun z => row_node (l := ms.getD (2 * n) 0) (r := ms.getD (2 * n + 1) 0) (cl := cs.getD (2 * n) 0) (cr := cs.getD (2 * n + 1) 0) (z := z)
    (M := min4 (cs.getD (2 * n) 0 + 1 - bitI (ms.getD (2 * n) 0) 0 + (cs.getD (2 * n + 1) 0 + 1 - bitI (ms.getD (2 * n + 1) 0) 0)) (cs.getD (2 * n) 0 + 1 - bitI (ms.getD (2 * n) 0) 1 + (cs.getD (2 * n + 1) 0 + 1 - bitI (ms.getD (2 * n + 1) 0) 1)) (cs.getD (2 * n) 0 + 1 - bitI (ms.getD (2 * n) 0) 2 + (cs.getD (2 * n + 1) 0 + 1 - bitI (ms.getD (2 * n + 1) 0) 2)) (cs.getD (2 * n) 0 + 1 - bitI (ms.getD (2 * n) 0) 3 + (cs.getD (2 * n + 1) 0 + 1 - bitI (ms.getD (2 * n + 1) 0) 3)))
    (R.lo _ (by omega) (by omega)) (R.hi _ (by omega) (by omega)) (R.lo _ (by omega) (by omega)) (R.hi _ (by omega) (by omega)) rfl rfl rfl rfl rfl rfl rfl rfl min4_a min4_b min4_c min4_d min4_mem
  have e0 := (q _).1 rfl
  have e1 := (q _).2.1 rfl
  have e2 := (q _).2.2.1 rfl
  have e3 := (q _).2.2.2 rfl
  rw [← M.mn n h1 h8] at e0 e1 e2 e3
  have c := M.cn n h1 h8
  show [_, _, _, _] = [_, _, _, _]
  rw [c]
  exact congr (congrArg List.cons e0) (congr (congrArg List.cons e1) (congr (congrArg List.cons e2) (congr (congrArg List.cons e3) rfl)))
theorem fOk_step {ms cs : List Int} {st : List (List Int)} {k : Nat} {a0 a1 a2 a3 a4 a5 a6 a7 : Int} (M : MOk a0 a1 a2 a3 a4 a5 a6 a7 ms cs) (R : MRange ms) (h1 : 1 ≤ k) (h8 : k < 8) (h : FOk ms cs st (k + 1)) : FOk ms cs (fewStep st (k : Int)) k := by
  have e1 : (2 * (k : Int)).toNat = 2 * k := by omega
  have e2 : (2 * (k : Int) + 1).toNat = 2 * k + 1 := by omega
  have e3 : ((k : Int)).toNat = k := by omega
  unfold fewStep
  rw [e1, e2, e3, h.2 (2 * k) (by omega) (by omega), h.2 (2 * k + 1) (by omega) (by omega), row_comb M R h1 h8]
  refine ⟨by rw [List.length_set, h.1], fun n hn hn16 => ?_⟩
  rcases Nat.eq_or_lt_of_le hn with rfl | hlt
  · rw [List.getD_eq_getElem?_getD, List.getElem?_set_self (by rw [h.1]; omega)]; rfl
  · rw [List.getD_eq_getElem?_getD, List.getElem?_set_ne (by omega), ← List.getD_eq_getElem?_getD]
    exact h.2 n hlt hn16
theorem leafR_row {ms cs : List Int} {a : Int} {n : Nat} (b : In4 a) (hm : ms.getD n 0 = 1 * 2 ^ a.toNat) (hc : cs.getD n 0 = 0) : leafR a = rowF ms cs n := by
  unfold leafR rowF
  rw [hm, hc, ← row_leaf (k := 0) b (by decide) rfl, ← row_leaf (k := 1) b (by decide) rfl, ← row_leaf (k := 2) b (by decide) rfl, ← row_leaf (k := 3) b (by decide) rfl]
theorem few_rows {a0 a1 a2 a3 a4 a5 a6 a7 : Int} {ms cs : List Int} {rs : List (List Int)} (M : MOk a0 a1 a2 a3 a4 a5 a6 a7 ms cs) (R : MRange ms) (b0 : In4 a0) (b1 : In4 a1) (b2 : In4 a2) (b3 : In4 a3) (b4 : In4 a4) (b5 : In4 a5) (b6 : In4 a6) (b7 : In4 a7)
    (h : rs = (downKs 7 7).foldl fewStep (few0 a0 a1 a2 a3 a4 a5 a6 a7)) : ∀ n, 1 ≤ n → n < 16 → rs.getD n [] = rowF ms cs n := by
  have e : downKs 7 7 = [((7 : Nat) : Int), ((6 : Nat) : Int), ((5 : Nat) : Int), ((4 : Nat) : Int), ((3 : Nat) : Int), ((2 : Nat) : Int), ((1 : Nat) : Int)] := by decide
  rw [e] at h
  simp only [List.foldl_cons, List.foldl_nil] at h
  have s8 : FOk ms cs (few0 a0 a1 a2 a3 a4 a5 a6 a7) 8 := by
    refine ⟨rfl, fun n h1 h2 => ?_⟩
    have hc := nat8to15 n h2 h1
    rcases hc with rfl | rfl | rfl | rfl | rfl | rfl | rfl | rfl
    · exact leafR_row b0 M.m8 (M.c8 _ (by decide) (by decide))
    · exact leafR_row b1 M.m9 (M.c8 _ (by decide) (by decide))
    · exact leafR_row b2 M.m10 (M.c8 _ (by decide) (by decide))
    · exact leafR_row b3 M.m11 (M.c8 _ (by decide) (by decide))
    · exact leafR_row b4 M.m12 (M.c8 _ (by decide) (by decide))
    · exact leafR_row b5 M.m13 (M.c8 _ (by decide) (by decide))
    · exact leafR_row b6 M.m14 (M.c8 _ (by decide) (by decide))
    · exact leafR_row b7 M.m15 (M.c8 _ (by decide) (by decide))
  have s1 := fOk_step M R (by decide) (by decide) (fOk_step M R (by decide) (by decide) (fOk_step M R (by decide) (by decide) (fOk_step M R (by decide) (by decide) (fOk_step M R (by decide) (by decide) (fOk_step M R (by decide) (by decide) (fOk_step (k := 7) M R (by decide) (by decide) s8))))))
  rw [← h] at s1
  exact s1.2
end Mine
end -- part Pure4
section -- part Pure5
open PySem PySem.W PyProof.Rows
set_option maxRecDepth 100000
set_option maxHeartbeats 1000000
namespace Mine
def stepA (w : Int → Int) (st : Int × Int) (r : Int × Int) : Int × Int :=
  if w r.1 ≠ 0 then (if w r.1 > st.1 then (w r.1, r.2) else if w r.1 = st.1 ∧ st.2 = 1 then (st.1, r.2) else st) else st
theorem stepA_none {w : Int → Int} : ∀ (rs : List (Int × Int)) (st : Int × Int), (∀ r ∈ rs, w r.1 = 0) → rs.foldl (stepA w) st = st
  | [], _, _ => rfl
  | r :: rs, st, h => by
    rw [List.foldl_cons]
    have e : stepA w st r = st := by unfold stepA; rw [if_neg (by simp [h r (.head _)])]
    rw [e]
    exact stepA_none rs st fun r hr => h r (.tail _ hr)
theorem stepA_max {w : Int → Int} {W T : Int} (hW : W ≠ 0) : ∀ (rs : List (Int × Int)) (st : Int × Int), (st.1 < W ∨ (st.1 = W ∧ st.2 = T)) → (∀ r ∈ rs, w r.1 ≤ W ∧ (w r.1 = W → r.2 = T)) →
    ((rs.foldl (stepA w) st).1 < W ∨ ((rs.foldl (stepA w) st).1 = W ∧ (rs.foldl (stepA w) st).2 = T)) ∧ ((∃ r ∈ rs, w r.1 = W) ∨ st.1 = W → (rs.foldl (stepA w) st).1 = W)
  | [], st, h, _ => ⟨h, fun q => q.elim (fun ⟨_, hr, _⟩ => nomatch hr) id⟩
  | r :: rs, st, h, ha => by
    rw [List.foldl_cons]
    obtain ⟨a1, a2⟩ := ha r (.head _)
    have hs : ((stepA w st r).1 < W ∨ ((stepA w st r).1 = W ∧ (stepA w st r).2 = T)) ∧ (w r.1 = W ∨ st.1 = W → (stepA w st r).1 = W) := by
      unfold stepA
      split
      · split
        · refine ⟨?_, fun q => ?_⟩
          · by_cases e : w r.1 = W
            · exact .inr ⟨e, a2 e⟩
            · exact .inl (by dsimp only; omega)
          · dsimp only; omega
        · split
          · rename_i h1 h2 h3
            refine ⟨?_, fun q => ?_⟩
            · rcases h with h | ⟨h, _⟩
              · exact .inl h
              · exact .inr ⟨h, a2 (by omega)⟩
            · dsimp only; omega
          · refine ⟨h, fun q => by omega⟩
      · rename_i h1
        refine ⟨h, fun q => ?_⟩
        have : w r.1 = 0 := by simpa using h1
        omega
    obtain ⟨i1, i2⟩ := stepA_max hW rs (stepA w st r) hs.1 fun r hr => ha r (.tail _ hr)
    refine ⟨i1, fun q => i2 ?_⟩
    rcases q with ⟨r', hr', e⟩ | e
    · rcases List.mem_cons.mp hr' with rfl | hr'
      · exact .inr (hs.2 (.inl e))
      · exact .inl ⟨r', hr', e⟩
    · exact .inr (hs.2 (.inr e))
theorem Deep.congr {rs rs' : List (Int × Int)} {q : Nat} {said T : Int} (h : Deep rs q said T) (e : ∀ p, p ∈ rs' ↔ p ∈ rs) : Deep rs' q said T := by
  rcases h with ⟨h1, h2⟩ | ⟨x, hx, hm, hmax⟩
  · exact .inl ⟨fun x k hk => h1 x k ((e _).mp hk), h2⟩
  · exact .inr ⟨x, hx, (e _).mpr hm, fun y k hk => hmax y k ((e _).mp hk)⟩
/-- weights that grow along the path to q and are nought off it -/
structure WOk (w : Int → Int) (q : Nat) : Prop where
  off : ∀ y : Nat, 1 ≤ y → y < 16 → ¬ anc q y → w y = 0
  pos : ∀ y : Nat, 1 ≤ y → y < 16 → anc q y → 0 < w y
  mono : ∀ x y : Nat, 1 ≤ x → x < 16 → 1 ≤ y → y < 16 → anc q x → anc q y → y < x → w y < w x
theorem allow_pure {w : Int → Int} {rs : List (Int × Int)} {q : Nat} {T : Int} (hw : WOk w q) (hn : ∀ r ∈ rs, ∃ y : Nat, r.1 = (y : Int) ∧ 1 ≤ y ∧ y < 16) (D : Deep rs q 0 T) : (rs.foldl (stepA w) (-1, 0)).2 = T := by
  rcases D with ⟨h1, h2⟩ | ⟨x, hx, hm, hmax⟩
  · rw [stepA_none rs _ fun r hr => ?_]
    · exact h2
    · obtain ⟨y, e, y1, y2⟩ := hn r hr
      rw [e]
      refine hw.off y y1 y2 fun ha => h1 r.1 r.2 hr ?_
      rw [e]; exact ha
  · obtain ⟨X, eX, X1, X2⟩ := hn _ hm
    dsimp only at eX
    subst eX
    have hp := hw.pos X X1 X2 hx
    have A := stepA_max (w := w) (W := w X) (T := T) (by omega) rs (-1, 0) (.inl (by dsimp only; omega)) fun r hr => by
      obtain ⟨y, e, y1, y2⟩ := hn r hr
      by_cases ha : anc q y
      · obtain ⟨m1, m2⟩ := hmax r.1 r.2 hr (by rw [e]; exact ha)
        rw [e] at m1 m2 ⊢
        by_cases hy : y = X
        · subst hy
          exact ⟨Int.le_refl _, fun _ => m2 rfl⟩
        · have := hw.mono X y X1 X2 y1 y2 hx ha (by omega)
          exact ⟨by omega, fun e => by omega⟩
      · rw [e, hw.off y y1 y2 ha]
        exact ⟨by omega, fun e => by omega⟩
    have B := A.2 (.inl ⟨_, hm, rfl⟩)
    rcases A.1 with h | h
    · omega
    · exact h.2
end Mine
end -- part Pure5
section -- part Pure6
open PySem PySem.W PyProof.Rows
set_option maxRecDepth 100000
set_option maxHeartbeats 1000000
namespace Mine
def ancB (q y : Nat) : Bool := y == q || y == q / 2 || y == q / 4 || y == q / 8
def depN (y : Nat) : Int := if y < 2 then 1 else if y < 4 then 2 else if y < 8 then 3 else 4
theorem anc_iff {q y : Nat} (hq : q < 16) (hy : 1 ≤ y) : anc q (y : Int) ↔ ancB q y = true := by
  constructor
  · rintro ⟨j, e⟩
    have e' : y = q / 2 ^ j := by exact_mod_cast e
    have hj : j < 4 := by
      refine Nat.lt_of_not_le fun h => ?_
      have : 2 ^ 4 ≤ 2 ^ j := Nat.pow_le_pow_right (by decide) h
      have : q / 2 ^ j = 0 := Nat.div_eq_of_lt (by omega)
      omega
    have hc : j = 0 ∨ j = 1 ∨ j = 2 ∨ j = 3 := by omega
    rcases hc with rfl | rfl | rfl | rfl <;> simp [ancB, e']
  · intro h
    simp only [ancB, Bool.or_eq_true, beq_iff_eq] at h
    rcases h with ((h | h) | h) | h
    · exact ⟨0, by rw [h]; simp⟩
    · exact ⟨1, by rw [h]⟩
    · exact ⟨2, by rw [h]⟩
    · exact ⟨3, by rw [h]⟩
theorem w_table : ∀ (p : Fin 8) (y : Fin 16), 1 ≤ y.val → wS (frontS (y.val : Int)) (frontS ((8 + p.val : Nat) : Int) ++ Str.ofString "") = (if ancB (8 + p.val) y.val then depN y.val else 0) ∧ wS (frontS (y.val : Int)) (frontS ((8 + p.val : Nat) : Int) ++ Str.ofString "/ab") = (if ancB (8 + p.val) y.val then depN y.val else 0) := by
  decide +kernel
theorem dep_mono : ∀ (p : Fin 8) (x y : Fin 16), 1 ≤ y.val → ancB (8 + p.val) x.val = true → ancB (8 + p.val) y.val = true → y.val < x.val → depN y.val < depN x.val := by
  decide +kernel
theorem wOk_of {p : Nat} (hp : p < 8) {sfx : Str} (hs : sfx = Str.ofString "" ∨ sfx = Str.ofString "/ab") : WOk (fun y => wS (frontS y) (frontS ((8 + p : Nat) : Int) ++ sfx)) (8 + p) := by
  have t : ∀ y : Nat, 1 ≤ y → y < 16 → wS (frontS (y : Int)) (frontS ((8 + p : Nat) : Int) ++ sfx) = (if ancB (8 + p) y then depN y else 0) := by
    intro y h1 h2
    have q := w_table ⟨p, hp⟩ ⟨y, h2⟩ h1
    rcases hs with rfl | rfl
    · exact q.1
    · exact q.2
  refine ⟨fun y h1 h2 ha => ?_, fun y h1 h2 ha => ?_, fun x y x1 x2 y1 y2 hx hy hlt => ?_⟩
  · rw [anc_iff (by omega) h1] at ha
    rw [t y h1 h2, if_neg ha]
  · rw [anc_iff (by omega) h1] at ha
    rw [t y h1 h2, if_pos ha]
    unfold depN
    repeat' split
    all_goals decide
  · rw [anc_iff (by omega) x1] at hx
    rw [anc_iff (by omega) y1] at hy
    rw [t x x1 x2, t y y1 y2, if_pos hx, if_pos hy]
    exact dep_mono ⟨p, hp⟩ ⟨x, x2⟩ ⟨y, y2⟩ y1 hx hy hlt
end Mine
end -- part Pure6
section -- part Filt
open PySem PySem.W PyProof.Rows PySem.Calls PyProof.V PySem.Spec
set_option maxRecDepth 1000000
set_option maxHeartbeats 4000000
namespace Mine
theorem slot_filter_next : Slot "filter" "__next__" "filter.__next__" :=
  .of (owner := "filter") (n := "__next__") (by rw [typeLookup_type, builtinLookup_eq_fast]; kernel_rfl) (by decide +kernel) (by decide +kernel) (by decide +kernel)
    (by first | exact .inl (by decide +kernel) | exact .inr (by decide +kernel)) (by rw [isSubtype_type]; kernel_rfl)
theorem entry_filter_next : entryFor table "filter.__next__" = some Builtin.«filter.__next__» := entryFor_of_tree (by kernel_rfl)
theorem args_filter_next_1 (a : Value) : argsOk "filter.__next__" ⟨[a], []⟩ := by unfold argsOk; kernel_rfl
theorem slot_filter_iter : Slot "filter" "__iter__" "filter.__iter__" :=
  .of (owner := "filter") (n := "__iter__") (by rw [typeLookup_type, builtinLookup_eq_fast]; kernel_rfl) (by decide +kernel) (by decide +kernel) (by decide +kernel)
    (by first | exact .inl (by decide +kernel) | exact .inr (by decide +kernel)) (by rw [isSubtype_type]; kernel_rfl)
theorem entry_filter_iter : entryFor table "filter.__iter__" = some Builtin.«dict_keyiterator.__iter__» :=
  entryFor_alias (id' := "dict_keyiterator.__iter__") (by kernel_rfl) rfl (by decide +kernel) (by kernel_rfl)
theorem args_filter_iter_1 (a : Value) : argsOk "filter.__iter__" ⟨[a], []⟩ := by unfold argsOk; kernel_rfl
theorem slot_filter_init : Slot "filter" "__init__" "object.__init__" :=
  .of (owner := "object") (n := "__init__") (by rw [typeLookup_type, builtinLookup_eq_fast]; kernel_rfl) (by decide +kernel) (by decide +kernel) (by decide +kernel)
    (by first | exact .inl (by decide +kernel) | exact .inr (by decide +kernel)) (by rw [isSubtype_type]; kernel_rfl)
theorem mro_filter : mroOf (.type "filter") = pure [.type "filter", .type "object"] := by rw [mroOf_type]; kernel_rfl
theorem lookup_filter_new : typeLookup (.type "filter") "__new__" = pure (some (.builtin "filter.__new__")) := by rw [typeLookup_type, builtinLookup_eq_fast]; kernel_rfl
theorem called_filter : TypeCalled "filter" "filter.__new__" "object.__init__" :=
  ⟨by decide +kernel, by decide +kernel, ⟨_, _, mro_filter⟩, madeBy_type mro_filter lookup_filter_new (by decide +kernel), by decide +kernel, by rw [isSubtype_type]; kernel_rfl, slot_filter_init⟩
theorem typeCall_filter_2 (a b : Value) : checkTypeCall "filter" ⟨[a, b], []⟩ = pure () := by kernel_rfl
theorem newCall_filter_2 (a b : Value) : checkBuiltinCall "filter.__new__" ⟨[.type "filter", a, b], []⟩ = pure () := by kernel_rfl
theorem entry_filter_new : entryFor table "filter.__new__" = some Builtin.«filter.__new__» := entryFor_of_tree (by kernel_rfl)
theorem sub_filter : isSubtype (.type "filter") (.type "filter") = pure true := by rw [isSubtype_type]; kernel_rfl
theorem no_len_filter : typeLookup (.type "filter") "__len__" = pure none := by rw [typeLookup_type, builtinLookup_eq_fast]; kernel_rfl
theorem no_hint_filter : typeLookup (.type "filter") "__length_hint__" = pure none := by rw [typeLookup_type, builtinLookup_eq_fast]; kernel_rfl
abbrev filtObj (f : Value) (it : Addr) : Obj := { cls := .type "filter", data := .fields #[f, .ref it] }
structure FiltOk (h : Heap) (r it l : Addr) (f : Value) : Prop where
  self : h.get? r = some (filtObj f it)
  it : h.IsListIter it l 0
  src : h.IsList l #[]
theorem FiltOk.keep {h h' : Heap} {r it l : Addr} {f : Value} (x : FiltOk h r it l f) (k : ∀ b ∈ [r, it, l], ∀ o, h.get? b = some o → h'.get? b = some o) : FiltOk h' r it l f :=
  ⟨k r (by simp) _ x.self, x.it.at fun o e => k it (by simp) o e, x.src.at fun o e => k l (by simp) o e⟩
section
variable {prog : Program} {w : World} {A : Around} {E : Value → Shared → Prop} {s : Shared} {r it l : Addr} {f : Value}
theorem FiltOk.typeIs (x : FiltOk s.heap r it l f) : s.TypeIs (.ref r) "filter" := ⟨_, x.self, rfl⟩
theorem filt_next {Q : Option Value → Shared → Prop} (hh : A.handled = none) (x : FiltOk s.heap r it l f) (hQ : ∀ h', Heap.ExtBut it s.heap h' → Q none { s with heap := h' }) : wpAny (model prog w) A (pyNext (.ref r)) Q E s := by
  have hT := x.typeIs
  obtain ⟨o, ho, hc, hd⟩ := id x.it
  obtain ⟨ol, hol, _, nl, hdl⟩ := x.src
  unfold pyNext
  refine wpAny_bind (wpAny_attempt (wpAny_callSpecial?_slot (name := Str.ofString "__next__") hT slot_filter_next (wpAny_call_entry slot_filter_next hT entry_filter_next ?_ (args_filter_next_1 _))))
  show wpAny _ _ (field (.ref r) 0 >>= _) _ _ _
  refine wpAny_bind (wpAny_field x.self rfl (x := f) rfl ?_)
  show wpAny _ _ (field (.ref r) 1 >>= _) _ _ _
  refine wpAny_bind (wpAny_field x.self rfl (x := .ref it) rfl ?_)
  refine wpAny_bind (wpAny_callSpecial?_slot (name := Str.ofString "__next__") x.it.typeIs slot_listiter_next
    (wpAny_call_entry slot_listiter_next x.it.typeIs entry_listiter_next ?_ (args_listiter_next _)))
  show wpAny _ _ (field (.ref it) 0 >>= _) _ _ s
  refine wpAny_bind (wpAny_field ho hd (x := .ref l) rfl ?_)
  show wpAny _ _ (if (Value.ref l == Value.none) = true then _ else _) _ _ s
  rw [if_neg (show ¬ ((Value.ref l == Value.none) = true) from Bool.false_ne_true)]
  show wpAny _ _ (field (.ref it) 1 >>= _) _ _ s
  refine wpAny_bind (wpAny_field ho hd (x := .int 0 0) rfl ?_)
  show wpAny _ _ (seqItems? (.ref l) >>= _) _ _ s
  refine wpAny_bind (wpAny_seqItems hol hdl ?_)
  simp only [show (#[] : Array Value)[(0 : Int).toNat]? = none from rfl]
  refine wpAny_bind (wpAny_rule (wpAny_bind (wpAny_setField ho hd (by simp) ?_)))
  show wpAny _ _ (newExc (.type "StopIteration") [] >>= _) _ _ _
  refine wpAny_bind ?_
  simp only [newExc, newTuple]
  refine wpAny_bind (wpAny_newObj_type ?_ (by size_fits))
  refine wpAny_bind (m := firstArgMember _ _) (wpAny_of_eq (a := Value.none) (by first | rfl | (simp only [firstArgMember]; rfl)) ?_)
  refine wpAny_newObj_type ?_ (by size_fits)
  simp only [raiseNew]
  refine wpAny_bind (wpAny_handled ?_)
  first | rw [show A.in1.in1.handled = none from hh] | rw [show A.in1.handled = none from hh] | rw [hh]
  refine wpAny_bind (wpAny_pure (wpAny_throw ?_))
  refine wpAny_bind (wpAny_isInstance (T := "StopIteration") (b := true) ⟨_, Heap.get?_push_size _ rfl, rfl⟩ isSubtype_stop ?_)
  exact wpAny_pure (hQ _ (((Heap.SameBut.update ..).extBut.push _).push _))
theorem filt_self {Q : Value → Shared → Prop} (x : FiltOk s.heap r it l f) (h : Q (.ref r) s) : wpAny (model prog w) A (pyIter (.ref r)) Q E s := by
  have hT := x.typeIs
  refine wpAny_pyIter_slot hT slot_filter_iter (wpAny_call_entry slot_filter_iter hT entry_filter_iter ?_ (args_filter_iter_1 _))
  show wpAny _ _ (ret (.ref r)) _ _ s
  exact wpAny_pure ⟨_, rfl, "filter", _, hT, slot_filter_next.lookup, h⟩
theorem filt_walks (hh : A.handled = none) : Walks prog w A r [r, it, l] [it] 0 (fun _ _ => True) (fun _ h => FiltOk h r it l f) where
  sub := fun b hb => by simp at hb; simp [hb]
  frame := fun _ _ _ st hk => st.keep hk
  item := fun i s Q E hi => absurd hi (Nat.not_lt_zero _)
  done := fun s Q E st hQ => filt_next hh st fun h' e => hQ h' s.toks fun b o hb q => e b o (fun h => hb (by simp [h])) q
  self := fun i s Q E st hQ => filt_self st hQ
theorem filt_hint {Q : Bool → Shared → Prop} (hT : s.TypeIs (.ref r) "filter") (h : Q true s) : wpAny (model prog w) A (Builtin.List.listLengthHint (.ref r)) Q E s := by
  unfold Builtin.List.listLengthHint
  refine wpAny_bind (wpAny_specialOf hT no_len_filter ?_)
  dsimp only
  refine wpAny_ite_split (fun hab => absurd hab (by decide)) (fun _ => ?_)
  refine wpAny_ite_split (fun hab => absurd hab (by decide)) (fun _ => ?_)
  refine wpAny_bind (wpAny_specialOf hT no_hint_filter ?_)
  exact wpAny_pure h
theorem filt_extend {R : Result → Shared → Prop} (hh : A.handled = none) (hok : FiltOk s.heap r it l f) (S : Addr) (hSr : S ≠ r) (hSi : S ≠ it) (hSl : S ≠ l) (res : Value) (c₀ : Nat) (hS : s.heap.get? S = some { cls := .type "list", data := .seq #[] c₀ })
    (hR : ∀ h' tk c', (∀ b o, b ≠ S → b ≠ it → s.heap.get? b = some o → h'.get? b = some o) → h'.get? S = some { cls := .type "list", dict := none, data := .seq #[] c', slots := #[] } → R (.ok (.ret res)) { s with heap := h', toks := tk }) :
    wpAny (model prog w) A.in1 (Builtin.List.listExtendWith (.ref S) (.ref r) res)
      (fun fin s' => match fin with | .done f => R (.ok f) s' | .again c' => c'.quiet = true ∧ codeAny (model prog w) A c' R s') (fun e s' => R (.error e) s') s := by
  have hSf : S ∉ [r, it, l] := by simp only [List.mem_cons, List.not_mem_nil, or_false, not_or]; exact ⟨hSr, hSi, hSl⟩
  have Wk := filt_walks (prog := prog) (w := w) (A := A.in1) (r := r) (it := it) (l := l) (f := f) hh
  have key : ∀ (h : Heap) (c₁ tk : Nat), FiltOk h r it l f → (∀ b o, b ≠ S → s.heap.get? b = some o → h.get? b = some o) →
      h.get? S = some { cls := .type "list", data := .seq #[] c₁ } → codeAny (model prog w) A (.builtin "list.extend.loop" ⟨[.ref S, .ref r, res], []⟩) R { s with heap := h, toks := tk } := by
    intro h c₁ tk hst hk hS₁
    refine codeAny_extend_loopS Wk.toS (by decide) S hSf res 0 0 _ #[] c₁ rfl (Nat.zero_le _) hst hS₁ (ItemsOf.nil _) fun s' acc' c' hm hS' hacc => ?_
    have e0 : acc' = #[] := Array.eq_empty_of_size_eq_zero hacc.1
    subst e0
    rw [Moved.eq_with hm]
    refine hR s'.heap s'.toks c' (fun b o hb hi e => hm.heap b o (fun hmem => ?_) (hk b o hb e)) hS'
    rcases List.mem_cons.mp hmem with e' | hmem
    · exact hb e'
    · exact hi (List.mem_singleton.mp hmem)
  unfold Builtin.List.listExtendWith
  refine wpAny_bind (wpAny_typeOf (T := "filter") hok.typeIs ?_)
  have h1 : Builtin.List.listSameRef (.ref S) (.ref r) = false := by simp [Builtin.List.listSameRef, hSr]
  simp only [h1, show (Value.type "filter" == Value.type "list") = false by decide, show (Value.type "filter" == Value.type "tuple") = false by decide, Bool.or_false, Bool.false_eq_true, if_false]
  refine wpAny_bind (filt_self hok ?_)
  refine wpAny_bind (wpAny_holding (filt_hint hok.typeIs ?_))
  refine wpAny_ite_split (fun _ => ?_) (fun _ => wpAny_pure ⟨plainId_quiet PySem.F.plain_extend_loop _, key _ c₀ _ hok (fun b o _ e => e) hS⟩)
  refine wpAny_bind (wpAny_rule ?_)
  refine wpAny_bind ?_
  show wpAny _ _ (updateSeq S (·.push .none) >>= fun _ => updateSeq S (·.pop)) _ _ _
  refine wpAny_bind (wpAny_updateSeq hS rfl ?_)
  have hS₂ := Heap.get?_update_self (Obj.mapSeq (·.push Value.none)) hS rfl
  refine wpAny_updateSeq (hz := by seq_fits) hS₂ rfl ?_
  have hS₃ := Heap.get?_update_self (Obj.mapSeq (·.pop)) hS₂ rfl
  refine wpAny_pure ⟨plainId_quiet PySem.F.plain_extend_loop _, key _ _ _ ?_ (fun b o hb e => ?_) hS₃⟩
  · refine hok.keep fun b hb o e => ?_
    have hbS : b ≠ S := fun h => hSf (h ▸ hb)
    exact (Heap.get?_update_other _ _ (Ne.symm hbS)).trans ((Heap.get?_update_other _ _ (Ne.symm hbS)).trans e)
  · exact (Heap.get?_update_other _ _ (Ne.symm hb)).trans ((Heap.get?_update_other _ _ (Ne.symm hb)).trans e)
theorem filt_init {R : Result → Shared → Prop} (hh : A.handled = none) (hok : FiltOk s.heap r it l f) (S : Addr) (hSr : S ≠ r) (hSi : S ≠ it) (hSl : S ≠ l) (hS : s.heap.get? S = some { cls := .type "list", data := .seq #[] })
    (hR : ∀ h' tk c', (∀ b o, b ≠ S → b ≠ it → s.heap.get? b = some o → h'.get? b = some o) → h'.get? S = some { cls := .type "list", dict := none, data := .seq #[] c', slots := #[] } → R (.ok (.ret .none)) { s with heap := h', toks := tk }) :
    wpAny (model prog w) A.in1 (Builtin.«list.__init__» ⟨[.ref S, .ref r], []⟩)
      (fun fin s' => match fin with | .done f => R (.ok f) s' | .again c' => c'.quiet = true ∧ codeAny (model prog w) A c' R s') (fun e s' => R (.error e) s') s := by
  show wpAny _ _ (do let old ← Builtin.List.listItems (.ref S); Builtin.List.listUpdate (.ref S) (fun _ => #[]); letGo old.toList.reverse; Builtin.List.listExtendWith (.ref S) (.ref r) .none) _ _ s
  refine wpAny_bind ?_
  unfold Builtin.List.listItems
  refine wpAny_bind (wpAny_seqItems hS rfl (wpAny_pure ?_))
  show wpAny _ _ (updateSeq S (fun _ => #[]) >>= fun _ => letGo (#[] : Array Value).toList.reverse >>= fun _ => Builtin.List.listExtendWith (.ref S) (.ref r) .none) _ _ s
  refine wpAny_bind (wpAny_updateSeq hS rfl ?_)
  have hS₂ := Heap.get?_update_self (Obj.mapSeq (fun _ => (#[] : Array Value))) hS rfl
  have oth : ∀ b o, b ≠ S → s.heap.get? b = some o → (s.heap.update S (Obj.mapSeq (fun _ => (#[] : Array Value)))).get? b = some o :=
    fun b o hb e => (Heap.get?_update_other _ _ (Ne.symm hb)).trans e
  refine wpAny_bind (wpAny_letGo ?_)
  refine filt_extend hh (hok.keep fun b hb o e => oth b o ?_ e) S hSr hSi hSl .none _ hS₂ (fun h' tk c' hk hS' => ?_)
  · rcases List.mem_cons.mp hb with rfl | hb
    · exact hSr.symm
    rcases List.mem_cons.mp hb with rfl | hb
    · exact hSi.symm
    · rw [List.mem_singleton.mp hb]; exact hSl.symm
  · exact hR h' tk c' (fun b o hb hi e => hk b o hb hi (oth b o hb e)) hS'
theorem filt_list {Q : Value → Shared → Prop} (hh : A.handled = none) (hok : FiltOk s.heap r it l f)
    (hQ : ∀ h' tk c', (∀ b o, b ≠ it → s.heap.get? b = some o → h'.get? b = some o) → h'.get? s.heap.objs.size = some { cls := .type "list", dict := none, data := .seq #[] c', slots := #[] } → Q (.ref s.heap.objs.size) { s with heap := h', toks := tk }) :
    wpAny (model prog w) A (call (.type "list") [.ref r]) Q E s := by
  refine callType_codes (Q₁ := fun obj s₁ => obj = .ref s.heap.objs.size ∧ s₁ = { s with heap := s.heap.push { cls := .type "list", data := .seq #[] } }) PySem.F.called_list (PySem.F.typeCall_list_1 _) PySem.F.entry_list_init
    (code_list_new _ ⟨rfl, rfl⟩) fun obj s₁ h₁ => ?_
  obtain ⟨rfl, rfl⟩ := h₁
  have hS : (s.heap.push { cls := .type "list", data := .seq #[] }).get? s.heap.objs.size = some { cls := .type "list", data := .seq #[] } := Heap.get?_push_size _ rfl
  have l1 : r < s.heap.objs.size := Heap.lt_size hok.self
  have l2 : it < s.heap.objs.size := by obtain ⟨_, e, _⟩ := hok.it; exact Heap.lt_size e
  have l3 : l < s.heap.objs.size := by obtain ⟨_, e, _⟩ := hok.src; exact Heap.lt_size e
  refine ⟨⟨_, hS, rfl⟩, PySem.F.args_list_init_2 _ _, filt_init (A := A.in1) hh (hok.keep fun b _ o e => Heap.get?_push_of_some _ e) _ (Nat.ne_of_gt l1) (Nat.ne_of_gt l2) (Nat.ne_of_gt l3) hS (fun h' tk c' hk hS' => ?_)⟩
  exact ⟨rfl, hQ h' tk c' (fun b o hi e => hk b o (Nat.ne_of_lt (Heap.lt_size e)) hi (Heap.get?_push_of_some _ e)) hS'⟩
end
theorem meets_filter_new (f : Value) (l : Addr) :
    Meets (Builtin.«filter.__new__» ⟨[.type "filter", f, .ref l], []⟩) (fun _ R s => s.heap.IsList l #[] ∧
      R (.ok (.ret (.ref (s.heap.push { cls := .type "list_iterator", data := .fields #[.ref l, .int 0 0] }).objs.size)))
        { s with heap := (s.heap.push { cls := .type "list_iterator", data := .fields #[.ref l, .int 0 0] }).push (filtObj f s.heap.objs.size) }) :=
  .of_wp fun prog w A R s h => by
    obtain ⟨hp, g, d, tk, os⟩ := s; obtain ⟨hl, h⟩ := h
    have hsub := sub_filter
    have hL : Heap.IsList (Shared.heap ⟨hp, g, d, tk, os⟩) l #[] := hl
    wp_walk using wpAny_pyIter_list hL
    exact ⟨_, rfl, h⟩
section
variable {prog : Program} {w : World} {A : Around} {E : Value → Shared → Prop} {s : Shared} {l : Addr} {f : Value} {h₀ : Heap} {L : Addr} {m : Str → Option Value} {news : List (Addr × Obj)} {n : Nat}
theorem filt_new {Q : Value → Shared → Prop} (F : Fr h₀ L s.heap m) (N : News h₀ L s.heap news) (hm : (l, W.listOf #[] n) ∈ news)
    (h : ∀ r it h', Fr h₀ L h' m → News h₀ L h' ((r, filtObj f it) :: (it, { cls := .type "list_iterator", data := .fields #[.ref l, .int 0 0] }) :: news) → (∀ p ∈ news, p.1 < it) → @LT.lt Nat _ it r → Q (.ref r) { s with heap := h' }) :
    wpAny (model prog w) A (call (.type "filter") [f, .ref l]) Q E s := by
  refine callType_new called_filter (by decide) (typeCall_filter_2 _ _) (newCall_filter_2 _ _) (fun obj => PySem.F.args_object_init_3 obj _ _) entry_filter_new (meets_filter_new f l) ⟨PySem.IsL.isList (n := n) (N _ hm).1, ?_⟩
  have F1 := F.push { cls := .type "list_iterator", data := .fields #[.ref l, .int 0 0] }
  have N1 := N.push F { cls := .type "list_iterator", data := .fields #[.ref l, .int 0 0] }
  refine ⟨⟨_, Heap.get?_push_size _ rfl, rfl⟩, h _ _ _ (F1.push _) (N1.push F1 _) (fun p hp => Heap.lt_size (N p hp).1) ?_⟩
  rw [Heap.size_push]; exact Nat.lt_succ_self _
theorem filt_listN {Q : Value → Shared → Prop} {r it : Addr} {rest : List (Addr × Obj)} (hh : A.handled = none) (F : Fr h₀ L s.heap m) (N : News h₀ L s.heap ((r, filtObj f it) :: (it, { cls := .type "list_iterator", data := .fields #[.ref l, .int 0 0] }) :: rest)) (hm : (l, W.listOf #[] n) ∈ rest) (ho : ∀ p ∈ rest, p.1 ≠ it)
    (h : ∀ D c h' tk, Fr h₀ L h' m → News h₀ L h' ((D, W.listOf #[] c) :: rest) → (∀ p ∈ rest, p.1 < D) → Q (.ref D) { s with heap := h', toks := tk }) :
    wpAny (model prog w) A (call (.type "list") [.ref r]) Q E s := by
  have hit := N _ (.tail _ (.head _))
  have ok : FiltOk s.heap r it l f := ⟨(N _ (.head _)).1, ⟨_, hit.1, rfl, rfl⟩, PySem.IsL.isList (n := n) (N _ (.tail _ (.tail _ hm))).1⟩
  refine filt_list hh ok fun h' tk c' hk hD => ?_
  have hL : @LT.lt Nat _ L s.heap.objs.size := F.ns.lt
  have K : ∀ b o, h₀.get? b = some o → h'.get? b = some o := fun b o e => hk b o (fun q => by rw [q, hit.2.2] at e; cases e) (F.keep b o e)
  refine h _ c' h' tk ⟨F.ns.at' fun o e => hk L o (Ne.symm hit.2.1) e, K, F.above⟩ (fun p hp => ?_) fun p hp => Heap.lt_size (N p (.tail _ (.tail _ hp))).1
  rcases List.mem_cons.mp hp with rfl | hp
  · exact ⟨hD, Nat.ne_of_gt hL, next_is_new F⟩
  · have z := N p (.tail _ (.tail _ hp))
    exact ⟨hk _ _ (ho p hp) z.1, z.2⟩
abbrev setObj (es : Array (Int × Value)) (ep : Nat) (tt : SetTable) : Obj := { cls := .type "set", dict := none, data := .set es ep tt, slots := #[] }
/-- set of an empty list of the ledger -/
theorem set_nil {Q : Value → Shared → Prop} (hh : A.handled = none) (F : Fr h₀ L s.heap m) (N : News h₀ L s.heap news) (hm : (l, W.listOf #[] n) ∈ news)
    (h : ∀ D es ep tt h' tk, Fr h₀ L h' m → News h₀ L h' ((D, setObj es ep tt) :: news) → (∀ p ∈ news, p.1 < D) → Q (.ref D) { s with heap := h', toks := tk }) :
    wpAny (model prog w) A (call (.type "set") [.ref l]) Q E s := by
  refine PySem.call_set_list (items := #[]) (ns := []) hh (PySem.IsL.isList (n := n) (N _ hm).1) .nil (by decide) fun h' tk hS hk => ?_
  obtain ⟨o, ho, ⟨c1, c2, c3⟩, es, ep, tt, c4, _⟩ := hS.objOf
  obtain ⟨oc, od, dt, os⟩ := o
  dsimp only at c1 c2 c3 c4
  subst c1; subst c2; subst c3; subst c4
  have hL : @LT.lt Nat _ L s.heap.objs.size := F.ns.lt
  refine h _ es ep tt h' tk ⟨F.ns.at' fun o' e => hk L o' hL e, fun b o' e => hk b o' (Heap.lt_size (F.keep b o' e)) (F.keep b o' e), F.above⟩ (fun p hp => ?_) fun p hp => Heap.lt_size (N p hp).1
  rcases List.mem_cons.mp hp with rfl | hp
  · exact ⟨ho, Nat.ne_of_gt hL, next_is_new F⟩
  · exact ⟨hk _ _ (Heap.lt_size (N p hp).1) (N p hp).1, (N p hp).2⟩
end
end Mine
end -- part Filt
section -- part SetC
open PySem PySem.W PyProof.Rows
set_option maxRecDepth 100000
set_option maxHeartbeats 2000000
namespace Mine
theorem lk_set_ct : typeLookup (.type "set") "__contains__" = pure (some (.builtin "set.__contains__")) := by rw [typeLookup_type, builtinLookup_eq_fast]; kernel_rfl
theorem ty_sct : typeOf (.builtin "set.__contains__") = pure (.type "method_descriptor") := by kernel_rfl
theorem told_sct : Manifest.toldItsClass.contains "set.__contains__" = false := by decide +kernel
theorem owner_sct : (".".intercalate ("set.__contains__".cutAt '.').dropLast) = "set" := by
  have e0 : "set.__contains__".cutAt '.' = ["set", "__contains__"] := by first | rfl | decide +kernel
  rw [e0]; decide +kernel
theorem sub_set_own : isSubtype (.type "set") (.type (".".intercalate ("set.__contains__".cutAt '.').dropLast)) = pure true := by
  rw [owner_sct, isSubtype_type]; kernel_rfl
section
variable {prog : Program} {w : World} {A : Around} {E : Value → Shared → Prop} {h : Heap} {g : Array GenState} {d : Drawn} {t : Nat} {os : OsState} {a : Addr} {es : Array (Int × Value)} {ep : Nat} {tt : SetTable}
abbrev boundS (a : Addr) : Obj := { cls := .type "builtin_function_or_method", data := .fields #[.builtin "set.__contains__", .ref a] }
theorem sc_get {R : Result → Shared → Prop} (hx : h.get? a = some (setObj es ep tt)) (hq : R (.ok (.ret (.ref h.objs.size))) ⟨h.push (boundS a), g, d, t, os⟩) :
    codeAny (model prog w) A (.call (.builtin "method_descriptor.__get__") ⟨[.builtin "set.__contains__", .ref a, .type "set"], []⟩) R ⟨h, g, d, t, os⟩ := by
  have hT : (⟨h, g, d, t, os⟩ : Shared).TypeIs (.ref a) "set" := ⟨_, hx, rfl⟩
  have hT5 : (⟨h, g, d, t, os⟩ : Shared).TypeIs (.builtin "set.__contains__") "method_descriptor" := ty_sct
  have f8 := sub_set_own
  have f9 := told_sct
  refine codeAny_call_builtin slot_md_get.plain entry_md_get (slot_md_get.check _ _ _ _ _ _ _ _ hT5 (args_md_get _ _ _) ?_)
  repeat (any_goals (first | assumption | (with_reducible (first | refine PySem.wpAny_pure ?_ | refine PySem.wpAny_bind ?_ | refine PySem.wpAny_of_eq (by assumption) ?_ | refine PySem.wpAny_typeOf (by assumption) ?_ | refine PySem.wpAny_isInstance (by assumption) (by assumption) ?_ | refine PySem.wpAny_attempt ?_ | refine PySem.wpAny_call ?_ | refine PySem.wpAny_run ?_)) | ((fail_if_success (with_reducible show wpAny _ _ (mkStr _) _ _ _)); wp_delta) | wp_step))
theorem sc_entry {tk : Tok} {Q : Fin → Shared → Prop} (hx : h.get? a = some (setObj es ep tt)) (hq : Q (.done (.ret (.ref h.objs.size))) ⟨h.push (boundS a), g, d, t, os⟩) :
    wpAny (model prog w) A (Builtin.«object.__getattribute__» ⟨[.ref a, .str "__contains__" tk], []⟩) Q E ⟨h, g, d, t, os⟩ := by
  have hT : (⟨h, g, d, t, os⟩ : Shared).TypeIs (.ref a) "set" := ⟨_, hx, rfl⟩
  have hT5 : (⟨h, g, d, t, os⟩ : Shared).TypeIs (.builtin "set.__contains__") "method_descriptor" := ty_sct
  have f4 := lk_set_ct
  have f5 := ty_sct
  have f6 := slot_md_get.lookup
  have f7 := md_set
  have f8 := md_delete
  repeat (any_goals (first | assumption | (with_reducible (first | refine PySem.wpAny_pure ?_ | refine PySem.wpAny_bind ?_ | refine PySem.wpAny_of_eq (by assumption) ?_ | refine PySem.wpAny_typeOf (by assumption) ?_ | refine PySem.wpAny_isInstance (by assumption) (by assumption) ?_ | refine PySem.wpAny_attempt ?_ | refine PySem.wpAny_call ?_ | refine PySem.wpAny_run ?_)) | ((fail_if_success (with_reducible show wpAny _ _ (mkStr _) _ _ _)); wp_delta) | wp_step))
  refine sc_get hx ?_
  repeat (any_goals (first | assumption | (with_reducible (first | refine PySem.wpAny_pure ?_ | refine PySem.wpAny_bind ?_ | refine PySem.wpAny_of_eq (by assumption) ?_ | refine PySem.wpAny_typeOf (by assumption) ?_ | refine PySem.wpAny_isInstance (by assumption) (by assumption) ?_ | refine PySem.wpAny_attempt ?_ | refine PySem.wpAny_call ?_ | refine PySem.wpAny_run ?_)) | ((fail_if_success (with_reducible show wpAny _ _ (mkStr _) _ _ _)); wp_delta) | wp_step))
theorem sc_call {tk : Tok} {R : Result → Shared → Prop} (hx : h.get? a = some (setObj es ep tt)) (hq : R (.ok (.ret (.ref h.objs.size))) ⟨h.push (boundS a), g, d, t, os⟩) :
    codeAny (model prog w) A (.call (.builtin "set.__getattribute__") ⟨[.ref a, .str "__contains__" tk], []⟩) R ⟨h, g, d, t, os⟩ :=
  codeAny_call_builtin F.slot_set_getattribute.plain F.entry_set_ga (F.slot_set_getattribute.check _ _ _ _ _ _ _ _ (show (⟨h, g, d, t, os⟩ : Shared).TypeIs (.ref a) "set" from ⟨_, hx, rfl⟩) (F.args_set_getattribute_2 _ _) (sc_entry hx hq))
theorem sc_attr {Q : Value → Shared → Prop} (hx : h.get? a = some (setObj es ep tt)) (hq : Q (.ref h.objs.size) ⟨h.push (boundS a), g, d, t + 1, os⟩) : wpAny (model prog w) A (getAttr (.ref a) "__contains__" true) Q E ⟨h, g, d, t, os⟩ := by
  have hT : (⟨h, g, d, t, os⟩ : Shared).TypeIs (.ref a) "set" := ⟨_, hx, rfl⟩
  have f2 := F.slot_set_getattribute.lookup
  have f3 := F.slot_set_getattribute.bind (.ref a)
  repeat (any_goals (first | assumption | (with_reducible (first | refine PySem.wpAny_pure ?_ | refine PySem.wpAny_bind ?_ | refine PySem.wpAny_of_eq (by assumption) ?_ | refine PySem.wpAny_typeOf (by assumption) ?_ | refine PySem.wpAny_isInstance (by assumption) (by assumption) ?_ | refine PySem.wpAny_attempt ?_ | refine PySem.wpAny_call ?_ | refine PySem.wpAny_run ?_)) | ((fail_if_success (with_reducible show wpAny _ _ (mkStr _) _ _ _)); wp_delta) | wp_step))
  refine sc_call hx ?_
  repeat (any_goals (first | assumption | (with_reducible (first | refine PySem.wpAny_pure ?_ | refine PySem.wpAny_bind ?_ | refine PySem.wpAny_of_eq (by assumption) ?_ | refine PySem.wpAny_typeOf (by assumption) ?_ | refine PySem.wpAny_isInstance (by assumption) (by assumption) ?_ | refine PySem.wpAny_attempt ?_ | refine PySem.wpAny_call ?_ | refine PySem.wpAny_run ?_)) | ((fail_if_success (with_reducible show wpAny _ _ (mkStr _) _ _ _)); wp_delta) | wp_step))
end
theorem sc_N {prog : Program} {w : World} {A : Around} {E : Value → Shared → Prop} {s : Shared} {h₀ : Heap} {L a : Addr} {m : Str → Option Value} {news : List (Addr × Obj)} {es : Array (Int × Value)} {ep : Nat} {tt : SetTable} {Q : Value → Shared → Prop} (F : Fr h₀ L s.heap m) (N : News h₀ L s.heap news) (hm : (a, setObj es ep tt) ∈ news)
    (h : ∀ b h' tk, Fr h₀ L h' m → News h₀ L h' news → Q (.ref b) { s with heap := h', toks := tk }) :
    wpAny (model prog w) A (getAttr (.ref a) (Str.ofString "__contains__") true) Q E s := by
  obtain ⟨hp, g, d, tk, os⟩ := s
  exact sc_attr (N _ hm).1 (h _ _ _ (F.push _) fun p hp' => ⟨Heap.get?_push_of_some _ (N p hp').1, (N p hp').2⟩)
end Mine
end -- part SetC
section -- part Merge
open PySem PySem.W PyProof.Rows
set_option maxRecDepth 100000
set_option maxHeartbeats 1000000
namespace Mine
/-- the dict of an Entry as it was made -/
abbrev entD (w : World) (t1 t2 t3 t4 : Tok) (u l : Addr) : Obj := dictOf [⟨PyData.keyHash w.params (Str.ofString "useragents"), .str (Str.ofString "useragents") t1, .ref u⟩, ⟨PyData.keyHash w.params (Str.ofString "rulelines"), .str (Str.ofString "rulelines") t2, .ref l⟩, ⟨PyData.keyHash w.params (Str.ofString "delay"), .str (Str.ofString "delay") t3, .none⟩, ⟨PyData.keyHash w.params (Str.ofString "req_rate"), .str (Str.ofString "req_rate") t4, .none⟩] 4
local macro_rules | `(tactic| size_fits) => `(tactic| (rw [sizeLine_eq]; (with_reducible refine Nat.le_of_ble_eq_true ?_); with_unfolding_all rfl))
local macro_rules | `(tactic| k_ne) => `(tactic| first | exact ne_offN (by with_reducible assumption) (by k_mem) | exact Ne.symm (ne_offN (by with_reducible assumption) (by k_mem)) | (refine neN ?_; (try dsimp only); omega))
local macro_rules | `(tactic| k_mem) => `(tactic| ((repeat (first | (with_reducible exact List.mem_cons_self) | (with_reducible refine List.mem_cons_of_mem _ ?_))); done))
theorem merge_spec (w : World) (p : Program) (loose : List Str) (mean : ExcName → Option Value) (mg mb : Str → Option Value) : ∀ {x1 d1 u1 l1 x2 d2 u2 l2 : Addr} {t1 t2 t3 t4 t5 t6 t7 t8 : Tok} {vs1 vs2 : List Value} {n1 n2 k1 k2 : Nat} {dp un : Nat} {gd : Option (List Code)} {cn : Str} {cs : Scope} {a : Addr} {ccd : Value} {cl : List (Str × Addr)} {outer : List Env} {A₀ : Around} {base h₀ : Heap} {L : Addr} {m : Str → Option Value} {news : List (Addr × Obj)} {s : Shared} {Q E : Value → Shared → Prop}
    (B : Below A₀ base outer h₀) (F : Fr h₀ L s.heap m) (X : (hd.heap_1 w.params).In h₀) (N : News h₀ L s.heap news) (T : Top p loose mean mg mb h₀) (hk : cs.kind = .function)
    (hm1 : (x1, instObj 52 d1) ∈ news) (hm2 : (d1, entD w t1 t2 t3 t4 u1 l1) ∈ news) (hm3 : (u1, W.listOf #[] k1) ∈ news) (hm4 : (l1, W.listOf vs1.toArray n1) ∈ news)
    (hm5 : (x2, instObj 52 d2) ∈ news) (hm6 : (d2, entD w t5 t6 t7 t8 u2 l2) ∈ news) (hm7 : (u2, W.listOf #[] k2) ∈ news) (hm8 : (l2, W.listOf vs2.toArray n2) ∈ news)
    (hd : dp + 20 < recursionLimit) (hu : un + 8 * 20 < cLine) (hl1 : vs1.length ≤ 15) (hl2 : vs2.length ≤ 15)
    (ret : ∀ r d es ne D h' tk', Fr h₀ L h' m → News h₀ L h' ((r, instObj 52 d) :: (d, dictOf es ne) :: (D, W.listOf (vs1 ++ vs2).toArray 0) :: news) → getL (Str.ofString "rulelines") es = some (some (.ref D)) → getL (Str.ofString "allowance") es = some none → Q (.ref r) { s with heap := h', toks := tk' }),
    wpAny (model Challenge.rw_rl0031_01.row.prog w) (ktrTop dp un gd cn cs L a ccd cl outer) (call (.ref 63) [.ref x1, .ref x2]) Q E s := by
  k_fill
  k_with_none
  intro x1 d1 u1 l1 x2 d2 u2 l2 t1 t2 t3 t4 t5 t6 t7 t8 vs1 vs2 n1 n2 k1 k2 dp un gd cn cs a ccd cl outer A₀ base h₀ L m news s Q E B F X N T hk hm1 hm2 hm3 hm4 hm5 hm6 hm7 hm8 hd hu hl1 hl2 ret
  have Nl : News h₀ L s.heap [_, _, _, _, _, _, _, _] := newsPick N (List.forall_mem_cons.mpr ⟨hm1, List.forall_mem_cons.mpr ⟨hm2, List.forall_mem_cons.mpr ⟨hm3, List.forall_mem_cons.mpr ⟨hm4, List.forall_mem_cons.mpr ⟨hm5, List.forall_mem_cons.mpr ⟨hm6, List.forall_mem_cons.mpr ⟨hm7, List.forall_mem_cons.mpr ⟨hm8, List.forall_mem_nil _⟩⟩⟩⟩⟩⟩⟩⟩)
  refine wpAny_call ?_
  k_dflt (refine' frz_def ?k1 ?k2 ?k3 ?k4 ?k5 ?kA ?kF ?kK ?k6 ?k7 ?k8 ?k9 ?kB ?_ ?c2 ?c3 ?c4 ?c5; (case kA => exact rfl); (case kF => exact rfl); (case kK => assumption); (case k1 => k_asm); (case k2 => k_asm); (case k3 => k_asm); (case k4 => exact Nl); (case k5 => k_asm); (case k6 => k_is); (case k7 => k_is); (case k8 => ktr_room); (case k9 => exact BindsTo.of_eq rfl); (case c5 => decide); (case kB => exact locs rfl); (case c2 => exact rfl); (case c3 => exact rfl); (case c4 => exact rfl); k_whole; intro g' L' h' FG' F' N' B' X' T' Z'; (try dsimp only); (try k_fold))
  have KZ := fun (h' : Heap) (m' : Str → Option Value) (nw : List (Addr × Obj)) (F' : Fr g' L' h' m') (kN : News h₀ L h' nw) (hl : ∀ p ∈ _, p ∈ nw) => frz_keep Z' Nl N F' kN hl
  clear N Nl Z' hm1 hm2 hm3 hm4 hm5 hm6 hm7 hm8
  (repeat' (first | (k_unfold; (try dsimp only)) | (k_end; wrow_close) | ((first | ((fail_if_success (goal_lacks binaryOp)); (with_reducible show wpAny _ _ (binaryOp _ _ _) _ _ _); (first | ((with_reducible show wpAny _ _ (binaryOp Operator.Mult (Value.int _ _) (Value.int _ _)) _ _ _); (first | (with_reducible (first | (k_here; with_reducible refine mul_int ?_ (IntMulOk.of_left (by decide))))) | (k_here; with_reducible refine mul_int ?_ (IntMulOk.of_left (by decide)))); (try walk_say "OWN binaryOp Mult int int")) | ((with_reducible show wpAny _ _ (binaryOp Operator.Add (Value.ref _) (Value.ref _)) _ _ _); (first | (with_reducible (first | (k_here; k_dflt (refine' addLists ?k1 ?k2 ?k3 ?k4 ?k5 ?_; (case k1 => k_asm); (case k2 => k_asm); (case k3 => k_mem); (case k4 => k_mem); (case k5 => (simp only [List.size_toArray, sizeLine_eq]; omega)); k_whole); intro Dpq hpq Fpq Npq l1q; (try k_lt l1q); (try k_sweep)))) | (k_here; k_dflt (refine' addLists ?k1 ?k2 ?k3 ?k4 ?k5 ?_; (case k1 => k_asm); (case k2 => k_asm); (case k3 => k_mem); (case k4 => k_mem); (case k5 => (simp only [List.size_toArray, sizeLine_eq]; omega)); k_whole); intro Dpq hpq Fpq Npq l1q; (try k_lt l1q); (try k_sweep))); (try walk_say "OWN binaryOp Add ref ref")))) | ((fail_if_success (goal_lacks call)); (with_reducible show wpAny _ _ (call _ _) _ _ _); (first | ((with_reducible show wpAny _ _ (call (Value.type "set") _) _ _ _); (first | (with_reducible (first | (k_here; (with_reducible show wpAny _ _ (call (Value.type "set") [Value.ref _]) _ _ _); k_dflt (refine' set_nil ?k1 ?k2 ?k3 ?k4 ?_; (case k1 => with_unfolding_all rfl); (case k2 => k_asm); (case k3 => k_asm); (case k4 => k_mem); k_whole); intro D9q es9q ep9q tt9q hpq tkpq Fpq Npq l1q; (try k_lt l1q)))) | (k_here; (with_reducible show wpAny _ _ (call (Value.type "set") [Value.ref _]) _ _ _); k_dflt (refine' set_nil ?k1 ?k2 ?k3 ?k4 ?_; (case k1 => with_unfolding_all rfl); (case k2 => k_asm); (case k3 => k_asm); (case k4 => k_mem); k_whole); intro D9q es9q ep9q tt9q hpq tkpq Fpq Npq l1q; (try k_lt l1q))); (try walk_say "OWN call type:set cons nil")) | ((with_reducible show wpAny _ _ (call (Value.type "list") _) _ _ _); (first | (with_reducible (first | (k_here; (with_reducible show wpAny _ _ (call (Value.type "list") [Value.ref _]) _ _ _); k_dflt (refine' filt_listN ?k1 ?k2 ?k3 ?k4 ?k5 ?_; (case k1 => with_unfolding_all rfl); (case k2 => k_asm); (case k3 => k_asm); (case k4 => k_mem); (case k5 => k_all); k_whole); intro D8q c8q hpq tkpq Fpq Npq l1q; (try k_lt l1q)))) | (k_here; (with_reducible show wpAny _ _ (call (Value.type "list") [Value.ref _]) _ _ _); k_dflt (refine' filt_listN ?k1 ?k2 ?k3 ?k4 ?k5 ?_; (case k1 => with_unfolding_all rfl); (case k2 => k_asm); (case k3 => k_asm); (case k4 => k_mem); (case k5 => k_all); k_whole); intro D8q c8q hpq tkpq Fpq Npq l1q; (try k_lt l1q))); (try walk_say "OWN call type:list cons nil")) | ((with_reducible show wpAny _ _ (call (Value.type "filter") _) _ _ _); (first | (with_reducible (first | (k_here; (with_reducible show wpAny _ _ (call (Value.type "filter") [_, Value.ref _]) _ _ _); k_dflt (refine' filt_new ?k2 ?k3 ?k4 ?_; (case k2 => k_asm); (case k3 => k_asm); (case k4 => k_mem); k_whole); intro r9q it9q hpq Fpq Npq l1q l2q; (try k_lt l1q)))) | (k_here; (with_reducible show wpAny _ _ (call (Value.type "filter") [_, Value.ref _]) _ _ _); k_dflt (refine' filt_new ?k2 ?k3 ?k4 ?_; (case k2 => k_asm); (case k3 => k_asm); (case k4 => k_mem); k_whole); intro r9q it9q hpq Fpq Npq l1q l2q; (try k_lt l1q))); (try walk_say "OWN call type:filter")))) | ((fail_if_success (goal_lacks eval)); (with_reducible show wpAny _ _ (eval _ _) _ _ _); (first | ((with_reducible show wpAny _ _ (eval (Expr.ListComp ..) _) _ _ _); (first | (with_reducible (first | ((with_reducible show wpAny _ _ (eval _ _) _ _ _); k_here; lcg_look; lcg_calm; k_dflt (refine LCg.ListComp_U (F₀ := by k_asm) (by rfl) (by decide) (by rfl) (by decide) (by rfl) ?_); k_dflt lcg_toSrc))) | ((with_reducible show wpAny _ _ (eval _ _) _ _ _); k_here; lcg_look; lcg_calm; k_dflt (refine LCg.ListComp_U (F₀ := by k_asm) (by rfl) (by decide) (by rfl) (by decide) (by rfl) ?_); k_dflt lcg_toSrc)); (try walk_say "OWN eval ListComp")) | ((with_reducible show wpAny _ _ (eval (Expr.Name ..) _) _ _ _); (first | (with_reducible (first | (k_here; (with_reducible show wpAny _ _ (eval (Expr.Name _ _) (compEnvC _ _ _ _)) _ _ _); k_dflt (refine' lcf_cell ?N ?c ?m ?d ?_ ?a ?b; (case a => rfl); (case b => rfl); (case N => k_asm); (case c => rfl); (case m => k_mem); (case d => with_reducible assumption); k_whole)) | (k_here; (with_reducible show wpAny _ _ (eval (Expr.Name _ _) (compEnvC _ _ _ _)) _ _ _); k_dflt (refine' LCgL.ld_own ?N ?m ?d ?x ?_ ?a ?b; (case a => rfl); (case b => rfl); (case N => k_asm); (case m => k_mem); (case d => with_reducible assumption); (case x => with_reducible assumption); k_whole)))) | (k_here; (with_reducible show wpAny _ _ (eval (Expr.Name _ _) (compEnvC _ _ _ _)) _ _ _); k_dflt (refine' lcf_cell ?N ?c ?m ?d ?_ ?a ?b; (case a => rfl); (case b => rfl); (case N => k_asm); (case c => rfl); (case m => k_mem); (case d => with_reducible assumption); k_whole)) | (k_here; (with_reducible show wpAny _ _ (eval (Expr.Name _ _) (compEnvC _ _ _ _)) _ _ _); k_dflt (refine' LCgL.ld_own ?N ?m ?d ?x ?_ ?a ?b; (case a => rfl); (case b => rfl); (case N => k_asm); (case m => k_mem); (case d => with_reducible assumption); (case x => with_reducible assumption); k_whole))); (try walk_say "OWN eval Name")))) | ((fail_if_success (goal_lacks getAttr)); (with_reducible show wpAny _ _ (getAttr _ _ _) _ _ _); ((first | (with_reducible (first | (k_here; (with_reducible show wpAny _ _ (getAttr (Value.ref _) (Str.ofString "__contains__") true) _ _ _); k_dflt (refine' sc_N ?k2 ?k3 ?k4 ?_; (case k2 => k_asm); (case k3 => k_asm); (case k4 => k_mem); k_whole); intro b9q hpq tkpq Fpq Npq))) | (k_here; (with_reducible show wpAny _ _ (getAttr (Value.ref _) (Str.ofString "__contains__") true) _ _ _); k_dflt (refine' sc_N ?k2 ?k3 ?k4 ?_; (case k2 => k_asm); (case k3 => k_asm); (case k4 => k_mem); k_whole); intro b9q hpq tkpq Fpq Npq)); (try walk_say "OWN getAttr ref"))) | ((fail_if_success (goal_lacks InvEndN)); (with_reducible show InvEndN ..); (repeat clear qk); (repeat clear ek); ((first | (with_reducible (first | k_dflt kst_close)) | k_dflt kst_close); (try walk_say "OWN InvEndN"))) | ((fail_if_success (goal_lacks LCg.CompEnd)); (with_reducible show LCg.CompEnd ..); ((first | (with_reducible (first | first | (k_dflt (refine' ce_int ?a1 ?a2 ?a3 ?a4 ?_; (case a1 => k_asm); (case a2 => k_asm); (case a3 => with_reducible assumption); (case a4 => first | exact True.intro | lcg_src)); intro z9q hz9q) | (k_dflt (refine' ce_same ?a1 ?a2 ?a3 ?a4 ?_; (case a1 => k_asm); (case a2 => k_asm); (case a3 => with_reducible assumption); (case a4 => first | exact True.intro | lcg_src))) | (k_dflt (refine' ce_one ?a1 ?a2 ?a3 ?a5 ?a4 ?_; (case a1 => k_asm); (case a2 => k_asm); (case a3 => with_reducible assumption); (case a5 => with_reducible assumption); (case a4 => first | exact True.intro | lcg_src))) | k_dflt lcg_end)) | first | (k_dflt (refine' ce_int ?a1 ?a2 ?a3 ?a4 ?_; (case a1 => k_asm); (case a2 => k_asm); (case a3 => with_reducible assumption); (case a4 => first | exact True.intro | lcg_src)); intro z9q hz9q) | (k_dflt (refine' ce_same ?a1 ?a2 ?a3 ?a4 ?_; (case a1 => k_asm); (case a2 => k_asm); (case a3 => with_reducible assumption); (case a4 => first | exact True.intro | lcg_src))) | (k_dflt (refine' ce_one ?a1 ?a2 ?a3 ?a5 ?a4 ?_; (case a1 => k_asm); (case a2 => k_asm); (case a3 => with_reducible assumption); (case a5 => with_reducible assumption); (case a4 => first | exact True.intro | lcg_src))) | k_dflt lcg_end); (try walk_say "OWN CompEnd"))) | ((fail_if_success (goal_lacks LCg.CompRest)); (with_reducible show LCg.CompRest ..); ((first | (with_reducible (first | (with_unfolding_all first | (refine LCg.CompRest.succ ?_; intro vpq Ipq oIpq Cpq oCpq Dpq mpq hpq tkpq Epq hvpq hCpq hxpq Fpq Npq offpq nepq; clear nepq; (first | lcg_open hvpq | (obtain ⟨t9pq, hv9pq⟩ := hvpq; subst hv9pq))) | refine LCg.CompRest.zero ?_))) | (with_unfolding_all first | (refine LCg.CompRest.succ ?_; intro vpq Ipq oIpq Cpq oCpq Dpq mpq hpq tkpq Epq hvpq hCpq hxpq Fpq Npq offpq nepq; clear nepq; (first | lcg_open hvpq | (obtain ⟨t9pq, hv9pq⟩ := hvpq; subst hv9pq))) | refine LCg.CompRest.zero ?_)); (try walk_say "OWN CompRest"))) | ((fail_if_success (goal_lacks LCg.FinE)); (with_reducible show LCg.FinE ..); ((first | (with_reducible (first | ((unfold LCg.FinE); intro Dpq hpq tkpq Fpq Npq o1pq; (try simp only [List.nil_append, List.cons_append] at Npq); (try dsimp only)))) | ((unfold LCg.FinE); intro Dpq hpq tkpq Fpq Npq o1pq; (try simp only [List.nil_append, List.cons_append] at Npq); (try dsimp only))); (try walk_say "OWN FinE"))) | ((fail_if_success (goal_lacks CRestC)); (with_reducible show CRestC ..); ((first | (with_reducible (first | (with_unfolding_all first | (refine CRestC.succ ?_; intro vpq Ipq oIpq Cpq oCpq cpq ocpq Dpq hpq tkpq Epq hvpq hdpq Fpq Npq offpq nepq offcpq; clear nepq; lcg_open hvpq) | refine CRestC.zero ?_))) | (with_unfolding_all first | (refine CRestC.succ ?_; intro vpq Ipq oIpq Cpq oCpq cpq ocpq Dpq hpq tkpq Epq hvpq hdpq Fpq Npq offpq nepq offcpq; clear nepq; lcg_open hvpq) | refine CRestC.zero ?_)); (try walk_say "OWN CRestC"))) | ((fail_if_success (goal_lacks RestC)); (with_reducible show RestC ..); ((first | (with_reducible (first | (k_dflt (refine restC_one (by with_reducible assumption) (by with_reducible assumption) ?_)))) | (k_dflt (refine restC_one (by with_reducible assumption) (by with_reducible assumption) ?_))); (try walk_say "OWN RestC"))) | walk1 | (dsimp only; walk1) | (dsimp only [List.cons_append, List.nil_append]; walk1)); skip) | ((with_reducible show wpAny _ _ _ _ _ _); dsimp only) | (leave1; walk_say "STEP leave1"; try dsimp only) | fail "no step"))
  rename Fr h₀ L _ m => kF; rename News h₀ L _ _ => kN; rename Fr g' _ _ _ => kF'
  refine' ret _ _ _ _ _ _ _ kF (newsPick (KZ _ _ _ kF' kN ?ka) ?kb) ?kc ?kd
  case ka => k_dflt exact List.forall_mem_cons.mpr ⟨by k_mem, List.forall_mem_cons.mpr ⟨by k_mem, List.forall_mem_cons.mpr ⟨by k_mem, List.forall_mem_cons.mpr ⟨by k_mem, List.forall_mem_cons.mpr ⟨by k_mem, List.forall_mem_cons.mpr ⟨by k_mem, List.forall_mem_cons.mpr ⟨by k_mem, List.forall_mem_cons.mpr ⟨by k_mem, List.forall_mem_nil _⟩⟩⟩⟩⟩⟩⟩⟩
  case kb => k_dflt exact List.forall_mem_cons.mpr ⟨List.mem_append.mpr (.inl (by k_mem)), List.forall_mem_cons.mpr ⟨List.mem_append.mpr (.inl (by k_mem)), List.forall_mem_cons.mpr ⟨List.mem_append.mpr (.inl (by (repeat (first | exact List.Mem.head _ | refine List.Mem.tail _ ?_)))), fun p hp => List.mem_append.mpr (.inr hp)⟩⟩⟩
  case kc => with_unfolding_all rfl
  case kd => with_unfolding_all rfl
end Mine
end -- part Merge
section -- part AllowL
open PySem PySem.W PyProof.Rows PySem.Calls PySem.Spec PyProof.V
set_option maxRecDepth 100000
set_option maxHeartbeats 2000000
namespace Mine
theorem findObj_shadow {K : Frag} {C : Addr} {a g v : Value} {od : Obj} {name : Str} (hh : hasDictIn K C = true) (ha : findIn K (.ref C) name = some (some a)) (hg : specialIn K a "__get__" = some (some g)) (ht : takesIn K a = some false) (hl : lookIn name od = some (some v)) :
    findObj K C (some od) name = some (.value v) := by
  obtain ⟨cd, hc, hd⟩ := any_some hh
  unfold findObj
  have ho : W.ownOf cd (some od) name = some (some v) := by unfold W.ownOf; rw [if_pos hd]; exact hl
  rw [hc, Option.bind_some, ha, Option.bind_some]
  simp [hg, ht, ho]
section
variable {prog : Program} {w : World} {A : Around} {E : Value → Shared → Prop} {s : Shared} {K : Frag} {x C f L : Addr} {h₀ : Heap} {m : Str → Option Value} {ox : Obj} {es : List DictEntry} {n : Nat} {name : Str} {v g : Value}
/-- an attribute of a record's own over a method of its class -/
theorem get_shadow {expr : Bool} {Q : Value → Shared → Prop} (F : Fr h₀ L s.heap m) (X₀ : K.In h₀) (I : InstAt s.heap x ox C (some (dictOf es n))) (hg : plainGet K C name = true) (hh : hasDictIn K C = true)
    (ha : findIn K (.ref C) name = some (some (.ref f))) (hgf : specialIn K (.ref f) "__get__" = some (some g)) (hts : takesIn K (.ref f) = some false) (hl : getL name es = some (some v)) (hv : handedIn v = true) (h : Q v { s with toks := s.toks + 1 }) :
    wpAny (model prog w) A (getAttr (.ref x) name expr) Q E s :=
  get_value (X₀.keeps F.keep) I (plainGet_of hg).1 (findObj_shadow hh ha hgf hts (by show lookIn name (dictOf es n) = _; rw [lookIn_dict, hl])) hv h
theorem method_shadow {pl : Sem Bool} {Q : Value × List Value → Shared → Prop} (F : Fr h₀ L s.heap m) (X₀ : K.In h₀) (I : InstAt s.heap x ox C (some (dictOf es n))) (hg : plainGet K C name = true) (hh : hasDictIn K C = true)
    (ha : findIn K (.ref C) name = some (some (.ref f))) (ht : typeIn K (.ref f) = some (.type "function")) (hgf : specialIn K (.ref f) "__get__" = some (some g)) (hts : takesIn K (.ref f) = some false) (hl : getL name es = some (some v)) (hv : handedIn v = true) (hox : ox.dict ≠ none) (h : Q (v, []) { s with toks := s.toks + 1 }) :
    wpAny (model prog w) A (getMethod (.ref x) name pl) Q E s := by
  have hcan := PySem.F.canon_object_ga
  have X := X₀.keeps F.keep
  have G := get_shadow (prog := prog) (w := w) (A := A) (E := E) (expr := false) (Q := fun v => Q (v, [])) F X₀ I hg hh ha hgf hts hl hv h
  unfold getMethod specialOf
  refine wpAny_bind (wpAny_bind (I.type.here ((looks_findIn X (plainGet_of hg).1).here ?_)))
  dsimp only
  rw [hcan, if_neg (by decide)]
  refine wpAny_bind (wpAny_bind (I.type.here ((looks_findIn X (plainGet_of hg).2).here ?_)))
  refine wpAny_bind (wpAny_bind (I.type.here ((looks_findIn X ha).here (wpAny_bind ((looks_typeIn X ht).here ?_)))))
  rw [if_neg (by decide +kernel)]
  refine wpAny_bind (wpAny_loadPart I.at_ ?_)
  have hd := I.dict
  cases e : ox.dict with
  | none => exact absurd e hox
  | some dx =>
    rw [e] at hd
    refine wpAny_bind (wpAny_bind (wpAny_loadPart hd ?_))
    rw [nsLook_of (show lookIn name (dictOf es n) = some (some v) by rw [lookIn_dict, hl])]
    refine wpAny_pure ?_
    exact wpAny_bind (wpAny_mono G (fun _ _ z => wpAny_pure z) fun _ _ z => z)
end
inductive RulesAre (w : World) (p : Program) (loose : List Str) (mean : ExcName → Option Value) (mg mb : Str → Option Value) (l : List (Addr × Obj)) : List Value → List (Int × Int) → Prop
  | nil : RulesAre w p loose mean mg mb l [] []
  | cons {v sv : Value} {vs : List Value} {node k : Int} {ps : List (Int × Int)} : RuleIs w p loose mean mg mb l v (frontS node) sv → SayIs k sv → RulesAre w p loose mean mg mb l vs ps → RulesAre w p loose mean mg mb l (v :: vs) ((node, k) :: ps)
section
variable {w : World} {p : Program} {loose : List Str} {mean : ExcName → Option Value} {mg mb : Str → Option Value} {l l' : List (Addr × Obj)} {vs ws : List Value} {ps qs : List (Int × Int)}
theorem RulesAre.mono (h : RulesAre w p loose mean mg mb l vs ps) (hs : ∀ q ∈ l, q ∈ l') : RulesAre w p loose mean mg mb l' vs ps := by
  induction h with
  | nil => exact .nil
  | cons a b _ ih => exact .cons (a.mono hs) b ih
theorem RulesAre.append (h : RulesAre w p loose mean mg mb l vs ps) (k : RulesAre w p loose mean mg mb l ws qs) : RulesAre w p loose mean mg mb l (vs ++ ws) (ps ++ qs) := by
  induction h with
  | nil => exact k
  | cons a b _ ih => exact .cons a b ih
theorem RulesAre.length (h : RulesAre w p loose mean mg mb l vs ps) : vs.length = ps.length := by
  induction h with
  | nil => rfl
  | cons _ _ _ ih => simp [ih]
theorem RulesAre.get (h : RulesAre w p loose mean mg mb l vs ps) : ∀ {i : Nat} {v : Value}, vs[i]? = some v → ∃ node k sv, ps[i]? = some (node, k) ∧ RuleIs w p loose mean mg mb l v (frontS node) sv ∧ SayIs k sv := by
  induction h with
  | nil => intro i v e; simp at e
  | cons a b _ ih =>
    intro i v e
    cases i with
    | zero => simp at e; subst e; exact ⟨_, _, _, by simp, a, b⟩
    | succ i => simp at e; obtain ⟨n, k, sv, h1, h2, h3⟩ := ih e; exact ⟨n, k, sv, by simpa using h1, h2, h3⟩
end
def aFr (u : Str → Option Value) (av : Value) (b : Int) (bt : Tok) (m₀ : Str → Option Value) : Str → Option Value :=
  fun z => if z = Str.ofString "line" then u z else if z = Str.ofString "m" then u z else if z = Str.ofString "allowance" then some av else if z = Str.ofString "best_match" then some (.int b bt) else m₀ z
def AllowM (m₀ : Str → Option Value) (st : Int × Int) (m' : Str → Option Value) : Prop :=
  ∃ av bt, m' (Str.ofString "best_match") = some (.int st.1 bt) ∧ SayIs st.2 av ∧ m' (Str.ofString "allowance") = some av ∧ ∀ z, z ≠ Str.ofString "line" → z ≠ Str.ofString "m" → z ≠ Str.ofString "allowance" → z ≠ Str.ofString "best_match" → m' z = m₀ z
theorem AllowM.frame {m₀ m' : Str → Option Value} {st : Int × Int} (h : AllowM m₀ st m') : ∃ av bt, SayIs st.2 av ∧ m' = aFr m' av st.1 bt m₀ := by
  obtain ⟨av, bt, h1, h2, h3, h4⟩ := h
  refine ⟨av, bt, h2, funext fun z => ?_⟩
  unfold aFr
  by_cases e1 : z = Str.ofString "line"
  · rw [if_pos e1]
  by_cases e2 : z = Str.ofString "m"
  · rw [if_neg e1, if_pos e2]
  by_cases e3 : z = Str.ofString "allowance"
  · rw [if_neg e1, if_neg e2, if_pos e3, e3, h3]
  by_cases e4 : z = Str.ofString "best_match"
  · rw [if_neg e1, if_neg e2, if_neg e3, if_pos e4, e4, h1]
  rw [if_neg e1, if_neg e2, if_neg e3, if_neg e4, h4 z e1 e2 e3 e4]
theorem allow_list {prog : Program} {w : World} {A : Around} {E : Value → Shared → Prop} {s : Shared} {env : Env} {h₀ : Heap} {x : Str} {px : Pos} {body : List Stmt} {Q : Flow → Shared → Prop} {l : Addr} {vs : List Value} {nn : Nat} {m₀ : Str → Option Value} {news : List (Addr × Obj)} {p : Program} {loose : List Str} {mean : ExcName → Option Value} {mg mb : Str → Option Value} {ps : List (Int × Int)} {t : Tok} (W : Int → Int)
    (hh : A.handled = none) (hl : (l, PySem.W.listOf vs.toArray nn) ∈ news) (F : Fr h₀ env.locals s.heap m₀) (N : News h₀ env.locals s.heap news) (R : RulesAre w p loose mean mg mb news vs ps)
    (hb : m₀ (Str.ofString "best_match") = some (.int (-1) t)) (ha : m₀ (Str.ofString "allowance") = some (.bool true))
    (turn : ∀ u v node k sv b al bt av h tk I oI, RuleIs w p loose mean mg mb news v (frontS node) sv → SayIs k sv → SayIs al av → Fr h₀ env.locals h (aFr u av b bt m₀) → News h₀ env.locals h ((I, oI) :: news) → (∀ p ∈ news, p.1 ≠ I) →
      wpAny (model prog w) A (assign (.Name x px) env v) (fun _ s₂ => wpAny (model prog w) A (execs body env) (TnPost h₀ env.locals I oI (fun m' nx => nx = news ∧ AllowM m₀ (stepA W (b, al) (node, k)) m') { s with heap := h, toks := tk } Q) E s₂) E { s with heap := h, toks := tk })
    (done : ∀ u b bt av h tk, SayIs (ps.foldl (stepA W) (-1, 0)).2 av → Fr h₀ env.locals h (aFr u av b bt m₀) → News h₀ env.locals h news → Q .next { s with heap := h, toks := tk }) :
    wpAny (model prog w) A (pyIter (.ref l)) (fun it s₂ => TurnsAt prog w A h₀ env (.Name x px) body Q E it s₂) E s := by
  refine tn_list (fun i m nx => nx = news ∧ AllowM m₀ ((ps.take i).foldl (stepA W) (-1, 0)) m) hh hl (fun i m nx h => h.1 ▸ hl) F N ⟨rfl, .bool true, t, hb, .inl ⟨rfl, rfl⟩, ha, fun _ _ _ _ _ => rfl⟩ ?_ ?_
  · rintro i v m₁ nx h tk I oI hv ⟨rfl, hM⟩ F₁ N₁ off
    obtain ⟨node, k, sv, hp, hR, hS⟩ := R.get hv
    obtain ⟨av, bt, hs, e⟩ := hM.frame
    rw [e] at F₁
    have e2 : (ps.take (i + 1)).foldl (stepA W) (-1, 0) = stepA W ((ps.take i).foldl (stepA W) (-1, 0)) (node, k) := by
      rw [List.take_add_one, hp, List.foldl_append]; rfl
    rw [e2]
    exact turn m₁ v node k sv _ _ bt av h tk I oI hR hS hs F₁ N₁ off
  · rintro m₁ nx h tk ⟨rfl, hM⟩ F₁ N₁
    rw [R.length, List.take_length] at hM
    obtain ⟨av, bt, hs, e⟩ := hM.frame
    rw [e] at F₁
    exact done _ _ _ av h tk hs F₁ N₁
theorem allow_end {h₀ h' : Heap} {L I : Addr} {oI : Obj} {m₀ m' : Str → Option Value} {s₁ : Shared} {tk : Nat} {news nx : List (Addr × Obj)} {st : Int × Int} {b' al' : Int} {bt : Tok} {av : Value}
    (F : Fr h₀ L h' m') (N : News h₀ L h' nx) (hI : (I, oI) ∈ nx) (hn : ∀ p ∈ news, p ∈ nx) (off : ∀ p ∈ news, p.1 ≠ I) (hst : st = (b', al')) (e1 : m' (Str.ofString "best_match") = some (.int b' bt)) (e2 : m' (Str.ofString "allowance") = some av) (hs : SayIs al' av)
    (hz : ∀ z, z ≠ Str.ofString "line" → z ≠ Str.ofString "m" → z ≠ Str.ofString "allowance" → z ≠ Str.ofString "best_match" → m' z = m₀ z) :
    TnEnd h₀ L I oI (fun m' nx => nx = news ∧ AllowM m₀ st m') s₁ { s₁ with heap := h', toks := tk } := by
  subst hst
  exact ⟨h', tk, m', news, rfl, F, newsPick N (List.forall_mem_cons.mpr ⟨hI, hn⟩), off, rfl, av, bt, e1, hs, e2, hz⟩
theorem lam_use {w : World} {p : Program} {loose : List Str} {mean : ExcName → Option Value} {mg mb : Str → Option Value} {live : List (Addr × Obj)} {f : Addr} {fr nm : Str} {t : Tok} {dp un : Nat} {gd : Option (List Code)} {cn : Str} {cs : Scope} {a : Addr} {ccd : Value} {cl : List (Str × Addr)} {outer : List Env} {A₀ : Around} {base h₀ : Heap} {L : Addr} {m : Str → Option Value} {news : List (Addr × Obj)} {s : Shared} {Q E : Value → Shared → Prop}
    (hL : LamIs w p loose mean mg mb live f fr) (B : Below A₀ base outer h₀) (F : Fr h₀ L s.heap m) (X : (hd.heap_1 w.params).In h₀) (N : News h₀ L s.heap news) (T : Top p loose mean mg mb h₀) (hk : cs.kind = .function) (hsub : ∀ q ∈ live, q ∈ news) (hd : dp + 15 < recursionLimit) (hu : un + 8 * 15 < cLine) (hl : nm.length ≤ 100)
    (ret : ∀ t' h' tk', Fr h₀ L h' m → News h₀ L h' news → Q (.int (wS fr nm) t') { s with heap := h', toks := tk' }) :
    wpAny (model Challenge.rw_rl0031_01.row.prog w) (ktrTop dp un gd cn cs L a ccd cl outer) (call (.ref f) [.str nm t]) Q E s := hL B F X N T hk hsub hd hu hl ret
end Mine
end -- part AllowL
section -- part Allow
open PySem PySem.W PyProof.Rows
set_option maxRecDepth 100000
set_option maxHeartbeats 1500000
namespace Mine
local macro_rules | `(tactic| size_fits) => `(tactic| (rw [sizeLine_eq]; (with_reducible refine Nat.le_of_ble_eq_true ?_); with_unfolding_all rfl))
local macro_rules | `(tactic| k_ne) => `(tactic| first | exact ne_offN (by with_reducible assumption) (by k_mem) | exact Ne.symm (ne_offN (by with_reducible assumption) (by k_mem)) | (refine neN ?_; (try dsimp only); omega))
theorem allow_spec (w : World) (p : Program) (loose : List Str) (mean : ExcName → Option Value) (mg mb : Str → Option Value) : ∀ {x d l : Addr} {es : List DictEntry} {ne nn : Nat} {vs : List Value} {ps : List (Int × Int)} {nm : Str} {t0 : Tok} {dp un : Nat} {gd : Option (List Code)} {cn : Str} {cs : Scope} {a : Addr} {ccd : Value} {cl : List (Str × Addr)} {outer : List Env} {A₀ : Around} {base h₀ : Heap} {L : Addr} {m : Str → Option Value} {news : List (Addr × Obj)} {s : Shared} {Q E : Value → Shared → Prop}
    (B : Below A₀ base outer h₀) (F : Fr h₀ L s.heap m) (X : (hd.heap_1 w.params).In h₀) (N : News h₀ L s.heap news) (T : Top p loose mean mg mb h₀) (hk : cs.kind = .function)
    (hx : (x, instObj 52 d) ∈ news) (hdd : (d, dictOf es ne) ∈ news) (hge : getL (Str.ofString "rulelines") es = some (some (.ref l))) (hll : (l, W.listOf vs.toArray nn) ∈ news) (R : RulesAre w p loose mean mg mb news vs ps) (hnm : nm.length ≤ 100)
    (hd : dp + 20 < recursionLimit) (hu : un + 8 * 20 < cLine)
    (ret : ∀ sv h' tk', SayIs (ps.foldl (stepA fun y => wS (frontS y) nm) (-1, 0)).2 sv → Fr h₀ L h' m → News h₀ L h' news → Q sv { s with heap := h', toks := tk' }),
    wpAny (model Challenge.rw_rl0031_01.row.prog w) (ktrTop dp un gd cn cs L a ccd cl outer) (call (.ref 49) [.ref x, .str nm t0]) Q E s := by
  k_fill
  k_with_none
  k_with "call ref" => ((k_dflt (show wpAny _ _ (call (Value.ref _) [Value.str _ _]) _ _ _)); (k_dflt (refine' lam_use ?hL ?k1 ?k2 ?k3 ?k4 ?k5 ?kK ?hs ?kd ?ku ?kl ?_; (case hL => with_reducible assumption); (case k1 => k_asm); (case k2 => k_asm); (case k3 => k_asm); (case k4 => k_asm); (case k5 => k_asm); (case kK => exact rfl); (case hs => exact fun q hq => .tail _ (.tail _ (.tail _ (.tail _ hq)))); (case kd => (show dp + 1 + 15 < recursionLimit; omega)); (case ku => (show un + 3 + 8 * 15 < cLine; omega)); (case kl => with_reducible assumption))); intro t9 h9 tk9 F9 N9; (try dsimp only); (try k_fold); walk_say "LAMBDA")
  intro x d l es ne nn vs ps nm t0 dp un gd cn cs a ccd cl outer A₀ base h₀ L m news s Q E B F X N T hk hx hdd hge hll R hnm hd hu ret
  replace N := newsC (newsC N hdd) (.tail _ hx)
  refine wpAny_call ?_
  k_dflt (refine' code_def ?k1 ?k2 ?k3 ?k4 ?k5 ?kA ?kF ?kK ?k6 ?k7 ?k8 ?k9 ?kB ?_ ?c2 ?c3 ?c4 ?c5; (case kA => exact rfl); (case kF => exact rfl); (case kK => assumption); (case k1 => k_asm); (case k2 => k_asm); (case k3 => k_asm); (case k4 => k_asm); (case k5 => k_asm); (case k6 => k_is); (case k7 => k_is); (case k8 => ktr_room); (case k9 => exact BindsTo.of_eq rfl); (case c5 => decide); (case kB => exact locs rfl); (case c2 => exact rfl); (case c3 => exact rfl); (case c4 => exact rfl); k_whole; intro g' L' h' FG' F' N' B' X' T'; (try dsimp only); (try k_fold))
  (repeat' (first | (k_unfold; (try dsimp only)) | (k_end; wrow_close) | ((first | ((fail_if_success (goal_lacks exec)); (with_reducible show wpAny _ _ (exec _ _) _ _ _); ((with_reducible show wpAny _ _ (exec (Stmt.For (Expr.Name ..) (Expr.Attribute ..) (_ :: _) [] _) _) _ _ _); (first | (with_reducible (first | (k_here; (rename Fr _ _ _ _ => lFpq); (with_unfolding_all refine' For_turns lFpq ?_; k_whole)))) | (k_here; (rename Fr _ _ _ _ => lFpq); (with_unfolding_all refine' For_turns lFpq ?_; k_whole))); (try walk_say "OWN exec For Name Attribute cons nil"))) | ((fail_if_success (goal_lacks binaryOp)); (with_reducible show wpAny _ _ (binaryOp _ _ _) _ _ _); ((with_reducible show wpAny _ _ (binaryOp Operator.Mult (Value.int _ _) (Value.int _ _)) _ _ _); (first | (with_reducible (first | (k_here; with_reducible refine mul_int ?_ (IntMulOk.of_left (by decide))))) | (k_here; with_reducible refine mul_int ?_ (IntMulOk.of_left (by decide)))); (try walk_say "OWN binaryOp Mult int int"))) | ((fail_if_success (goal_lacks eval)); (with_reducible show wpAny _ _ (eval _ _) _ _ _); (first | ((with_reducible show wpAny _ _ (eval (Expr.ListComp ..) _) _ _ _); (first | (with_reducible (first | ((with_reducible show wpAny _ _ (eval _ _) _ _ _); k_here; lcg_look; lcg_calm; k_dflt (refine LCg.ListComp_U (F₀ := by k_asm) (by rfl) (by decide) (by rfl) (by decide) (by rfl) ?_); k_dflt lcg_toSrc))) | ((with_reducible show wpAny _ _ (eval _ _) _ _ _); k_here; lcg_look; lcg_calm; k_dflt (refine LCg.ListComp_U (F₀ := by k_asm) (by rfl) (by decide) (by rfl) (by decide) (by rfl) ?_); k_dflt lcg_toSrc)); (try walk_say "OWN eval ListComp")) | ((with_reducible show wpAny _ _ (eval (Expr.Name ..) _) _ _ _); (first | (with_reducible (first | (k_here; (with_reducible show wpAny _ _ (eval (Expr.Name _ _) (compEnvC _ _ _ _)) _ _ _); k_dflt (refine' lcf_cell ?N ?c ?m ?d ?_ ?a ?b; (case a => rfl); (case b => rfl); (case N => k_asm); (case c => rfl); (case m => k_mem); (case d => with_reducible assumption); k_whole)) | (k_here; (with_reducible show wpAny _ _ (eval (Expr.Name _ _) (compEnvC _ _ _ _)) _ _ _); k_dflt (refine' LCgL.ld_own ?N ?m ?d ?x ?_ ?a ?b; (case a => rfl); (case b => rfl); (case N => k_asm); (case m => k_mem); (case d => with_reducible assumption); (case x => with_reducible assumption); k_whole)))) | (k_here; (with_reducible show wpAny _ _ (eval (Expr.Name _ _) (compEnvC _ _ _ _)) _ _ _); k_dflt (refine' lcf_cell ?N ?c ?m ?d ?_ ?a ?b; (case a => rfl); (case b => rfl); (case N => k_asm); (case c => rfl); (case m => k_mem); (case d => with_reducible assumption); k_whole)) | (k_here; (with_reducible show wpAny _ _ (eval (Expr.Name _ _) (compEnvC _ _ _ _)) _ _ _); k_dflt (refine' LCgL.ld_own ?N ?m ?d ?x ?_ ?a ?b; (case a => rfl); (case b => rfl); (case N => k_asm); (case m => k_mem); (case d => with_reducible assumption); (case x => with_reducible assumption); k_whole))); (try walk_say "OWN eval Name")))) | ((fail_if_success (goal_lacks getAttr)); (with_reducible show wpAny _ _ (getAttr _ _ _) _ _ _); ((first | (with_reducible (first | (k_here; (with_reducible show wpAny _ _ (getAttr (Value.ref _) (PySem.Str.ofString "allowance") _) _ _ _); k_dflt (refine' get_shadow ?k1 ?k2 ?k3 ?k4 ?k5 ?k6 ?k7 ?k8 ?k9 ?k10 ?_; (case k1 => k_asm); (case k2 => k_asm); (case k3 => k_inst); (case k4 => k_is); (case k5 => k_is); (case k6 => k_is); (case k7 => k_is); (case k8 => k_is); (case k9 => with_reducible assumption); (case k10 => first | with_reducible assumption | k_handed); k_whole)) | (k_here; (with_reducible show wpAny _ _ (getAttr (Value.ref _) (PySem.Str.ofString "rulelines") _) _ _ _); k_dflt (refine' get_own ?k1 ?k2 ?k3 ?k4 ?k5 ?k6 ?k7 ?k8 ?k9 ?_; (case k1 => k_asm); (case k2 => k_asm); (case k3 => k_inst); (case k4 => k_is); (case k5 => k_is); (case k6 => k_is); (case k7 => k_is); (case k8 => with_reducible assumption); (case k9 => k_handed); k_whole)))) | (k_here; (with_reducible show wpAny _ _ (getAttr (Value.ref _) (PySem.Str.ofString "allowance") _) _ _ _); k_dflt (refine' get_shadow ?k1 ?k2 ?k3 ?k4 ?k5 ?k6 ?k7 ?k8 ?k9 ?k10 ?_; (case k1 => k_asm); (case k2 => k_asm); (case k3 => k_inst); (case k4 => k_is); (case k5 => k_is); (case k6 => k_is); (case k7 => k_is); (case k8 => k_is); (case k9 => with_reducible assumption); (case k10 => first | with_reducible assumption | k_handed); k_whole)) | (k_here; (with_reducible show wpAny _ _ (getAttr (Value.ref _) (PySem.Str.ofString "rulelines") _) _ _ _); k_dflt (refine' get_own ?k1 ?k2 ?k3 ?k4 ?k5 ?k6 ?k7 ?k8 ?k9 ?_; (case k1 => k_asm); (case k2 => k_asm); (case k3 => k_inst); (case k4 => k_is); (case k5 => k_is); (case k6 => k_is); (case k7 => k_is); (case k8 => with_reducible assumption); (case k9 => k_handed); k_whole))); (try walk_say "OWN getAttr ref"))) | ((fail_if_success (goal_lacks getMethod)); (with_reducible show wpAny _ _ (getMethod _ _ _) _ _ _); ((first | (with_reducible (first | (k_here; (with_reducible show wpAny _ _ (getMethod (Value.ref _) (PySem.Str.ofString "applies_to") _) _ _ _); k_dflt (refine' method_shadow ?k1 ?k2 ?k3 ?k4 ?k5 ?k6 ?k7 ?k8 ?k9 ?k10 ?k11 ?k12 ?_; (case k1 => k_asm); (case k2 => k_asm); (case k3 => k_inst); (case k4 => k_is); (case k5 => k_is); (case k6 => k_is); (case k7 => k_is); (case k8 => k_is); (case k9 => k_is); (case k10 => with_reducible assumption); (case k11 => rfl); (case k12 => exact fun e => nomatch e); k_whole); (try dsimp only)))) | (k_here; (with_reducible show wpAny _ _ (getMethod (Value.ref _) (PySem.Str.ofString "applies_to") _) _ _ _); k_dflt (refine' method_shadow ?k1 ?k2 ?k3 ?k4 ?k5 ?k6 ?k7 ?k8 ?k9 ?k10 ?k11 ?k12 ?_; (case k1 => k_asm); (case k2 => k_asm); (case k3 => k_inst); (case k4 => k_is); (case k5 => k_is); (case k6 => k_is); (case k7 => k_is); (case k8 => k_is); (case k9 => k_is); (case k10 => with_reducible assumption); (case k11 => rfl); (case k12 => exact fun e => nomatch e); k_whole); (try dsimp only))); (try walk_say "OWN getMethod ref"))) | ((fail_if_success (goal_lacks call)); (with_reducible show wpAny _ _ (call _ _) _ _ _); ((first | (with_reducible (first | k_extra "call ref")) | k_extra "call ref"); (try walk_say "OWN call ref"))) | ((fail_if_success (goal_lacks callWith)); (with_reducible show wpAny _ _ (callWith ..) _ _ _); ((first | (with_reducible (first | (k_here; k_dflt (first | (refine' callWith_F ?k1 ?_; (case k1 => exact FnAt.of (by k_asm) (by k_mem)); k_whole) | (refine' callWith_F0 ?k1 ?_; (case k1 => exact FnAt.of (by k_asm) (by k_mem)); k_whole; try dsimp only [List.nil_append, List.cons_append]))))) | (k_here; k_dflt (first | (refine' callWith_F ?k1 ?_; (case k1 => exact FnAt.of (by k_asm) (by k_mem)); k_whole) | (refine' callWith_F0 ?k1 ?_; (case k1 => exact FnAt.of (by k_asm) (by k_mem)); k_whole; try dsimp only [List.nil_append, List.cons_append])))); (try walk_say "OWN callWith ref"))) | ((fail_if_success (goal_lacks InvEndN)); (with_reducible show InvEndN ..); (repeat clear qk); (repeat clear ek); ((first | (with_reducible (first | k_dflt kst_close)) | k_dflt kst_close); (try walk_say "OWN InvEndN"))) | ((fail_if_success (goal_lacks LCg.CompEnd)); (with_reducible show LCg.CompEnd ..); ((first | (with_reducible (first | first | (k_dflt (refine' ce_int ?a1 ?a2 ?a3 ?a4 ?_; (case a1 => k_asm); (case a2 => k_asm); (case a3 => with_reducible assumption); (case a4 => first | exact True.intro | lcg_src)); intro z9q hz9q) | (k_dflt (refine' ce_same ?a1 ?a2 ?a3 ?a4 ?_; (case a1 => k_asm); (case a2 => k_asm); (case a3 => with_reducible assumption); (case a4 => first | exact True.intro | lcg_src))) | (k_dflt (refine' ce_one ?a1 ?a2 ?a3 ?a5 ?a4 ?_; (case a1 => k_asm); (case a2 => k_asm); (case a3 => with_reducible assumption); (case a5 => with_reducible assumption); (case a4 => first | exact True.intro | lcg_src))) | k_dflt lcg_end)) | first | (k_dflt (refine' ce_int ?a1 ?a2 ?a3 ?a4 ?_; (case a1 => k_asm); (case a2 => k_asm); (case a3 => with_reducible assumption); (case a4 => first | exact True.intro | lcg_src)); intro z9q hz9q) | (k_dflt (refine' ce_same ?a1 ?a2 ?a3 ?a4 ?_; (case a1 => k_asm); (case a2 => k_asm); (case a3 => with_reducible assumption); (case a4 => first | exact True.intro | lcg_src))) | (k_dflt (refine' ce_one ?a1 ?a2 ?a3 ?a5 ?a4 ?_; (case a1 => k_asm); (case a2 => k_asm); (case a3 => with_reducible assumption); (case a5 => with_reducible assumption); (case a4 => first | exact True.intro | lcg_src))) | k_dflt lcg_end); (try walk_say "OWN CompEnd"))) | ((fail_if_success (goal_lacks LCg.CompRest)); (with_reducible show LCg.CompRest ..); ((first | (with_reducible (first | (with_unfolding_all first | (refine LCg.CompRest.succ ?_; intro vpq Ipq oIpq Cpq oCpq Dpq mpq hpq tkpq Epq hvpq hCpq hxpq Fpq Npq offpq nepq; clear nepq; (first | lcg_open hvpq | (obtain ⟨t9pq, hv9pq⟩ := hvpq; subst hv9pq))) | refine LCg.CompRest.zero ?_))) | (with_unfolding_all first | (refine LCg.CompRest.succ ?_; intro vpq Ipq oIpq Cpq oCpq Dpq mpq hpq tkpq Epq hvpq hCpq hxpq Fpq Npq offpq nepq; clear nepq; (first | lcg_open hvpq | (obtain ⟨t9pq, hv9pq⟩ := hvpq; subst hv9pq))) | refine LCg.CompRest.zero ?_)); (try walk_say "OWN CompRest"))) | ((fail_if_success (goal_lacks LCg.FinE)); (with_reducible show LCg.FinE ..); ((first | (with_reducible (first | ((unfold LCg.FinE); intro Dpq hpq tkpq Fpq Npq o1pq; (try simp only [List.nil_append, List.cons_append] at Npq); (try dsimp only)))) | ((unfold LCg.FinE); intro Dpq hpq tkpq Fpq Npq o1pq; (try simp only [List.nil_append, List.cons_append] at Npq); (try dsimp only))); (try walk_say "OWN FinE"))) | ((fail_if_success (goal_lacks CRestC)); (with_reducible show CRestC ..); ((first | (with_reducible (first | (with_unfolding_all first | (refine CRestC.succ ?_; intro vpq Ipq oIpq Cpq oCpq cpq ocpq Dpq hpq tkpq Epq hvpq hdpq Fpq Npq offpq nepq offcpq; clear nepq; lcg_open hvpq) | refine CRestC.zero ?_))) | (with_unfolding_all first | (refine CRestC.succ ?_; intro vpq Ipq oIpq Cpq oCpq cpq ocpq Dpq hpq tkpq Epq hvpq hdpq Fpq Npq offpq nepq offcpq; clear nepq; lcg_open hvpq) | refine CRestC.zero ?_)); (try walk_say "OWN CRestC"))) | ((fail_if_success (goal_lacks RestC)); (with_reducible show RestC ..); ((first | (with_reducible (first | (k_dflt (refine restC_one (by with_reducible assumption) (by with_reducible assumption) ?_)))) | (k_dflt (refine restC_one (by with_reducible assumption) (by with_reducible assumption) ?_))); (try walk_say "OWN RestC"))) | walk1 | (dsimp only; walk1) | (dsimp only [List.cons_append, List.nil_append]; walk1)); (try (goal_lacks LoopAtV TurnsAt; (first | (fail_if_success k_fold; skip) | (refine foldQ ?_; intro qk))))) | ((with_reducible show wpAny _ _ _ _ _ _); dsimp only) | (leave1; walk_say "STEP leave1"; try dsimp only) | fail "no step"))
  rename Fr g' _ _ _ => lF; rename News g' _ _ _ => lN
  k_dflt (refine' allow_list (fun y => wS (frontS y) nm) rfl hll lF (newsPick lN ?hsub) R rfl rfl ?turn ?done)
  case hsub => exact fun q hq => .tail _ (.tail _ hq)
  case turn =>
    intro u v node k sv b al bt av h tk I oI hR hS hA F' N' off
    obtain ⟨r, d9, es9, n9, f9, fd9, rfl, m1, m2, m3, g1, g2, hLam⟩ := hR
    replace N' := newsC (newsC (newsC N' (.tail _ m3)) (.tail _ (.tail _ m2))) (.tail _ (.tail _ (.tail _ m1)))
    have hsv : handedIn sv = true := by rcases hS with ⟨_, rfl⟩ | ⟨_, rfl⟩ | ⟨_, _, rfl⟩ | ⟨_, _, rfl⟩ <;> rfl
    have hA9 := hA
    rcases hA with ⟨rfl, rfl⟩ | ⟨rfl, rfl⟩ | ⟨rfl, ta, rfl⟩ | ⟨rfl, ta, rfl⟩
    all_goals (
      (repeat' (first | (k_unfold; (try dsimp only)) | (k_end; wrow_close) | ((first | ((fail_if_success (goal_lacks exec)); (with_reducible show wpAny _ _ (exec _ _) _ _ _); ((with_reducible show wpAny _ _ (exec (Stmt.For (Expr.Name ..) (Expr.Attribute ..) (_ :: _) [] _) _) _ _ _); (first | (with_reducible (first | (k_here; (rename Fr _ _ _ _ => lFpq); (with_unfolding_all refine' For_turns lFpq ?_; k_whole)))) | (k_here; (rename Fr _ _ _ _ => lFpq); (with_unfolding_all refine' For_turns lFpq ?_; k_whole))); (try walk_say "OWN exec For Name Attribute cons nil"))) | ((fail_if_success (goal_lacks binaryOp)); (with_reducible show wpAny _ _ (binaryOp _ _ _) _ _ _); ((with_reducible show wpAny _ _ (binaryOp Operator.Mult (Value.int _ _) (Value.int _ _)) _ _ _); (first | (with_reducible (first | (k_here; with_reducible refine mul_int ?_ (IntMulOk.of_left (by decide))))) | (k_here; with_reducible refine mul_int ?_ (IntMulOk.of_left (by decide)))); (try walk_say "OWN binaryOp Mult int int"))) | ((fail_if_success (goal_lacks eval)); (with_reducible show wpAny _ _ (eval _ _) _ _ _); (first | ((with_reducible show wpAny _ _ (eval (Expr.ListComp ..) _) _ _ _); (first | (with_reducible (first | ((with_reducible show wpAny _ _ (eval _ _) _ _ _); k_here; lcg_look; lcg_calm; k_dflt (refine LCg.ListComp_U (F₀ := by k_asm) (by rfl) (by decide) (by rfl) (by decide) (by rfl) ?_); k_dflt lcg_toSrc))) | ((with_reducible show wpAny _ _ (eval _ _) _ _ _); k_here; lcg_look; lcg_calm; k_dflt (refine LCg.ListComp_U (F₀ := by k_asm) (by rfl) (by decide) (by rfl) (by decide) (by rfl) ?_); k_dflt lcg_toSrc)); (try walk_say "OWN eval ListComp")) | ((with_reducible show wpAny _ _ (eval (Expr.Name ..) _) _ _ _); (first | (with_reducible (first | (k_here; (with_reducible show wpAny _ _ (eval (Expr.Name _ _) (compEnvC _ _ _ _)) _ _ _); k_dflt (refine' lcf_cell ?N ?c ?m ?d ?_ ?a ?b; (case a => rfl); (case b => rfl); (case N => k_asm); (case c => rfl); (case m => k_mem); (case d => with_reducible assumption); k_whole)) | (k_here; (with_reducible show wpAny _ _ (eval (Expr.Name _ _) (compEnvC _ _ _ _)) _ _ _); k_dflt (refine' LCgL.ld_own ?N ?m ?d ?x ?_ ?a ?b; (case a => rfl); (case b => rfl); (case N => k_asm); (case m => k_mem); (case d => with_reducible assumption); (case x => with_reducible assumption); k_whole)))) | (k_here; (with_reducible show wpAny _ _ (eval (Expr.Name _ _) (compEnvC _ _ _ _)) _ _ _); k_dflt (refine' lcf_cell ?N ?c ?m ?d ?_ ?a ?b; (case a => rfl); (case b => rfl); (case N => k_asm); (case c => rfl); (case m => k_mem); (case d => with_reducible assumption); k_whole)) | (k_here; (with_reducible show wpAny _ _ (eval (Expr.Name _ _) (compEnvC _ _ _ _)) _ _ _); k_dflt (refine' LCgL.ld_own ?N ?m ?d ?x ?_ ?a ?b; (case a => rfl); (case b => rfl); (case N => k_asm); (case m => k_mem); (case d => with_reducible assumption); (case x => with_reducible assumption); k_whole))); (try walk_say "OWN eval Name")))) | ((fail_if_success (goal_lacks getAttr)); (with_reducible show wpAny _ _ (getAttr _ _ _) _ _ _); ((first | (with_reducible (first | (k_here; (with_reducible show wpAny _ _ (getAttr (Value.ref _) (PySem.Str.ofString "allowance") _) _ _ _); k_dflt (refine' get_shadow ?k1 ?k2 ?k3 ?k4 ?k5 ?k6 ?k7 ?k8 ?k9 ?k10 ?_; (case k1 => k_asm); (case k2 => k_asm); (case k3 => k_inst); (case k4 => k_is); (case k5 => k_is); (case k6 => k_is); (case k7 => k_is); (case k8 => k_is); (case k9 => with_reducible assumption); (case k10 => first | with_reducible assumption | k_handed); k_whole)) | (k_here; (with_reducible show wpAny _ _ (getAttr (Value.ref _) (PySem.Str.ofString "rulelines") _) _ _ _); k_dflt (refine' get_own ?k1 ?k2 ?k3 ?k4 ?k5 ?k6 ?k7 ?k8 ?k9 ?_; (case k1 => k_asm); (case k2 => k_asm); (case k3 => k_inst); (case k4 => k_is); (case k5 => k_is); (case k6 => k_is); (case k7 => k_is); (case k8 => with_reducible assumption); (case k9 => k_handed); k_whole)))) | (k_here; (with_reducible show wpAny _ _ (getAttr (Value.ref _) (PySem.Str.ofString "allowance") _) _ _ _); k_dflt (refine' get_shadow ?k1 ?k2 ?k3 ?k4 ?k5 ?k6 ?k7 ?k8 ?k9 ?k10 ?_; (case k1 => k_asm); (case k2 => k_asm); (case k3 => k_inst); (case k4 => k_is); (case k5 => k_is); (case k6 => k_is); (case k7 => k_is); (case k8 => k_is); (case k9 => with_reducible assumption); (case k10 => first | with_reducible assumption | k_handed); k_whole)) | (k_here; (with_reducible show wpAny _ _ (getAttr (Value.ref _) (PySem.Str.ofString "rulelines") _) _ _ _); k_dflt (refine' get_own ?k1 ?k2 ?k3 ?k4 ?k5 ?k6 ?k7 ?k8 ?k9 ?_; (case k1 => k_asm); (case k2 => k_asm); (case k3 => k_inst); (case k4 => k_is); (case k5 => k_is); (case k6 => k_is); (case k7 => k_is); (case k8 => with_reducible assumption); (case k9 => k_handed); k_whole))); (try walk_say "OWN getAttr ref"))) | ((fail_if_success (goal_lacks getMethod)); (with_reducible show wpAny _ _ (getMethod _ _ _) _ _ _); ((first | (with_reducible (first | (k_here; (with_reducible show wpAny _ _ (getMethod (Value.ref _) (PySem.Str.ofString "applies_to") _) _ _ _); k_dflt (refine' method_shadow ?k1 ?k2 ?k3 ?k4 ?k5 ?k6 ?k7 ?k8 ?k9 ?k10 ?k11 ?k12 ?_; (case k1 => k_asm); (case k2 => k_asm); (case k3 => k_inst); (case k4 => k_is); (case k5 => k_is); (case k6 => k_is); (case k7 => k_is); (case k8 => k_is); (case k9 => k_is); (case k10 => with_reducible assumption); (case k11 => rfl); (case k12 => exact fun e => nomatch e); k_whole); (try dsimp only)))) | (k_here; (with_reducible show wpAny _ _ (getMethod (Value.ref _) (PySem.Str.ofString "applies_to") _) _ _ _); k_dflt (refine' method_shadow ?k1 ?k2 ?k3 ?k4 ?k5 ?k6 ?k7 ?k8 ?k9 ?k10 ?k11 ?k12 ?_; (case k1 => k_asm); (case k2 => k_asm); (case k3 => k_inst); (case k4 => k_is); (case k5 => k_is); (case k6 => k_is); (case k7 => k_is); (case k8 => k_is); (case k9 => k_is); (case k10 => with_reducible assumption); (case k11 => rfl); (case k12 => exact fun e => nomatch e); k_whole); (try dsimp only))); (try walk_say "OWN getMethod ref"))) | ((fail_if_success (goal_lacks call)); (with_reducible show wpAny _ _ (call _ _) _ _ _); ((first | (with_reducible (first | k_extra "call ref")) | k_extra "call ref"); (try walk_say "OWN call ref"))) | ((fail_if_success (goal_lacks callWith)); (with_reducible show wpAny _ _ (callWith ..) _ _ _); ((first | (with_reducible (first | (k_here; k_dflt (first | (refine' callWith_F ?k1 ?_; (case k1 => exact FnAt.of (by k_asm) (by k_mem)); k_whole) | (refine' callWith_F0 ?k1 ?_; (case k1 => exact FnAt.of (by k_asm) (by k_mem)); k_whole; try dsimp only [List.nil_append, List.cons_append]))))) | (k_here; k_dflt (first | (refine' callWith_F ?k1 ?_; (case k1 => exact FnAt.of (by k_asm) (by k_mem)); k_whole) | (refine' callWith_F0 ?k1 ?_; (case k1 => exact FnAt.of (by k_asm) (by k_mem)); k_whole; try dsimp only [List.nil_append, List.cons_append])))); (try walk_say "OWN callWith ref"))) | ((fail_if_success (goal_lacks InvEndN)); (with_reducible show InvEndN ..); (repeat clear qk); (repeat clear ek); ((first | (with_reducible (first | k_dflt kst_close)) | k_dflt kst_close); (try walk_say "OWN InvEndN"))) | ((fail_if_success (goal_lacks LCg.CompEnd)); (with_reducible show LCg.CompEnd ..); ((first | (with_reducible (first | first | (k_dflt (refine' ce_int ?a1 ?a2 ?a3 ?a4 ?_; (case a1 => k_asm); (case a2 => k_asm); (case a3 => with_reducible assumption); (case a4 => first | exact True.intro | lcg_src)); intro z9q hz9q) | (k_dflt (refine' ce_same ?a1 ?a2 ?a3 ?a4 ?_; (case a1 => k_asm); (case a2 => k_asm); (case a3 => with_reducible assumption); (case a4 => first | exact True.intro | lcg_src))) | (k_dflt (refine' ce_one ?a1 ?a2 ?a3 ?a5 ?a4 ?_; (case a1 => k_asm); (case a2 => k_asm); (case a3 => with_reducible assumption); (case a5 => with_reducible assumption); (case a4 => first | exact True.intro | lcg_src))) | k_dflt lcg_end)) | first | (k_dflt (refine' ce_int ?a1 ?a2 ?a3 ?a4 ?_; (case a1 => k_asm); (case a2 => k_asm); (case a3 => with_reducible assumption); (case a4 => first | exact True.intro | lcg_src)); intro z9q hz9q) | (k_dflt (refine' ce_same ?a1 ?a2 ?a3 ?a4 ?_; (case a1 => k_asm); (case a2 => k_asm); (case a3 => with_reducible assumption); (case a4 => first | exact True.intro | lcg_src))) | (k_dflt (refine' ce_one ?a1 ?a2 ?a3 ?a5 ?a4 ?_; (case a1 => k_asm); (case a2 => k_asm); (case a3 => with_reducible assumption); (case a5 => with_reducible assumption); (case a4 => first | exact True.intro | lcg_src))) | k_dflt lcg_end); (try walk_say "OWN CompEnd"))) | ((fail_if_success (goal_lacks LCg.CompRest)); (with_reducible show LCg.CompRest ..); ((first | (with_reducible (first | (with_unfolding_all first | (refine LCg.CompRest.succ ?_; intro vpq Ipq oIpq Cpq oCpq Dpq mpq hpq tkpq Epq hvpq hCpq hxpq Fpq Npq offpq nepq; clear nepq; (first | lcg_open hvpq | (obtain ⟨t9pq, hv9pq⟩ := hvpq; subst hv9pq))) | refine LCg.CompRest.zero ?_))) | (with_unfolding_all first | (refine LCg.CompRest.succ ?_; intro vpq Ipq oIpq Cpq oCpq Dpq mpq hpq tkpq Epq hvpq hCpq hxpq Fpq Npq offpq nepq; clear nepq; (first | lcg_open hvpq | (obtain ⟨t9pq, hv9pq⟩ := hvpq; subst hv9pq))) | refine LCg.CompRest.zero ?_)); (try walk_say "OWN CompRest"))) | ((fail_if_success (goal_lacks LCg.FinE)); (with_reducible show LCg.FinE ..); ((first | (with_reducible (first | ((unfold LCg.FinE); intro Dpq hpq tkpq Fpq Npq o1pq; (try simp only [List.nil_append, List.cons_append] at Npq); (try dsimp only)))) | ((unfold LCg.FinE); intro Dpq hpq tkpq Fpq Npq o1pq; (try simp only [List.nil_append, List.cons_append] at Npq); (try dsimp only))); (try walk_say "OWN FinE"))) | ((fail_if_success (goal_lacks CRestC)); (with_reducible show CRestC ..); ((first | (with_reducible (first | (with_unfolding_all first | (refine CRestC.succ ?_; intro vpq Ipq oIpq Cpq oCpq cpq ocpq Dpq hpq tkpq Epq hvpq hdpq Fpq Npq offpq nepq offcpq; clear nepq; lcg_open hvpq) | refine CRestC.zero ?_))) | (with_unfolding_all first | (refine CRestC.succ ?_; intro vpq Ipq oIpq Cpq oCpq cpq ocpq Dpq hpq tkpq Epq hvpq hdpq Fpq Npq offpq nepq offcpq; clear nepq; lcg_open hvpq) | refine CRestC.zero ?_)); (try walk_say "OWN CRestC"))) | ((fail_if_success (goal_lacks RestC)); (with_reducible show RestC ..); ((first | (with_reducible (first | (k_dflt (refine restC_one (by with_reducible assumption) (by with_reducible assumption) ?_)))) | (k_dflt (refine restC_one (by with_reducible assumption) (by with_reducible assumption) ?_))); (try walk_say "OWN RestC"))) | walk1 | (dsimp only; walk1) | (dsimp only [List.cons_append, List.nil_append]; walk1)); (try (goal_lacks LoopAtV TurnsAt; (first | (fail_if_success k_fold; skip) | (refine foldQ ?_; intro qk))))) | ((with_reducible show wpAny _ _ _ _ _ _); dsimp only) | (leave1; walk_say "STEP leave1"; try dsimp only) | fail "no step"))
      all_goals (
        rename Fr g' _ _ _ => eF; rename News g' _ _ ((_, instObj 52 _) :: _) => eN
        k_dflt (refine' allow_end eF eN ?hI ?hn off ?hst ?e1 ?e2 ?hs ?hz)
        case hI => exact .tail _ (.tail _ (.tail _ (.head _)))
        case hn => exact fun q hq => .tail _ (.tail _ (.tail _ (.tail _ hq)))
        case e1 => k_dflt rfl
        case e2 => k_dflt rfl
        case hs => first | with_reducible exact hS | with_reducible exact hA9
        case hst => (clear hLam R ret eF eN; simp only [stepA, and_true, and_false]; (repeat' split) <;> first | rfl | (exfalso; omega))
        case hz => (intro z h1 h2 h3 h4; k_dflt (simp only [aFr, if_neg h1, if_neg h2, if_neg h3, if_neg h4]))))
  case done =>
    intro u b bt av h tk hS F' N'
    (repeat' (first | (k_unfold; (try dsimp only)) | (k_end; wrow_close) | ((first | ((fail_if_success (goal_lacks exec)); (with_reducible show wpAny _ _ (exec _ _) _ _ _); ((with_reducible show wpAny _ _ (exec (Stmt.For (Expr.Name ..) (Expr.Attribute ..) (_ :: _) [] _) _) _ _ _); (first | (with_reducible (first | (k_here; (rename Fr _ _ _ _ => lFpq); (with_unfolding_all refine' For_turns lFpq ?_; k_whole)))) | (k_here; (rename Fr _ _ _ _ => lFpq); (with_unfolding_all refine' For_turns lFpq ?_; k_whole))); (try walk_say "OWN exec For Name Attribute cons nil"))) | ((fail_if_success (goal_lacks binaryOp)); (with_reducible show wpAny _ _ (binaryOp _ _ _) _ _ _); ((with_reducible show wpAny _ _ (binaryOp Operator.Mult (Value.int _ _) (Value.int _ _)) _ _ _); (first | (with_reducible (first | (k_here; with_reducible refine mul_int ?_ (IntMulOk.of_left (by decide))))) | (k_here; with_reducible refine mul_int ?_ (IntMulOk.of_left (by decide)))); (try walk_say "OWN binaryOp Mult int int"))) | ((fail_if_success (goal_lacks eval)); (with_reducible show wpAny _ _ (eval _ _) _ _ _); (first | ((with_reducible show wpAny _ _ (eval (Expr.ListComp ..) _) _ _ _); (first | (with_reducible (first | ((with_reducible show wpAny _ _ (eval _ _) _ _ _); k_here; lcg_look; lcg_calm; k_dflt (refine LCg.ListComp_U (F₀ := by k_asm) (by rfl) (by decide) (by rfl) (by decide) (by rfl) ?_); k_dflt lcg_toSrc))) | ((with_reducible show wpAny _ _ (eval _ _) _ _ _); k_here; lcg_look; lcg_calm; k_dflt (refine LCg.ListComp_U (F₀ := by k_asm) (by rfl) (by decide) (by rfl) (by decide) (by rfl) ?_); k_dflt lcg_toSrc)); (try walk_say "OWN eval ListComp")) | ((with_reducible show wpAny _ _ (eval (Expr.Name ..) _) _ _ _); (first | (with_reducible (first | (k_here; (with_reducible show wpAny _ _ (eval (Expr.Name _ _) (compEnvC _ _ _ _)) _ _ _); k_dflt (refine' lcf_cell ?N ?c ?m ?d ?_ ?a ?b; (case a => rfl); (case b => rfl); (case N => k_asm); (case c => rfl); (case m => k_mem); (case d => with_reducible assumption); k_whole)) | (k_here; (with_reducible show wpAny _ _ (eval (Expr.Name _ _) (compEnvC _ _ _ _)) _ _ _); k_dflt (refine' LCgL.ld_own ?N ?m ?d ?x ?_ ?a ?b; (case a => rfl); (case b => rfl); (case N => k_asm); (case m => k_mem); (case d => with_reducible assumption); (case x => with_reducible assumption); k_whole)))) | (k_here; (with_reducible show wpAny _ _ (eval (Expr.Name _ _) (compEnvC _ _ _ _)) _ _ _); k_dflt (refine' lcf_cell ?N ?c ?m ?d ?_ ?a ?b; (case a => rfl); (case b => rfl); (case N => k_asm); (case c => rfl); (case m => k_mem); (case d => with_reducible assumption); k_whole)) | (k_here; (with_reducible show wpAny _ _ (eval (Expr.Name _ _) (compEnvC _ _ _ _)) _ _ _); k_dflt (refine' LCgL.ld_own ?N ?m ?d ?x ?_ ?a ?b; (case a => rfl); (case b => rfl); (case N => k_asm); (case m => k_mem); (case d => with_reducible assumption); (case x => with_reducible assumption); k_whole))); (try walk_say "OWN eval Name")))) | ((fail_if_success (goal_lacks getAttr)); (with_reducible show wpAny _ _ (getAttr _ _ _) _ _ _); ((first | (with_reducible (first | (k_here; (with_reducible show wpAny _ _ (getAttr (Value.ref _) (PySem.Str.ofString "allowance") _) _ _ _); k_dflt (refine' get_shadow ?k1 ?k2 ?k3 ?k4 ?k5 ?k6 ?k7 ?k8 ?k9 ?k10 ?_; (case k1 => k_asm); (case k2 => k_asm); (case k3 => k_inst); (case k4 => k_is); (case k5 => k_is); (case k6 => k_is); (case k7 => k_is); (case k8 => k_is); (case k9 => with_reducible assumption); (case k10 => first | with_reducible assumption | k_handed); k_whole)) | (k_here; (with_reducible show wpAny _ _ (getAttr (Value.ref _) (PySem.Str.ofString "rulelines") _) _ _ _); k_dflt (refine' get_own ?k1 ?k2 ?k3 ?k4 ?k5 ?k6 ?k7 ?k8 ?k9 ?_; (case k1 => k_asm); (case k2 => k_asm); (case k3 => k_inst); (case k4 => k_is); (case k5 => k_is); (case k6 => k_is); (case k7 => k_is); (case k8 => with_reducible assumption); (case k9 => k_handed); k_whole)))) | (k_here; (with_reducible show wpAny _ _ (getAttr (Value.ref _) (PySem.Str.ofString "allowance") _) _ _ _); k_dflt (refine' get_shadow ?k1 ?k2 ?k3 ?k4 ?k5 ?k6 ?k7 ?k8 ?k9 ?k10 ?_; (case k1 => k_asm); (case k2 => k_asm); (case k3 => k_inst); (case k4 => k_is); (case k5 => k_is); (case k6 => k_is); (case k7 => k_is); (case k8 => k_is); (case k9 => with_reducible assumption); (case k10 => first | with_reducible assumption | k_handed); k_whole)) | (k_here; (with_reducible show wpAny _ _ (getAttr (Value.ref _) (PySem.Str.ofString "rulelines") _) _ _ _); k_dflt (refine' get_own ?k1 ?k2 ?k3 ?k4 ?k5 ?k6 ?k7 ?k8 ?k9 ?_; (case k1 => k_asm); (case k2 => k_asm); (case k3 => k_inst); (case k4 => k_is); (case k5 => k_is); (case k6 => k_is); (case k7 => k_is); (case k8 => with_reducible assumption); (case k9 => k_handed); k_whole))); (try walk_say "OWN getAttr ref"))) | ((fail_if_success (goal_lacks getMethod)); (with_reducible show wpAny _ _ (getMethod _ _ _) _ _ _); ((first | (with_reducible (first | (k_here; (with_reducible show wpAny _ _ (getMethod (Value.ref _) (PySem.Str.ofString "applies_to") _) _ _ _); k_dflt (refine' method_shadow ?k1 ?k2 ?k3 ?k4 ?k5 ?k6 ?k7 ?k8 ?k9 ?k10 ?k11 ?k12 ?_; (case k1 => k_asm); (case k2 => k_asm); (case k3 => k_inst); (case k4 => k_is); (case k5 => k_is); (case k6 => k_is); (case k7 => k_is); (case k8 => k_is); (case k9 => k_is); (case k10 => with_reducible assumption); (case k11 => rfl); (case k12 => exact fun e => nomatch e); k_whole); (try dsimp only)))) | (k_here; (with_reducible show wpAny _ _ (getMethod (Value.ref _) (PySem.Str.ofString "applies_to") _) _ _ _); k_dflt (refine' method_shadow ?k1 ?k2 ?k3 ?k4 ?k5 ?k6 ?k7 ?k8 ?k9 ?k10 ?k11 ?k12 ?_; (case k1 => k_asm); (case k2 => k_asm); (case k3 => k_inst); (case k4 => k_is); (case k5 => k_is); (case k6 => k_is); (case k7 => k_is); (case k8 => k_is); (case k9 => k_is); (case k10 => with_reducible assumption); (case k11 => rfl); (case k12 => exact fun e => nomatch e); k_whole); (try dsimp only))); (try walk_say "OWN getMethod ref"))) | ((fail_if_success (goal_lacks call)); (with_reducible show wpAny _ _ (call _ _) _ _ _); ((first | (with_reducible (first | k_extra "call ref")) | k_extra "call ref"); (try walk_say "OWN call ref"))) | ((fail_if_success (goal_lacks callWith)); (with_reducible show wpAny _ _ (callWith ..) _ _ _); ((first | (with_reducible (first | (k_here; k_dflt (first | (refine' callWith_F ?k1 ?_; (case k1 => exact FnAt.of (by k_asm) (by k_mem)); k_whole) | (refine' callWith_F0 ?k1 ?_; (case k1 => exact FnAt.of (by k_asm) (by k_mem)); k_whole; try dsimp only [List.nil_append, List.cons_append]))))) | (k_here; k_dflt (first | (refine' callWith_F ?k1 ?_; (case k1 => exact FnAt.of (by k_asm) (by k_mem)); k_whole) | (refine' callWith_F0 ?k1 ?_; (case k1 => exact FnAt.of (by k_asm) (by k_mem)); k_whole; try dsimp only [List.nil_append, List.cons_append])))); (try walk_say "OWN callWith ref"))) | ((fail_if_success (goal_lacks InvEndN)); (with_reducible show InvEndN ..); (repeat clear qk); (repeat clear ek); ((first | (with_reducible (first | k_dflt kst_close)) | k_dflt kst_close); (try walk_say "OWN InvEndN"))) | ((fail_if_success (goal_lacks LCg.CompEnd)); (with_reducible show LCg.CompEnd ..); ((first | (with_reducible (first | first | (k_dflt (refine' ce_int ?a1 ?a2 ?a3 ?a4 ?_; (case a1 => k_asm); (case a2 => k_asm); (case a3 => with_reducible assumption); (case a4 => first | exact True.intro | lcg_src)); intro z9q hz9q) | (k_dflt (refine' ce_same ?a1 ?a2 ?a3 ?a4 ?_; (case a1 => k_asm); (case a2 => k_asm); (case a3 => with_reducible assumption); (case a4 => first | exact True.intro | lcg_src))) | (k_dflt (refine' ce_one ?a1 ?a2 ?a3 ?a5 ?a4 ?_; (case a1 => k_asm); (case a2 => k_asm); (case a3 => with_reducible assumption); (case a5 => with_reducible assumption); (case a4 => first | exact True.intro | lcg_src))) | k_dflt lcg_end)) | first | (k_dflt (refine' ce_int ?a1 ?a2 ?a3 ?a4 ?_; (case a1 => k_asm); (case a2 => k_asm); (case a3 => with_reducible assumption); (case a4 => first | exact True.intro | lcg_src)); intro z9q hz9q) | (k_dflt (refine' ce_same ?a1 ?a2 ?a3 ?a4 ?_; (case a1 => k_asm); (case a2 => k_asm); (case a3 => with_reducible assumption); (case a4 => first | exact True.intro | lcg_src))) | (k_dflt (refine' ce_one ?a1 ?a2 ?a3 ?a5 ?a4 ?_; (case a1 => k_asm); (case a2 => k_asm); (case a3 => with_reducible assumption); (case a5 => with_reducible assumption); (case a4 => first | exact True.intro | lcg_src))) | k_dflt lcg_end); (try walk_say "OWN CompEnd"))) | ((fail_if_success (goal_lacks LCg.CompRest)); (with_reducible show LCg.CompRest ..); ((first | (with_reducible (first | (with_unfolding_all first | (refine LCg.CompRest.succ ?_; intro vpq Ipq oIpq Cpq oCpq Dpq mpq hpq tkpq Epq hvpq hCpq hxpq Fpq Npq offpq nepq; clear nepq; (first | lcg_open hvpq | (obtain ⟨t9pq, hv9pq⟩ := hvpq; subst hv9pq))) | refine LCg.CompRest.zero ?_))) | (with_unfolding_all first | (refine LCg.CompRest.succ ?_; intro vpq Ipq oIpq Cpq oCpq Dpq mpq hpq tkpq Epq hvpq hCpq hxpq Fpq Npq offpq nepq; clear nepq; (first | lcg_open hvpq | (obtain ⟨t9pq, hv9pq⟩ := hvpq; subst hv9pq))) | refine LCg.CompRest.zero ?_)); (try walk_say "OWN CompRest"))) | ((fail_if_success (goal_lacks LCg.FinE)); (with_reducible show LCg.FinE ..); ((first | (with_reducible (first | ((unfold LCg.FinE); intro Dpq hpq tkpq Fpq Npq o1pq; (try simp only [List.nil_append, List.cons_append] at Npq); (try dsimp only)))) | ((unfold LCg.FinE); intro Dpq hpq tkpq Fpq Npq o1pq; (try simp only [List.nil_append, List.cons_append] at Npq); (try dsimp only))); (try walk_say "OWN FinE"))) | ((fail_if_success (goal_lacks CRestC)); (with_reducible show CRestC ..); ((first | (with_reducible (first | (with_unfolding_all first | (refine CRestC.succ ?_; intro vpq Ipq oIpq Cpq oCpq cpq ocpq Dpq hpq tkpq Epq hvpq hdpq Fpq Npq offpq nepq offcpq; clear nepq; lcg_open hvpq) | refine CRestC.zero ?_))) | (with_unfolding_all first | (refine CRestC.succ ?_; intro vpq Ipq oIpq Cpq oCpq cpq ocpq Dpq hpq tkpq Epq hvpq hdpq Fpq Npq offpq nepq offcpq; clear nepq; lcg_open hvpq) | refine CRestC.zero ?_)); (try walk_say "OWN CRestC"))) | ((fail_if_success (goal_lacks RestC)); (with_reducible show RestC ..); ((first | (with_reducible (first | (k_dflt (refine restC_one (by with_reducible assumption) (by with_reducible assumption) ?_)))) | (k_dflt (refine restC_one (by with_reducible assumption) (by with_reducible assumption) ?_))); (try walk_say "OWN RestC"))) | walk1 | (dsimp only; walk1) | (dsimp only [List.cons_append, List.nil_append]; walk1)); (try (goal_lacks LoopAtV TurnsAt; (first | (fail_if_success k_fold; skip) | (refine foldQ ?_; intro qk))))) | ((with_reducible show wpAny _ _ _ _ _ _); dsimp only) | (leave1; walk_say "STEP leave1"; try dsimp only) | fail "no step"))
    rename Fr h₀ L _ m => kF; rename News h₀ L _ _ => kN
    exact ret _ _ _ hS kF kN
end Mine
end -- part Allow
section -- part MergesL
open PySem PySem.W PyProof.Rows PySem.Calls PySem.Spec PyProof.V
set_option maxRecDepth 100000
set_option maxHeartbeats 2000000
namespace Mine
theorem tab_ne_seq {h₀ h : Heap} {L : Addr} {l : List (Addr × Obj)} {q : Addr × Obj} {pt : Array Value} (N : News h₀ L h l) (h1 : (180, tabObj pt) ∈ l) (hq : q ∈ l) (hs : isSeqO q = true) : q.1 ≠ 180 := by
  intro e
  have a := (N q hq).1
  rw [e, (N _ h1).1] at a
  have b := Option.some.inj a
  unfold isSeqO at hs
  rw [← b] at hs
  cases hs
def LaidAt (g : Heap) (b : Addr) (vs : List Value) (ps : List (Int × Int)) : Prop :=
  g.IsList b vs.toArray ∧ vs.length = ps.length ∧ ∀ (i : Nat) (x y : Int), ps[i]? = some (x, y) → ∃ pb t u n, vs[i]? = some (Value.ref pb) ∧ g.get? pb = some (tup2 x y t u n)
theorem PairsAre.get {news : List (Addr × Obj)} {vs : List Value} {ps : List (Int × Int)} (h : PairsAre news vs ps) : ∀ {i : Nat} {x y : Int}, ps[i]? = some (x, y) → ∃ pb t u n, vs[i]? = some (Value.ref pb) ∧ (pb, tup2 x y t u n) ∈ news := by
  induction h with
  | nil => intro i x y e; simp at e
  | cons hm _ ih =>
    intro i x y e
    cases i with
    | zero => simp at e; obtain ⟨rfl, rfl⟩ := e; exact ⟨_, _, _, _, by simp, hm⟩
    | succ i => simp at e; obtain ⟨pb, t, u, n, h1, h2⟩ := ih e; exact ⟨pb, t, u, n, by simpa using h1, h2⟩
theorem laid_base {h₀ hh g : Heap} {L b : Addr} {news : List (Addr × Obj)} {vs : List Value} {ps : List (Int × Int)} {n : Nat} (Z : Frz hh g [(180, tabObj #[])]) (N : News h₀ L hh news) (h1 : (180, tabObj #[]) ∈ news) (hb : (b, W.listOf vs.toArray n) ∈ news) (hp : PairsAre news vs ps) : LaidAt g b vs ps := by
  have K : ∀ q ∈ news, isSeqO q = true → g.get? q.1 = some q.2 := fun q hq hs => Z _ _ (N q hq).1 fun h => tab_ne_seq N h1 hq hs (List.mem_singleton.mp h)
  refine ⟨⟨_, K _ hb rfl, rfl, n, rfl⟩, hp.length, fun i x y e => ?_⟩
  obtain ⟨pb, t, u, n, h1, h2⟩ := hp.get e
  exact ⟨pb, t, u, n, h1, K _ h2 rfl⟩
section
variable {prog : Program} {w : World} {A : Around} {E : Value → Shared → Prop} {s : Shared} {g : Heap} {L b B x1 x2 : Addr} {m : Str → Option Value} {news : List (Addr × Obj)} {vs : List Value} {ps : List (Int × Int)} {k : Int} {u : Tok} {Q : Value → Shared → Prop} {value slice : PySem.Expr} {n : Nat}
theorem len_base (F : Fr g L s.heap m) (N : News g L s.heap news) (hl : LaidAt g b vs ps) (hv : vs.length ≤ 15) (h : ∀ t tk, Q (.int (vs.length : Int) t) { s with toks := tk }) : wpAny (model prog w) A (call (.builtin "len") [.ref b]) Q E s := by
  have e : vs.toArray.size = vs.length := by simp
  refine len_list (hl.1.at fun o e => F.keep _ o e) (by rw [e]; omega) ?_
  rw [e]
  exact h _ _
theorem sub_laid {i : Nat} {x y : Int} (F : Fr g L s.heap m) (hl : LaidAt g b vs ps) (hi : i < 100) (hp : ps[i]? = some (x, y)) (h : ∀ pb t u, IsTup s.heap pb #[.int x t, .int y u] → Q (.ref pb) s)
    (hs : subscripted slice false (.ref b) (.int (i : Int) u) = operate [.ref b, .int (i : Int) u] (getItem (.ref b) (.int (i : Int) u)) := by with_unfolding_all rfl) :
    wpAny (model prog w) A (subscriptTail value slice (.ref b) (.int (i : Int) u)) Q E s := by
  obtain ⟨pb, t, u, n, h1, h2⟩ := hl.2.2 i x y hp
  have hL : s.heap.IsList b vs.toArray := hl.1.at fun o e => F.keep _ o e
  exact tail_any hL.typeIs slot_list_getitem.lookup (wpAny_getItem_list hL (by omega) (by omega) (by simpa using h1) (h pb t u ⟨_, F.keep _ _ h2, rfl, n, rfl⟩)) hs
theorem sub_book (N : News g L s.heap news) (hm : (B, W.listOf #[.ref x1, .ref x2] n) ∈ news) (hk : k = 0 ∨ k = 1) (h0 : k = 0 → Q (.ref x1) s) (h1 : k = 1 → Q (.ref x2) s)
    (hs : subscripted slice false (.ref B) (.int k u) = operate [.ref B, .int k u] (getItem (.ref B) (.int k u)) := by with_unfolding_all rfl) :
    wpAny (model prog w) A (subscriptTail value slice (.ref B) (.int k u)) Q E s := by
  have hL : s.heap.IsList B #[.ref x1, .ref x2] := ⟨_, (N _ hm).1, rfl, n, rfl⟩
  rcases hk with rfl | rfl
  · exact tail_any hL.typeIs slot_list_getitem.lookup (wpAny_getItem_list hL (by omega) (by omega) rfl (h0 rfl)) hs
  · exact tail_any hL.typeIs slot_list_getitem.lookup (wpAny_getItem_list hL (by omega) (by omega) rfl (h1 rfl)) hs
end
theorem par2 (i : Nat) : ((i : Int).fmod 2 = 0 ∨ (i : Int).fmod 2 = 1) := by
  rw [Int.fmod_eq_emod_of_nonneg _ (by decide)]; omega
/-- what a rule's making does to the ledger -/
structure MgNew (w : World) (p : Program) (loose : List Str) (mean : ExcName → Option Value) (mg mb : Str → Option Value) (pt pt' : Array Value) (tl tl' : List (Addr × Obj)) (r : Value) (fr : Str) (v : Value) : Prop where
  sub : ∀ q ∈ tl, q ∈ tl'
  tab : ∃ c', pt' = #[rawInt 134, rawInt 22, .ref c'] ∧ CodeTab c' ((180, tabObj pt') :: tl')
  same : pt = #[] ∨ pt = pt'
  rule : RuleIs w p loose mean mg mb ((180, tabObj pt') :: tl') r fr v
  off : (∀ q ∈ tl, q.1 ≠ 180) → ∀ q ∈ tl', q.1 ≠ 180
theorem CodeTab.mono {c : Addr} {l l' : List (Addr × Obj)} (h : CodeTab c l) (hs : ∀ q ∈ l, q ∈ l') : CodeTab c l' :=
  let ⟨oc, vs, t, h1, h2, h3, h4, h5⟩ := h
  ⟨oc, vs, t, hs _ h1, hs _ h2, h3, h4, h5⟩
theorem mg_rule (w : World) (p : Program) (loose : List Str) (mean : ExcName → Option Value) (mg mb : Str → Option Value) {fr : Str} {tf : Tok} {v : Value} {pre tl : List (Addr × Obj)} {pt : Array Value} {l1 l2 I : Addr} {oI : Obj} {vs1 vs2 : Array Value} {n1 n2 : Nat} {dp un : Nat} {gd : Option (List Code)} {cn : Str} {cs : Scope} {a : Addr} {ccd : Value} {cl : List (Str × Addr)} {outer : List Env} {A₀ : Around} {base h₀ : Heap} {L : Addr} {m : Str → Option Value} {news : List (Addr × Obj)} {s : Shared} {Q E : Value → Shared → Prop}
    (B : Below A₀ base outer h₀) (F : Fr h₀ L s.heap m) (X : (hd.heap_1 w.params).In h₀) (N : News h₀ L s.heap news) (T : Top p loose mean mg mb h₀) (hk : cs.kind = .function)
    (hn : news = pre ++ (180, tabObj pt) :: tl) (hpre : ∀ q ∈ pre, q.1 ≠ 180) (htl : ∀ q ∈ tl, q.1 ≠ 180) (hT : pt = #[] ∨ ∃ c', pt = #[rawInt 134, rawInt 22, .ref c'] ∧ CodeTab c' ((180, tabObj pt) :: tl))
    (hl1 : (l1, W.listOf vs1 n1) ∈ pre) (hl2 : (l2, W.listOf vs2 n2) ∈ pre) (ho1 : ∀ q ∈ tl, q.1 ≠ l1) (ho2 : ∀ q ∈ tl, q.1 ≠ l2) (hI : (I, oI) ∈ pre) (hoI : ∀ q ∈ tl, q.1 ≠ I)
    (hd : dp + 20 < recursionLimit) (hu : un + 8 * 20 < cLine) (hfr : fr.length ≤ 100)
    (ret : ∀ r pt' tl' h' tk', Fr h₀ L h' m → News h₀ L h' (pre ++ (180, tabObj pt') :: tl') → MgNew w p loose mean mg mb pt pt' tl tl' r fr v → (∀ q ∈ tl', q.1 ≠ l1) → (∀ q ∈ tl', q.1 ≠ l2) → (∀ q ∈ tl', q.1 ≠ I) → Q r { s with heap := h', toks := tk' }) :
    wpAny (model Challenge.rw_rl0031_01.row.prog w) (ktrTop dp un gd cn cs L a ccd cl outer) (call (.ref 185) [.str fr tf, v]) Q E s := by
  subst hn
  have hmid : (180, tabObj pt) ∈ pre ++ (180, tabObj pt) :: tl := List.mem_append.mpr (.inr (.head _))
  refine rule_any w p loose mean mg mb (rest := pre ++ tl) B F X N T hk hmid (hT.imp id fun ⟨c', e, h⟩ => ⟨c', e, h.mono fun q hq => List.mem_append.mpr (.inr hq)⟩) (fun q hq => ?_) hd hu hfr ?_
  · rcases List.mem_append.mp hq with hq | hq
    · exact ⟨List.mem_append.mpr (.inl hq), hpre q hq⟩
    · exact ⟨List.mem_append.mpr (.inr (.tail _ hq)), htl q hq⟩
  · intro r nw c2 h' tk' F' N' hf hC hsame hR
    have hC' := hC
    obtain ⟨oc, vs, t, k1, k2, k3, k4, k5⟩ := hC
    have inn : ∀ q ∈ nw, q ∈ (180, tabObj #[rawInt 134, rawInt 22, .ref c2]) :: (nw.filter (fun q => decide (q.1 ≠ 180)) ++ tl) := by
      intro q hq
      by_cases e : q.1 = 180
      · have h1 := (N' q (List.mem_append.mpr (.inl hq))).1
        rw [e, (N' _ (List.mem_append.mpr (.inl k1))).1] at h1
        obtain ⟨qa, qo⟩ := q
        dsimp only at e h1
        rw [e, ← Option.some.inj h1]
        exact .head _
      · exact .tail _ (List.mem_append.mpr (.inl (List.mem_filter.mpr ⟨hq, by simpa using e⟩)))
    have offl : ∀ (la : Addr) (vsa : Array Value) (na : Nat), (la, W.listOf vsa na) ∈ pre → (∀ q ∈ tl, q.1 ≠ la) → ∀ q ∈ nw.filter (fun q => decide (q.1 ≠ 180)) ++ tl, q.1 ≠ la := by
      intro la vsa na hm ho q hq
      rcases List.mem_append.mp hq with hq | hq
      · exact hf q (List.mem_filter.mp hq).1 _ (List.mem_append.mpr (.inl hm)) (.inr (.inl rfl))
      · exact ho q hq
    refine ret r _ (nw.filter (fun q => decide (q.1 ≠ 180)) ++ tl) h' tk' F' (fun q hq => ?_) ⟨fun q hq => List.mem_append.mpr (.inr hq), ⟨c2, rfl, hC'.mono inn⟩, hsame, hR.mono inn, fun ht q hq => ?_⟩ (offl l1 vs1 n1 hl1 ho1) (offl l2 vs2 n2 hl2 ho2) (fun q hq => ?_)
    · rcases List.mem_append.mp hq with hq | hq
      · exact N' q (List.mem_append.mpr (.inr (List.mem_append.mpr (.inl hq))))
      · rcases List.mem_cons.mp hq with rfl | hq
        · exact N' _ (List.mem_append.mpr (.inl k1))
        · rcases List.mem_append.mp hq with hq | hq
          · exact N' q (List.mem_append.mpr (.inl (List.mem_filter.mp hq).1))
          · exact N' q (List.mem_append.mpr (.inr (List.mem_append.mpr (.inr hq))))
    · rcases List.mem_append.mp hq with hq | hq
      · simpa using (List.mem_filter.mp hq).2
      · exact ht q hq
    · rcases List.mem_append.mp hq with hq | hq
      · refine hf q (List.mem_filter.mp hq).1 _ (List.mem_append.mpr (.inl hI)) ?_
        rcases hsame with e | e
        · exact .inl e
        · refine .inr (.inr fun e3 => ?_)
          rcases hT with e4 | ⟨c', e4, oc', _, _, _, g2, g3, _⟩
          · rw [e4] at e; have e2 := congrArg Array.size e; simp at e2
          · rw [e] at e4
            have e5 : c2 = c' := by simpa using e4
            subst e5
            rcases List.mem_cons.mp g2 with g2 | g2
            · exact g3 (congrArg (·.1) g2)
            · exact hoI _ g2 e3.symm
      · exact hoI q hq
structure MgSt (w : World) (p : Program) (loose : List Str) (mean : ExcName → Option Value) (mg mb : Str → Option Value) (l1 l2 : Addr) (ps : List (Int × Int)) (i : Nat) (pt : Array Value) (rs1 rs2 : List Value) (tl : List (Addr × Obj)) : Prop where
  tab : pt = #[] ∨ ∃ c', pt = #[rawInt 134, rawInt 22, .ref c'] ∧ CodeTab c' ((180, tabObj pt) :: tl)
  nil : pt = #[] → rs1 = [] ∧ rs2 = []
  rules : ∃ e o, RulesAre w p loose mean mg mb ((180, tabObj pt) :: tl) rs1 e ∧ RulesAre w p loose mean mg mb ((180, tabObj pt) :: tl) rs2 o ∧ ∀ r, (r ∈ e ∨ r ∈ o) ↔ r ∈ ps.take i
  len : rs1.length ≤ i ∧ rs2.length ≤ i
  o180 : ∀ q ∈ tl, q.1 ≠ 180
  o1 : ∀ q ∈ tl, q.1 ≠ l1
  o2 : ∀ q ∈ tl, q.1 ≠ l2
section
variable {w : World} {p : Program} {loose : List Str} {mean : ExcName → Option Value} {mg mb : Str → Option Value} {l1 l2 : Addr} {ps : List (Int × Int)} {i : Nat} {pt pt' : Array Value} {rs1 rs2 : List Value} {tl tl' : List (Addr × Obj)} {x y : Int} {r v : Value}
theorem MgSt.start (l1 l2 : Addr) (ps : List (Int × Int)) : MgSt w p loose mean mg mb l1 l2 ps 0 #[] [] [] [] :=
  ⟨.inl rfl, fun _ => ⟨rfl, rfl⟩, ⟨[], [], .nil, .nil, fun r => by simp⟩, ⟨Nat.le_refl _, Nat.le_refl _⟩, fun _ h => (nomatch h), fun _ h => (nomatch h), fun _ h => (nomatch h)⟩
theorem MgSt.old (S : MgSt w p loose mean mg mb l1 l2 ps i pt rs1 rs2 tl) (M : MgNew w p loose mean mg mb pt pt' tl tl' r (frontS x) v) : ∃ e o, RulesAre w p loose mean mg mb ((180, tabObj pt') :: tl') rs1 e ∧ RulesAre w p loose mean mg mb ((180, tabObj pt') :: tl') rs2 o ∧ ∀ r, (r ∈ e ∨ r ∈ o) ↔ r ∈ ps.take i := by
  obtain ⟨e, o, h1, h2, h3⟩ := S.rules
  refine ⟨e, o, ?_, ?_, h3⟩
  · rcases M.same with e0 | e0
    · have q := (S.nil e0).1
      subst q
      cases h1
      exact .nil
    · subst e0
      exact h1.mono fun q hq => by
        rcases List.mem_cons.mp hq with rfl | hq
        · exact .head _
        · exact .tail _ (M.sub q hq)
  · rcases M.same with e0 | e0
    · have q := (S.nil e0).2
      subst q
      cases h2
      exact .nil
    · subst e0
      exact h2.mono fun q hq => by
        rcases List.mem_cons.mp hq with rfl | hq
        · exact .head _
        · exact .tail _ (M.sub q hq)
theorem pt_ne (M : MgNew w p loose mean mg mb pt pt' tl tl' r (frontS x) v) (e : pt' = #[]) : False := by
  obtain ⟨c', e1, _⟩ := M.tab
  rw [e1] at e
  have e2 := congrArg Array.size e
  simp at e2
theorem MgSt.next1 (S : MgSt w p loose mean mg mb l1 l2 ps i pt rs1 rs2 tl) (M : MgNew w p loose mean mg mb pt pt' tl tl' r (frontS x) v) (hs : SayIs y v) (hp : ps[i]? = some (x, y)) (q1 : ∀ q ∈ tl', q.1 ≠ l1) (q2 : ∀ q ∈ tl', q.1 ≠ l2) :
    MgSt w p loose mean mg mb l1 l2 ps (i + 1) pt' (rs1 ++ [r]) rs2 tl' := by
  obtain ⟨e, o, h1, h2, h3⟩ := S.old M
  refine ⟨.inr M.tab, fun e => (pt_ne M e).elim, ⟨e ++ [(x, y)], o, h1.append (.cons M.rule hs .nil), h2, fun r => ?_⟩, ⟨?_, ?_⟩, M.off S.o180, q1, q2⟩
  · rw [List.take_add_one, hp]
    simp only [List.mem_append, Option.toList_some, List.mem_singleton, ← h3 r]
    grind
  · rw [List.length_append]; have := S.len.1; simp; omega
  · have := S.len.2; omega
theorem MgSt.next2 (S : MgSt w p loose mean mg mb l1 l2 ps i pt rs1 rs2 tl) (M : MgNew w p loose mean mg mb pt pt' tl tl' r (frontS x) v) (hs : SayIs y v) (hp : ps[i]? = some (x, y)) (q1 : ∀ q ∈ tl', q.1 ≠ l1) (q2 : ∀ q ∈ tl', q.1 ≠ l2) :
    MgSt w p loose mean mg mb l1 l2 ps (i + 1) pt' rs1 (rs2 ++ [r]) tl' := by
  obtain ⟨e, o, h1, h2, h3⟩ := S.old M
  refine ⟨.inr M.tab, fun e => (pt_ne M e).elim, ⟨e, o ++ [(x, y)], h1, h2.append (.cons M.rule hs .nil), fun r => ?_⟩, ⟨?_, ?_⟩, M.off S.o180, q1, q2⟩
  · rw [List.take_add_one, hp]
    simp only [List.mem_append, Option.toList_some, List.mem_singleton, ← h3 r]
    grind
  · have := S.len.1; omega
  · rw [List.length_append]; have := S.len.2; simp; omega
end
end Mine
end -- part MergesL
section -- part MergesL2
open PySem PySem.W PyProof.Rows PySem.Calls PySem.Spec PyProof.V
set_option maxRecDepth 100000
set_option maxHeartbeats 2000000
namespace Mine
def mFr (u m₀ : Str → Option Value) : Str → Option Value := fun z => if z = Str.ofString "place" then u z else if z = Str.ofString "node" then u z else if z = Str.ofString "k" then u z else m₀ z
def MgM (m₀ m : Str → Option Value) : Prop := ∀ z, z ≠ Str.ofString "place" → z ≠ Str.ofString "node" → z ≠ Str.ofString "k" → m z = m₀ z
theorem MgM.frame {m₀ m : Str → Option Value} (h : MgM m₀ m) : m = mFr m m₀ := by
  funext z
  unfold mFr
  by_cases e1 : z = Str.ofString "place"
  · rw [if_pos e1]
  by_cases e2 : z = Str.ofString "node"
  · rw [if_neg e1, if_pos e2]
  by_cases e3 : z = Str.ofString "k"
  · rw [if_neg e1, if_neg e2, if_pos e3]
  rw [if_neg e1, if_neg e2, if_neg e3, h z e1 e2 e3]
def MgJ (w : World) (p : Program) (loose : List Str) (mean : ExcName → Option Value) (mg mb : Str → Option Value) (B x1 d1 u1 l1 x2 d2 u2 l2 : Addr) (bn k1 k2 : Nat) (t1 t2 t3 t4 t5 t6 t7 t8 : Tok) (ps : List (Int × Int)) (m₀ : Str → Option Value) (i : Nat) (m : Str → Option Value) (nx : List (Addr × Obj)) : Prop :=
  MgM m₀ m ∧ ∃ rs1 n1 rs2 n2 pt tl, nx = (B, W.listOf #[.ref x1, .ref x2] bn) :: (x1, instObj 52 d1) :: (d1, entD w t1 t2 t3 t4 u1 l1) :: (u1, W.listOf #[] k1) :: (l1, W.listOf (List.toArray rs1) n1) :: (x2, instObj 52 d2) :: (d2, entD w t5 t6 t7 t8 u2 l2) :: (u2, W.listOf #[] k2) :: (l2, W.listOf (List.toArray rs2) n2) :: (180, tabObj pt) :: tl ∧ MgSt w p loose mean mg mb l1 l2 ps i pt rs1 rs2 tl
theorem rng_small : ∀ n : Nat, n < 16 → Builtin.Range.small 0 (n : Int) 1 = true := by decide
theorem rng_size : ∀ n : Nat, n < 16 → Builtin.Range.rangeSize 0 (n : Int) 1 = (n : Int) := by decide
theorem mg_range {prog : Program} {A : Around} {E : Value → Shared → Prop} {s : Shared} {env : Env} {h₀ : Heap} {x : Str} {px : Pos} {body : List Stmt} {Q : Flow → Shared → Prop} {r : Addr} {vs : List Value} {t u v : Tok} {m₀ : Str → Option Value} {all : List (Addr × Obj)} {ps : List (Int × Int)} {n1 n2 : Nat} {w : World} {p : Program} {loose : List Str} {mean : ExcName → Option Value} {mg mb : Str → Option Value} {B x1 d1 u1 l1 x2 d2 u2 l2 : Addr} {bn k1 k2 : Nat} {t1 t2 t3 t4 t5 t6 t7 t8 : Tok}
    (hh : A.handled = none) (hr : IsRange s.heap r 0 (vs.length : Int) 1 t u v) (hv : vs.length = ps.length) (hl15 : vs.length ≤ 15) (F : Fr h₀ env.locals s.heap m₀) (N : News h₀ env.locals s.heap all)
    (hB : (B, W.listOf #[.ref x1, .ref x2] bn) ∈ all) (h1 : (x1, instObj 52 d1) ∈ all) (h2 : (d1, entD w t1 t2 t3 t4 u1 l1) ∈ all) (h3 : (u1, W.listOf #[] k1) ∈ all) (h4 : (l1, W.listOf #[] n1) ∈ all) (h5 : (x2, instObj 52 d2) ∈ all) (h6 : (d2, entD w t5 t6 t7 t8 u2 l2) ∈ all) (h7 : (u2, W.listOf #[] k2) ∈ all) (h8 : (l2, W.listOf #[] n2) ∈ all) (h9 : (180, tabObj #[]) ∈ all)
    (hne : ∀ a ∈ [B, x1, d1, u1, l1, x2, d2, u2, l2], @Ne Nat a 180) (a0 : @Ne Nat B l1) (a1 : @Ne Nat x1 l1) (a2 : @Ne Nat d1 l1) (a3 : @Ne Nat u1 l1) (a4 : @Ne Nat x2 l1) (a5 : @Ne Nat d2 l1) (a6 : @Ne Nat u2 l1) (a7 : @Ne Nat 180 l1) (b0 : @Ne Nat B l2) (b1 : @Ne Nat x1 l2) (b2 : @Ne Nat d1 l2) (b3 : @Ne Nat u1 l2) (b4 : @Ne Nat x2 l2) (b5 : @Ne Nat d2 l2) (b6 : @Ne Nat u2 l2) (b7 : @Ne Nat 180 l2) (c0 : @Ne Nat l1 l2)
    (turn : ∀ (i : Nat) px' py u0 t rs1 n1 rs2 n2 pt tl h tk I oI, i < vs.length → i < 15 → ps[i]? = some (px', py) → MgSt w p loose mean mg mb l1 l2 ps i pt rs1 rs2 tl → Fr h₀ env.locals h (mFr u0 m₀) → News h₀ env.locals h ((I, oI) :: (B, W.listOf #[.ref x1, .ref x2] bn) :: (x1, instObj 52 d1) :: (d1, entD w t1 t2 t3 t4 u1 l1) :: (u1, W.listOf #[] k1) :: (l1, W.listOf (List.toArray rs1) n1) :: (x2, instObj 52 d2) :: (d2, entD w t5 t6 t7 t8 u2 l2) :: (u2, W.listOf #[] k2) :: (l2, W.listOf (List.toArray rs2) n2) :: (180, tabObj pt) :: tl) →
      (∀ q ∈ (B, W.listOf #[.ref x1, .ref x2] bn) :: (x1, instObj 52 d1) :: (d1, entD w t1 t2 t3 t4 u1 l1) :: (u1, W.listOf #[] k1) :: (l1, W.listOf (List.toArray rs1) n1) :: (x2, instObj 52 d2) :: (d2, entD w t5 t6 t7 t8 u2 l2) :: (u2, W.listOf #[] k2) :: (l2, W.listOf (List.toArray rs2) n2) :: (180, tabObj pt) :: tl, q.1 ≠ I) → (∀ q ∈ [(I, oI), (B, W.listOf #[.ref x1, .ref x2] bn), (x1, instObj 52 d1), (d1, entD w t1 t2 t3 t4 u1 l1), (u1, W.listOf #[] k1), (l1, W.listOf (List.toArray rs1) n1), (x2, instObj 52 d2), (d2, entD w t5 t6 t7 t8 u2 l2), (u2, W.listOf #[] k2), (l2, W.listOf (List.toArray rs2) n2)], q.1 ≠ 180) → @Ne Nat I l1 → @Ne Nat I l2 → (∀ q ∈ tl, q.1 ≠ l1) → (∀ q ∈ tl, q.1 ≠ l2) → (∀ q ∈ tl, q.1 ≠ I) → @Ne Nat B l1 → @Ne Nat x1 l1 → @Ne Nat d1 l1 → @Ne Nat u1 l1 → @Ne Nat x2 l1 → @Ne Nat d2 l1 → @Ne Nat u2 l1 → @Ne Nat 180 l1 → @Ne Nat B l2 → @Ne Nat x1 l2 → @Ne Nat d1 l2 → @Ne Nat u1 l2 → @Ne Nat x2 l2 → @Ne Nat d2 l2 → @Ne Nat u2 l2 → @Ne Nat 180 l2 → @Ne Nat l1 l2 →
      wpAny (model prog w) A (assign (.Name x px) env (.int (i : Int) t)) (fun _ s₂ => wpAny (model prog w) A (execs body env) (TnPost h₀ env.locals I oI (MgJ w p loose mean mg mb B x1 d1 u1 l1 x2 d2 u2 l2 bn k1 k2 t1 t2 t3 t4 t5 t6 t7 t8 ps m₀ (i + 1)) { s with heap := h, toks := tk } Q) E s₂) E { s with heap := h, toks := tk })
    (done : ∀ u0 rs1 n1 rs2 n2 pt tl h tk, MgSt w p loose mean mg mb l1 l2 ps ps.length pt rs1 rs2 tl → Fr h₀ env.locals h (mFr u0 m₀) → News h₀ env.locals h ((B, W.listOf #[.ref x1, .ref x2] bn) :: (x1, instObj 52 d1) :: (d1, entD w t1 t2 t3 t4 u1 l1) :: (u1, W.listOf #[] k1) :: (l1, W.listOf (List.toArray rs1) n1) :: (x2, instObj 52 d2) :: (d2, entD w t5 t6 t7 t8 u2 l2) :: (u2, W.listOf #[] k2) :: (l2, W.listOf (List.toArray rs2) n2) :: (180, tabObj pt) :: tl) → Q .next { s with heap := h, toks := tk }) :
    wpAny (model prog w) A (pyIter (.ref r)) (fun it s₂ => TurnsAt prog w A h₀ env (.Name x px) body Q E it s₂) E s := by
  refine tn_range (n := vs.length) (news := (B, W.listOf #[.ref x1, .ref x2] bn) :: (x1, instObj 52 d1) :: (d1, entD w t1 t2 t3 t4 u1 l1) :: (u1, W.listOf #[] k1) :: (l1, W.listOf (List.toArray []) n1) :: (x2, instObj 52 d2) :: (d2, entD w t5 t6 t7 t8 u2 l2) :: (u2, W.listOf #[] k2) :: (l2, W.listOf (List.toArray []) n2) :: (180, tabObj #[]) :: []) (MgJ w p loose mean mg mb B x1 d1 u1 l1 x2 d2 u2 l2 bn k1 k2 t1 t2 t3 t4 t5 t6 t7 t8 ps m₀) hh hr ?_ ?_ F (newsPick N ?_) ⟨fun _ _ _ _ => rfl, [], n1, [], n2, #[], [], rfl, MgSt.start l1 l2 ps⟩ ?_ ?_
  · exact rng_small _ (by omega)
  · exact rng_size _ (by omega)
  · exact List.forall_mem_cons.mpr ⟨hB, List.forall_mem_cons.mpr ⟨h1, List.forall_mem_cons.mpr ⟨h2, List.forall_mem_cons.mpr ⟨h3, List.forall_mem_cons.mpr ⟨h4, List.forall_mem_cons.mpr ⟨h5, List.forall_mem_cons.mpr ⟨h6, List.forall_mem_cons.mpr ⟨h7, List.forall_mem_cons.mpr ⟨h8, List.forall_mem_cons.mpr ⟨h9, fun _ q => (nomatch q)⟩⟩⟩⟩⟩⟩⟩⟩⟩⟩
  · rintro i t m₁ nx h tk I oI hi ⟨hM, rs1, n1, rs2, n2, pt, tl, rfl, S⟩ F₁ N₁ off hcI
    have e : (0 : Int) + (i : Int) * 1 = (i : Int) := by omega
    rw [e]
    rw [hM.frame] at F₁
    have hi' : i < ps.length := hv ▸ hi
    refine turn i ps[i].1 ps[i].2 m₁ t rs1 n1 rs2 n2 pt tl h tk I oI hi (by omega) (by simp [hi']) S F₁ N₁ off ?_ (fun q => off (l1, W.listOf (List.toArray rs1) n1) (by simp) q.symm) (fun q => off (l2, W.listOf (List.toArray rs2) n2) (by simp) q.symm) S.o1 S.o2 (fun q hq => off q (by simp [hq])) a0 a1 a2 a3 a4 a5 a6 a7 b0 b1 b2 b3 b4 b5 b6 b7 c0
    have o180 : I ≠ 180 := fun q => off (180, tabObj pt) (by simp) q.symm
    simp only [List.mem_cons, List.not_mem_nil, or_false, forall_eq_or_imp, forall_eq] at hne ⊢
    exact ⟨o180, hne⟩
  · rintro m₁ nx h tk ⟨hM, rs1, n1, rs2, n2, pt, tl, rfl, S⟩ F₁ N₁
    rw [hM.frame] at F₁
    exact done m₁ rs1 n1 rs2 n2 pt tl h tk (hv ▸ S) F₁ N₁
theorem mg_end {h₀ h' : Heap} {L I : Addr} {oI : Obj} {m₀ m' : Str → Option Value} {s₁ : Shared} {tk : Nat} {ps : List (Int × Int)} {i n1 n2 : Nat} {pt : Array Value} {rs1 rs2 : List Value} {tl nx : List (Addr × Obj)} {w : World} {p : Program} {loose : List Str} {mean : ExcName → Option Value} {mg mb : Str → Option Value} {B x1 d1 u1 l1 x2 d2 u2 l2 : Addr} {bn k1 k2 : Nat} {t1 t2 t3 t4 t5 t6 t7 t8 : Tok}
    (F : Fr h₀ L h' m') (N : News h₀ L h' ((I, oI) :: nx)) (hnx : nx = (B, W.listOf #[.ref x1, .ref x2] bn) :: (x1, instObj 52 d1) :: (d1, entD w t1 t2 t3 t4 u1 l1) :: (u1, W.listOf #[] k1) :: (l1, W.listOf (List.toArray rs1) n1) :: (x2, instObj 52 d2) :: (d2, entD w t5 t6 t7 t8 u2 l2) :: (u2, W.listOf #[] k2) :: (l2, W.listOf (List.toArray rs2) n2) :: (180, tabObj pt) :: tl) (off : ∀ q ∈ nx, q.1 ≠ I) (S : MgSt w p loose mean mg mb l1 l2 ps (i + 1) pt rs1 rs2 tl) (hm : MgM m₀ m') :
    TnEnd h₀ L I oI (MgJ w p loose mean mg mb B x1 d1 u1 l1 x2 d2 u2 l2 bn k1 k2 t1 t2 t3 t4 t5 t6 t7 t8 ps m₀ (i + 1)) s₁ { s₁ with heap := h', toks := tk } :=
  TnEnd.intro F N off ⟨hm, rs1, n1, rs2, n2, pt, tl, hnx, S⟩
end Mine
end -- part MergesL2
section -- part Merges
open PySem PySem.W PyProof.Rows
set_option maxRecDepth 100000
set_option maxHeartbeats 1500000
namespace Mine
theorem frontS_len {k : Int} (h : 1 ≤ k ∧ k < 16) : (frontS k).length ≤ 100 := Nat.le_trans (frontS_short h) (by decide)
/-- a record whose rules are those of ps, in some order -/
def BookIs (w : World) (p : Program) (loose : List Str) (mean : ExcName → Option Value) (mg mb : Str → Option Value) (l : List (Addr × Obj)) (y : Addr) (ps : List (Int × Int)) : Prop :=
  ∃ d es ne la rs n qs, (y, instObj 52 d) ∈ l ∧ (d, dictOf es ne) ∈ l ∧ getL (Str.ofString "rulelines") es = some (some (.ref la)) ∧ getL (Str.ofString "allowance") es = some none ∧ (la, W.listOf (List.toArray rs) n) ∈ l ∧ RulesAre w p loose mean mg mb l rs qs ∧ ∀ r, r ∈ qs ↔ r ∈ ps
local macro_rules | `(tactic| size_fits) => `(tactic| (rw [sizeLine_eq]; (with_reducible refine Nat.le_of_ble_eq_true ?_); with_unfolding_all rfl))
local macro_rules | `(tactic| k_ne) => `(tactic| first | exact ne_offN (by with_reducible assumption) (by k_mem) | exact Ne.symm (ne_offN (by with_reducible assumption) (by k_mem)) | (refine neN ?_; (try dsimp only); omega))
local macro_rules | `(tactic| k_mem) => `(tactic| ((repeat (first | (with_reducible exact List.mem_cons_self) | (with_reducible refine List.mem_cons_of_mem _ ?_))); done))
local macro_rules | `(tactic| size_fits) => `(tactic| (rw [sizeLine_eq]; (have hz9 := MgSt.len (by with_reducible assumption)); simp only [List.size_toArray]; omega))
local macro_rules | `(tactic| k_ne) => `(tactic| first | with_reducible assumption | exact Ne.symm (by with_reducible assumption))
local macro_rules | `(tactic| k_all) => `(tactic| with_reducible assumption)
theorem merges_spec (w : World) (p : Program) (loose : List Str) (mean : ExcName → Option Value) (mg mb : Str → Option Value) : ∀ {b : Addr} {vs : List Value} {nb : Nat} {ps : List (Int × Int)} {rest : List (Addr × Obj)} {dp un : Nat} {gd : Option (List Code)} {cn : Str} {cs : Scope} {a : Addr} {ccd : Value} {cl : List (Str × Addr)} {outer : List Env} {A₀ : Around} {base h₀ : Heap} {L : Addr} {m : Str → Option Value} {news : List (Addr × Obj)} {s : Shared} {Q E : Value → Shared → Prop}
    (B : Below A₀ base outer h₀) (F : Fr h₀ L s.heap m) (X : (hd.heap_1 w.params).In h₀) (N : News h₀ L s.heap news) (T : Top p loose mean mg mb h₀) (hk : cs.kind = .function)
    (hm : (180, tabObj #[]) ∈ news) (hb : (b, W.listOf vs.toArray nb) ∈ news) (hps : PairsAre news vs ps) (hlen : vs.length ≤ 15) (hrest : ∀ q ∈ rest, q ∈ news ∧ q.1 ≠ 180) (hrg : ∀ x y, (x, y) ∈ ps → 1 ≤ x ∧ x < 16 ∧ 0 ≤ y ∧ y < 4)
    (hd : dp + 30 < recursionLimit) (hu : un + 8 * 30 < cLine)
    (ret : ∀ D y1 y2 nd nw h' tk', Fr h₀ L h' m → News h₀ L h' (nw ++ rest) → (D, W.listOf #[.ref y1, .ref y2] nd) ∈ nw → BookIs w p loose mean mg mb nw y1 ps → BookIs w p loose mean mg mb nw y2 ps → (∃ pt, (180, tabObj pt) ∈ nw) → Q (.ref D) { s with heap := h', toks := tk' }),
    wpAny (model Challenge.rw_rl0031_01.row.prog w) (ktrTop dp un gd cn cs L a ccd cl outer) (call (.ref 192) [.ref b]) Q E s := by
  k_fill
  k_with_none
  k_with "call ref" => (first
    | ((k_dflt (show wpAny _ _ (call (Value.ref 171) _) _ _ _)); (k_dflt (refine' front_spec _ _ _ _ _ _ ?k1 ?k2 ?k3 ?k4 ?k5 ?kK ?hb ?kd ?ku ?_; (case k1 => k_asm); (case k2 => k_asm); (case k3 => k_asm); (case k4 => k_asm); (case k5 => k_asm); (case kK => exact rfl); (case hb => omega); (case kd => (show dp + 1 + 20 < recursionLimit; omega)); (case ku => (show un + 3 + 8 * 20 < cLine; omega)))); intro t9 h9 tk9 F9 N9; (try dsimp only); (try k_fold); walk_say "FRONT")
    | ((k_dflt (show wpAny _ _ (call (Value.ref 178) _) _ _ _)); (k_dflt (refine' saying_spec _ _ _ _ _ _ ?k1 ?k2 ?k3 ?k4 ?k5 ?kK ?hb ?kd ?ku ?_; (case k1 => k_asm); (case k2 => k_asm); (case k3 => k_asm); (case k4 => k_asm); (case k5 => k_asm); (case kK => exact rfl); (case hb => omega); (case kd => (show dp + 1 + 20 < recursionLimit; omega)); (case ku => (show un + 3 + 8 * 20 < cLine; omega)))); intro v9 h9 tk9 hS9 F9 N9; (try dsimp only); (try k_fold); walk_say "SAYING")
    | ((k_dflt (show wpAny _ _ (call (Value.ref 185) _) _ _ _)); (k_dflt (refine' mg_rule _ _ _ _ _ _ (pre := [_, _, _, _, _, _, _, _, _, _]) ?k1 ?k2 ?k3 ?k4 ?k5 ?kK ?hn ?hpre ?htl ?hT ?hl1 ?hl2 ?ho1 ?ho2 ?hI ?hoI ?kd ?ku ?hfr ?_; (case k1 => k_asm); (case k2 => k_asm); (case k3 => k_asm); (case k4 => k_asm); (case k5 => k_asm); (case kK => exact rfl); (case hn => exact rfl); (case hpre => with_reducible assumption); (case htl => exact MgSt.o180 (by with_reducible assumption)); (case hT => exact MgSt.tab (by with_reducible assumption)); (case ho1 => exact MgSt.o1 (by with_reducible assumption)); (case ho2 => exact MgSt.o2 (by with_reducible assumption)); (case hl1 => k_mem); (case hl2 => k_mem); (case hI => exact .head _); (case hoI => with_reducible assumption); (case hfr => exact frontS_len (by omega)); (case kd => (show dp + 1 + 20 < recursionLimit; omega)); (case ku => (show un + 3 + 8 * 20 < cLine; omega)))); intro r9 pt9 tl9 h9 tk9 F9 N9 hM9 ho19 ho29 hoI9; (try simp only [List.cons_append, List.nil_append] at N9); (try dsimp only); (try k_fold); walk_say "RULE")
    | ((k_dflt (show wpAny _ _ (call (Value.ref 63) _) _ _ _)); (k_dflt (refine' merge_spec _ _ _ _ _ _ ?k1 ?k2 ?k3 ?k4 ?k5 ?kK ?m1 ?m2 ?m3 ?m4 ?m5 ?m6 ?m7 ?m8 ?kd ?ku ?l1 ?l2 ?_; (case k1 => k_asm); (case k2 => k_asm); (case k3 => k_asm); (case k4 => k_asm); (case k5 => k_asm); (case kK => exact rfl); (case m1 => k_dflt k_mem); (case m2 => k_dflt k_mem); (case m3 => k_dflt k_mem); (case m4 => k_dflt k_mem); (case m5 => k_dflt k_mem); (case m6 => k_dflt k_mem); (case m7 => k_dflt k_mem); (case m8 => k_dflt k_mem); (case kd => (show dp + 1 + 20 < recursionLimit; omega)); (case ku => (show un + 3 + 8 * 20 < cLine; omega)); (case l1 => (have hz9 := MgSt.len (by with_reducible assumption); omega)); (case l2 => (have hz9 := MgSt.len (by with_reducible assumption); omega)))); intro r9 d9 es9 ne9 D9 h9 tk9 F9 N9 hg9 hna9; (try dsimp only); (try k_fold); walk_say "MERGE")
    )
  intro b vs nb ps rest dp un gd cn cs a ccd cl outer A₀ base h₀ L m news s Q E B F X N T hk hm hb hps hlen hrest hrg hd hu ret
  have Nl : News h₀ L s.heap [_] := fun p hp => by rw [List.mem_singleton.mp hp]; exact N _ hm
  refine wpAny_call ?_
  k_dflt (refine' frz_def ?k1 ?k2 ?k3 ?k4 ?k5 ?kA ?kF ?kK ?k6 ?k7 ?k8 ?k9 ?kB ?_ ?c2 ?c3 ?c4 ?c5; (case kA => exact rfl); (case kF => exact rfl); (case kK => assumption); (case k1 => k_asm); (case k2 => k_asm); (case k3 => k_asm); (case k4 => exact Nl); (case k5 => k_asm); (case k6 => k_is); (case k7 => k_is); (case k8 => ktr_room); (case k9 => exact BindsTo.of_eq rfl); (case c5 => decide); (case kB => exact locs rfl); (case c2 => exact rfl); (case c3 => exact rfl); (case c4 => exact rfl); k_whole; intro g' L' h' FG' F' N' B' X' T' Z'; (try dsimp only); (try k_fold))
  have hLd : LaidAt g' b vs ps := laid_base Z' N hm hb hps
  have KZ := fun (h' : Heap) (m' : Str → Option Value) (nw : List (Addr × Obj)) (F' : Fr g' L' h' m') (kN : News h₀ L h' nw) => frz_keepT (rest := rest) 180 Z' Nl N F' kN (fun p hp h => absurd (congrArg (·.1) (List.mem_singleton.mp hp)) h) hrest
  clear N Nl Z' hm hb hps
  (repeat' (first | (k_unfold; (try dsimp only)) | (k_end; wrow_close) | ((first | ((fail_if_success (goal_lacks exec)); (with_reducible show wpAny _ _ (exec _ _) _ _ _); ((with_reducible show wpAny _ _ (exec (Stmt.For (Expr.Name ..) (Expr.Call ..) (_ :: _) [] _) _) _ _ _); (first | (with_reducible (first | (k_here; (rename Fr _ _ _ _ => lFpq); (with_unfolding_all refine' For_turns lFpq ?_; k_whole)))) | (k_here; (rename Fr _ _ _ _ => lFpq); (with_unfolding_all refine' For_turns lFpq ?_; k_whole))); (try walk_say "OWN exec For Name Call cons nil"))) | ((fail_if_success (goal_lacks subscriptTail)); (with_reducible show wpAny _ _ (subscriptTail _ _ _ _) _ _ _); (first | ((with_reducible show wpAny _ _ (subscriptTail (Expr.Name ..) (Expr.Name ..) (Value.ref _) (Value.int _ _)) _ _ _); (first | (with_reducible (first | (k_here; (with_reducible show wpAny _ _ (subscriptTail _ _ (Value.ref _) (Value.int _ _)) _ _ _); k_dflt (refine' sub_laid ?k1 ?k2 ?k3 ?k4 ?_ ?k6; (case k1 => k_asm); (case k2 => with_reducible assumption); (case k3 => omega); (case k4 => with_reducible assumption); (case k6 => with_unfolding_all rfl); k_whole); intro pb9q ta9q tb9q hT9q))) | (k_here; (with_reducible show wpAny _ _ (subscriptTail _ _ (Value.ref _) (Value.int _ _)) _ _ _); k_dflt (refine' sub_laid ?k1 ?k2 ?k3 ?k4 ?_ ?k6; (case k1 => k_asm); (case k2 => with_reducible assumption); (case k3 => omega); (case k4 => with_reducible assumption); (case k6 => with_unfolding_all rfl); k_whole); intro pb9q ta9q tb9q hT9q)); (try walk_say "OWN subscriptTail Name Name ref int")) | ((with_reducible show wpAny _ _ (subscriptTail (Expr.Name ..) (Expr.Constant ..) (Value.ref _) (Value.int _ _)) _ _ _); (first | (with_reducible (first | (k_here; (with_reducible show wpAny _ _ (subscriptTail _ _ (Value.ref _) (Value.int _ _)) _ _ _); k_dflt (refine' sub_at ?k1 ?k2 ?k4 ?k5 ?k3 ?_ ?k6; (case k1 => k_asm); (case k2 => k_mem); (case k4 => decide); (case k5 => decide); (case k3 => rfl); (case k6 => with_unfolding_all rfl); k_whole)))) | (k_here; (with_reducible show wpAny _ _ (subscriptTail _ _ (Value.ref _) (Value.int _ _)) _ _ _); k_dflt (refine' sub_at ?k1 ?k2 ?k4 ?k5 ?k3 ?_ ?k6; (case k1 => k_asm); (case k2 => k_mem); (case k4 => decide); (case k5 => decide); (case k3 => rfl); (case k6 => with_unfolding_all rfl); k_whole))); (try walk_say "OWN subscriptTail Name Constant ref int")) | ((with_reducible show wpAny _ _ (subscriptTail (Expr.Name ..) (Expr.BinOp ..) (Value.ref _) (Value.int _ _)) _ _ _); (first | (with_reducible (first | (k_here; (with_reducible show wpAny _ _ (subscriptTail _ _ (Value.ref _) (Value.int _ _)) _ _ _); k_dflt (refine' sub_book ?k1 ?k2 ?k3 ?_ ?_ ?k6; (case k1 => k_asm); (case k2 => k_mem); (case k3 => exact par2 _); (case k6 => with_unfolding_all rfl); k_whole) <;> intro hk9q))) | (k_here; (with_reducible show wpAny _ _ (subscriptTail _ _ (Value.ref _) (Value.int _ _)) _ _ _); k_dflt (refine' sub_book ?k1 ?k2 ?k3 ?_ ?_ ?k6; (case k1 => k_asm); (case k2 => k_mem); (case k3 => exact par2 _); (case k6 => with_unfolding_all rfl); k_whole) <;> intro hk9q)); (try walk_say "OWN subscriptTail Name BinOp ref int")))) | ((fail_if_success (goal_lacks binaryOp)); (with_reducible show wpAny _ _ (binaryOp _ _ _) _ _ _); ((with_reducible show wpAny _ _ (binaryOp Operator.Mult (Value.int _ _) (Value.int _ _)) _ _ _); (first | (with_reducible (first | (k_here; with_reducible refine mul_int ?_ (IntMulOk.of_left (by decide))))) | (k_here; with_reducible refine mul_int ?_ (IntMulOk.of_left (by decide)))); (try walk_say "OWN binaryOp Mult int int"))) | ((fail_if_success (goal_lacks eval)); (with_reducible show wpAny _ _ (eval _ _) _ _ _); (first | ((with_reducible show wpAny _ _ (eval (Expr.ListComp ..) _) _ _ _); (first | (with_reducible (first | ((with_reducible show wpAny _ _ (eval _ _) _ _ _); k_here; lcg_look; lcg_calm; k_dflt (refine LCg.ListComp_U (F₀ := by k_asm) (by rfl) (by decide) (by rfl) (by decide) (by rfl) ?_); k_dflt lcg_toSrc))) | ((with_reducible show wpAny _ _ (eval _ _) _ _ _); k_here; lcg_look; lcg_calm; k_dflt (refine LCg.ListComp_U (F₀ := by k_asm) (by rfl) (by decide) (by rfl) (by decide) (by rfl) ?_); k_dflt lcg_toSrc)); (try walk_say "OWN eval ListComp")) | ((with_reducible show wpAny _ _ (eval (Expr.Name ..) _) _ _ _); (first | (with_reducible (first | (k_here; (with_reducible show wpAny _ _ (eval (Expr.Name _ _) (compEnvC _ _ _ _)) _ _ _); k_dflt (refine' lcf_cell ?N ?c ?m ?d ?_ ?a ?b; (case a => rfl); (case b => rfl); (case N => k_asm); (case c => rfl); (case m => k_mem); (case d => with_reducible assumption); k_whole)) | (k_here; (with_reducible show wpAny _ _ (eval (Expr.Name _ _) (compEnvC _ _ _ _)) _ _ _); k_dflt (refine' LCgL.ld_own ?N ?m ?d ?x ?_ ?a ?b; (case a => rfl); (case b => rfl); (case N => k_asm); (case m => k_mem); (case d => with_reducible assumption); (case x => with_reducible assumption); k_whole)))) | (k_here; (with_reducible show wpAny _ _ (eval (Expr.Name _ _) (compEnvC _ _ _ _)) _ _ _); k_dflt (refine' lcf_cell ?N ?c ?m ?d ?_ ?a ?b; (case a => rfl); (case b => rfl); (case N => k_asm); (case c => rfl); (case m => k_mem); (case d => with_reducible assumption); k_whole)) | (k_here; (with_reducible show wpAny _ _ (eval (Expr.Name _ _) (compEnvC _ _ _ _)) _ _ _); k_dflt (refine' LCgL.ld_own ?N ?m ?d ?x ?_ ?a ?b; (case a => rfl); (case b => rfl); (case N => k_asm); (case m => k_mem); (case d => with_reducible assumption); (case x => with_reducible assumption); k_whole))); (try walk_say "OWN eval Name")))) | ((fail_if_success (goal_lacks call)); (with_reducible show wpAny _ _ (call _ _) _ _ _); (first | ((first | (with_reducible (first | k_extra "call ref")) | k_extra "call ref"); (try walk_say "OWN call ref")) | ((with_reducible show wpAny _ _ (call (Value.builtin "len") _) _ _ _); (first | (with_reducible (first | (k_here; (with_reducible show wpAny _ _ (call (Value.builtin "len") [Value.ref _]) _ _ _); k_dflt (refine' len_base ?k1 ?k2 ?k3 ?k4 ?_; (case k1 => k_asm); (case k2 => k_asm); (case k3 => with_reducible assumption); (case k4 => with_reducible assumption); k_whole); intro t9q tk9q))) | (k_here; (with_reducible show wpAny _ _ (call (Value.builtin "len") [Value.ref _]) _ _ _); k_dflt (refine' len_base ?k1 ?k2 ?k3 ?k4 ?_; (case k1 => k_asm); (case k2 => k_asm); (case k3 => with_reducible assumption); (case k4 => with_reducible assumption); k_whole); intro t9q tk9q)); (try walk_say "OWN call builtin:len")) | ((with_reducible show wpAny _ _ (call (Value.type "range") _) _ _ _); (first | (with_reducible (first | ((with_reducible show wpAny _ _ (call (Value.type "range") [Value.int _ _]) _ _ _); (rename Fr _ _ _ _ => Fpq); (rename News _ _ _ _ => Npq); (with_unfolding_all refine range1_rows Fpq Npq ?_; intro hpq tkpq tapq tbpq tcpq hrpq Fpq Npq hkpq); clear hkpq))) | ((with_reducible show wpAny _ _ (call (Value.type "range") [Value.int _ _]) _ _ _); (rename Fr _ _ _ _ => Fpq); (rename News _ _ _ _ => Npq); (with_unfolding_all refine range1_rows Fpq Npq ?_; intro hpq tkpq tapq tbpq tcpq hrpq Fpq Npq hkpq); clear hkpq)); (try walk_say "OWN call type:range")))) | ((fail_if_success (goal_lacks InvEndN)); (with_reducible show InvEndN ..); (repeat clear qk); (repeat clear ek); ((first | (with_reducible (first | k_dflt kst_close)) | k_dflt kst_close); (try walk_say "OWN InvEndN"))) | ((fail_if_success (goal_lacks LCg.CompEnd)); (with_reducible show LCg.CompEnd ..); ((first | (with_reducible (first | first | (k_dflt (refine' ce_int ?a1 ?a2 ?a3 ?a4 ?_; (case a1 => k_asm); (case a2 => k_asm); (case a3 => with_reducible assumption); (case a4 => first | exact True.intro | lcg_src)); intro z9q hz9q) | (k_dflt (refine' ce_same ?a1 ?a2 ?a3 ?a4 ?_; (case a1 => k_asm); (case a2 => k_asm); (case a3 => with_reducible assumption); (case a4 => first | exact True.intro | lcg_src))) | (k_dflt (refine' ce_one ?a1 ?a2 ?a3 ?a5 ?a4 ?_; (case a1 => k_asm); (case a2 => k_asm); (case a3 => with_reducible assumption); (case a5 => with_reducible assumption); (case a4 => first | exact True.intro | lcg_src))) | k_dflt lcg_end)) | first | (k_dflt (refine' ce_int ?a1 ?a2 ?a3 ?a4 ?_; (case a1 => k_asm); (case a2 => k_asm); (case a3 => with_reducible assumption); (case a4 => first | exact True.intro | lcg_src)); intro z9q hz9q) | (k_dflt (refine' ce_same ?a1 ?a2 ?a3 ?a4 ?_; (case a1 => k_asm); (case a2 => k_asm); (case a3 => with_reducible assumption); (case a4 => first | exact True.intro | lcg_src))) | (k_dflt (refine' ce_one ?a1 ?a2 ?a3 ?a5 ?a4 ?_; (case a1 => k_asm); (case a2 => k_asm); (case a3 => with_reducible assumption); (case a5 => with_reducible assumption); (case a4 => first | exact True.intro | lcg_src))) | k_dflt lcg_end); (try walk_say "OWN CompEnd"))) | ((fail_if_success (goal_lacks LCg.CompRest)); (with_reducible show LCg.CompRest ..); ((first | (with_reducible (first | (with_unfolding_all first | (refine LCg.CompRest.succ ?_; intro vpq Ipq oIpq Cpq oCpq Dpq mpq hpq tkpq Epq hvpq hCpq hxpq Fpq Npq offpq nepq; clear nepq; (first | lcg_open hvpq | (obtain ⟨t9pq, hv9pq⟩ := hvpq; subst hv9pq))) | refine LCg.CompRest.zero ?_))) | (with_unfolding_all first | (refine LCg.CompRest.succ ?_; intro vpq Ipq oIpq Cpq oCpq Dpq mpq hpq tkpq Epq hvpq hCpq hxpq Fpq Npq offpq nepq; clear nepq; (first | lcg_open hvpq | (obtain ⟨t9pq, hv9pq⟩ := hvpq; subst hv9pq))) | refine LCg.CompRest.zero ?_)); (try walk_say "OWN CompRest"))) | ((fail_if_success (goal_lacks LCg.FinE)); (with_reducible show LCg.FinE ..); ((first | (with_reducible (first | ((unfold LCg.FinE); intro Dpq hpq tkpq Fpq Npq o1pq; (try simp only [List.nil_append, List.cons_append] at Npq); (try dsimp only)))) | ((unfold LCg.FinE); intro Dpq hpq tkpq Fpq Npq o1pq; (try simp only [List.nil_append, List.cons_append] at Npq); (try dsimp only))); (try walk_say "OWN FinE"))) | ((fail_if_success (goal_lacks CRestC)); (with_reducible show CRestC ..); ((first | (with_reducible (first | (with_unfolding_all first | (refine CRestC.succ ?_; intro vpq Ipq oIpq Cpq oCpq cpq ocpq Dpq hpq tkpq Epq hvpq hdpq Fpq Npq offpq nepq offcpq; clear nepq; lcg_open hvpq) | refine CRestC.zero ?_))) | (with_unfolding_all first | (refine CRestC.succ ?_; intro vpq Ipq oIpq Cpq oCpq cpq ocpq Dpq hpq tkpq Epq hvpq hdpq Fpq Npq offpq nepq offcpq; clear nepq; lcg_open hvpq) | refine CRestC.zero ?_)); (try walk_say "OWN CRestC"))) | ((fail_if_success (goal_lacks RestC)); (with_reducible show RestC ..); ((first | (with_reducible (first | (k_dflt (refine restC_one (by with_reducible assumption) (by with_reducible assumption) ?_)))) | (k_dflt (refine restC_one (by with_reducible assumption) (by with_reducible assumption) ?_))); (try walk_say "OWN RestC"))) | walk1 | (dsimp only; walk1) | (dsimp only [List.cons_append, List.nil_append]; walk1)); skip) | ((with_reducible show wpAny _ _ _ _ _ _); dsimp only) | (leave1; walk_say "STEP leave1"; try dsimp only) | fail "no step"))
  rename Fr g' _ _ _ => lF; rename News g' _ _ _ => lN; rename IsRange _ _ _ _ _ _ _ _ => rgX
  k_dflt (refine' mg_range (p := p) (loose := loose) (mean := mean) (mg := mg) (mb := mb) rfl rgX hLd.2.1 hlen lF lN ?hB ?h1 ?h2 ?h3 ?h4 ?h5 ?h6 ?h7 ?h8 ?h9 ?hne ?a0 ?a1 ?a2 ?a3 ?a4 ?a5 ?a6 ?a7 ?b0 ?b1 ?b2 ?b3 ?b4 ?b5 ?b6 ?b7 ?c0 ?turn ?done)
  case hB => k_dflt k_mem
  case h1 => k_dflt k_mem
  case h2 => k_dflt k_mem
  case h3 => k_dflt k_mem
  case h4 => k_dflt k_mem
  case h5 => k_dflt k_mem
  case h6 => k_dflt k_mem
  case h7 => k_dflt k_mem
  case h8 => k_dflt k_mem
  case h9 => k_dflt k_mem
  case hne => (simp only [List.mem_cons, List.not_mem_nil, or_false, forall_eq_or_imp, forall_eq]; (repeat' apply And.intro); all_goals (show @Ne Nat _ _; omega))
  case a0 => (show @Ne Nat _ _; omega)
  case a1 => (show @Ne Nat _ _; omega)
  case a2 => (show @Ne Nat _ _; omega)
  case a3 => (show @Ne Nat _ _; omega)
  case a4 => (show @Ne Nat _ _; omega)
  case a5 => (show @Ne Nat _ _; omega)
  case a6 => (show @Ne Nat _ _; omega)
  case a7 => (show @Ne Nat _ _; omega)
  case b0 => (show @Ne Nat _ _; omega)
  case b1 => (show @Ne Nat _ _; omega)
  case b2 => (show @Ne Nat _ _; omega)
  case b3 => (show @Ne Nat _ _; omega)
  case b4 => (show @Ne Nat _ _; omega)
  case b5 => (show @Ne Nat _ _; omega)
  case b6 => (show @Ne Nat _ _; omega)
  case b7 => (show @Ne Nat _ _; omega)
  case c0 => (show @Ne Nat _ _; omega)
  case turn =>
    intro i px9 py9 u0 t rs1 n1 rs2 n2 pt tl h tk I oI hi hi15 hp9 S F' N' off hpre nI1 nI2 o1 o2 oI9 c1 c2 c3 c4 c5 c6 c7 c8 c9 c10 c11 c12 c13 c14 c15 c16 c17
    obtain ⟨r1, r2, r3, r4⟩ := hrg _ _ (List.mem_of_getElem? hp9)
    (repeat' (first | (k_unfold; (try dsimp only)) | (k_end; wrow_close) | ((first | ((fail_if_success (goal_lacks exec)); (with_reducible show wpAny _ _ (exec _ _) _ _ _); ((with_reducible show wpAny _ _ (exec (Stmt.For (Expr.Name ..) (Expr.Call ..) (_ :: _) [] _) _) _ _ _); (first | (with_reducible (first | (k_here; (rename Fr _ _ _ _ => lFpq); (with_unfolding_all refine' For_turns lFpq ?_; k_whole)))) | (k_here; (rename Fr _ _ _ _ => lFpq); (with_unfolding_all refine' For_turns lFpq ?_; k_whole))); (try walk_say "OWN exec For Name Call cons nil"))) | ((fail_if_success (goal_lacks subscriptTail)); (with_reducible show wpAny _ _ (subscriptTail _ _ _ _) _ _ _); (first | ((with_reducible show wpAny _ _ (subscriptTail (Expr.Name ..) (Expr.Name ..) (Value.ref _) (Value.int _ _)) _ _ _); (first | (with_reducible (first | (k_here; (with_reducible show wpAny _ _ (subscriptTail _ _ (Value.ref _) (Value.int _ _)) _ _ _); k_dflt (refine' sub_laid ?k1 ?k2 ?k3 ?k4 ?_ ?k6; (case k1 => k_asm); (case k2 => with_reducible assumption); (case k3 => omega); (case k4 => with_reducible assumption); (case k6 => with_unfolding_all rfl); k_whole); intro pb9q ta9q tb9q hT9q))) | (k_here; (with_reducible show wpAny _ _ (subscriptTail _ _ (Value.ref _) (Value.int _ _)) _ _ _); k_dflt (refine' sub_laid ?k1 ?k2 ?k3 ?k4 ?_ ?k6; (case k1 => k_asm); (case k2 => with_reducible assumption); (case k3 => omega); (case k4 => with_reducible assumption); (case k6 => with_unfolding_all rfl); k_whole); intro pb9q ta9q tb9q hT9q)); (try walk_say "OWN subscriptTail Name Name ref int")) | ((with_reducible show wpAny _ _ (subscriptTail (Expr.Name ..) (Expr.Constant ..) (Value.ref _) (Value.int _ _)) _ _ _); (first | (with_reducible (first | (k_here; (with_reducible show wpAny _ _ (subscriptTail _ _ (Value.ref _) (Value.int _ _)) _ _ _); k_dflt (refine' sub_at ?k1 ?k2 ?k4 ?k5 ?k3 ?_ ?k6; (case k1 => k_asm); (case k2 => k_mem); (case k4 => decide); (case k5 => decide); (case k3 => rfl); (case k6 => with_unfolding_all rfl); k_whole)))) | (k_here; (with_reducible show wpAny _ _ (subscriptTail _ _ (Value.ref _) (Value.int _ _)) _ _ _); k_dflt (refine' sub_at ?k1 ?k2 ?k4 ?k5 ?k3 ?_ ?k6; (case k1 => k_asm); (case k2 => k_mem); (case k4 => decide); (case k5 => decide); (case k3 => rfl); (case k6 => with_unfolding_all rfl); k_whole))); (try walk_say "OWN subscriptTail Name Constant ref int")) | ((with_reducible show wpAny _ _ (subscriptTail (Expr.Name ..) (Expr.BinOp ..) (Value.ref _) (Value.int _ _)) _ _ _); (first | (with_reducible (first | (k_here; (with_reducible show wpAny _ _ (subscriptTail _ _ (Value.ref _) (Value.int _ _)) _ _ _); k_dflt (refine' sub_book ?k1 ?k2 ?k3 ?_ ?_ ?k6; (case k1 => k_asm); (case k2 => k_mem); (case k3 => exact par2 _); (case k6 => with_unfolding_all rfl); k_whole) <;> intro hk9q))) | (k_here; (with_reducible show wpAny _ _ (subscriptTail _ _ (Value.ref _) (Value.int _ _)) _ _ _); k_dflt (refine' sub_book ?k1 ?k2 ?k3 ?_ ?_ ?k6; (case k1 => k_asm); (case k2 => k_mem); (case k3 => exact par2 _); (case k6 => with_unfolding_all rfl); k_whole) <;> intro hk9q)); (try walk_say "OWN subscriptTail Name BinOp ref int")))) | ((fail_if_success (goal_lacks binaryOp)); (with_reducible show wpAny _ _ (binaryOp _ _ _) _ _ _); ((with_reducible show wpAny _ _ (binaryOp Operator.Mult (Value.int _ _) (Value.int _ _)) _ _ _); (first | (with_reducible (first | (k_here; with_reducible refine mul_int ?_ (IntMulOk.of_left (by decide))))) | (k_here; with_reducible refine mul_int ?_ (IntMulOk.of_left (by decide)))); (try walk_say "OWN binaryOp Mult int int"))) | ((fail_if_success (goal_lacks eval)); (with_reducible show wpAny _ _ (eval _ _) _ _ _); (first | ((with_reducible show wpAny _ _ (eval (Expr.ListComp ..) _) _ _ _); (first | (with_reducible (first | ((with_reducible show wpAny _ _ (eval _ _) _ _ _); k_here; lcg_look; lcg_calm; k_dflt (refine LCg.ListComp_U (F₀ := by k_asm) (by rfl) (by decide) (by rfl) (by decide) (by rfl) ?_); k_dflt lcg_toSrc))) | ((with_reducible show wpAny _ _ (eval _ _) _ _ _); k_here; lcg_look; lcg_calm; k_dflt (refine LCg.ListComp_U (F₀ := by k_asm) (by rfl) (by decide) (by rfl) (by decide) (by rfl) ?_); k_dflt lcg_toSrc)); (try walk_say "OWN eval ListComp")) | ((with_reducible show wpAny _ _ (eval (Expr.Name ..) _) _ _ _); (first | (with_reducible (first | (k_here; (with_reducible show wpAny _ _ (eval (Expr.Name _ _) (compEnvC _ _ _ _)) _ _ _); k_dflt (refine' lcf_cell ?N ?c ?m ?d ?_ ?a ?b; (case a => rfl); (case b => rfl); (case N => k_asm); (case c => rfl); (case m => k_mem); (case d => with_reducible assumption); k_whole)) | (k_here; (with_reducible show wpAny _ _ (eval (Expr.Name _ _) (compEnvC _ _ _ _)) _ _ _); k_dflt (refine' LCgL.ld_own ?N ?m ?d ?x ?_ ?a ?b; (case a => rfl); (case b => rfl); (case N => k_asm); (case m => k_mem); (case d => with_reducible assumption); (case x => with_reducible assumption); k_whole)))) | (k_here; (with_reducible show wpAny _ _ (eval (Expr.Name _ _) (compEnvC _ _ _ _)) _ _ _); k_dflt (refine' lcf_cell ?N ?c ?m ?d ?_ ?a ?b; (case a => rfl); (case b => rfl); (case N => k_asm); (case c => rfl); (case m => k_mem); (case d => with_reducible assumption); k_whole)) | (k_here; (with_reducible show wpAny _ _ (eval (Expr.Name _ _) (compEnvC _ _ _ _)) _ _ _); k_dflt (refine' LCgL.ld_own ?N ?m ?d ?x ?_ ?a ?b; (case a => rfl); (case b => rfl); (case N => k_asm); (case m => k_mem); (case d => with_reducible assumption); (case x => with_reducible assumption); k_whole))); (try walk_say "OWN eval Name")))) | ((fail_if_success (goal_lacks call)); (with_reducible show wpAny _ _ (call _ _) _ _ _); (first | ((first | (with_reducible (first | k_extra "call ref")) | k_extra "call ref"); (try walk_say "OWN call ref")) | ((with_reducible show wpAny _ _ (call (Value.builtin "len") _) _ _ _); (first | (with_reducible (first | (k_here; (with_reducible show wpAny _ _ (call (Value.builtin "len") [Value.ref _]) _ _ _); k_dflt (refine' len_base ?k1 ?k2 ?k3 ?k4 ?_; (case k1 => k_asm); (case k2 => k_asm); (case k3 => with_reducible assumption); (case k4 => with_reducible assumption); k_whole); intro t9q tk9q))) | (k_here; (with_reducible show wpAny _ _ (call (Value.builtin "len") [Value.ref _]) _ _ _); k_dflt (refine' len_base ?k1 ?k2 ?k3 ?k4 ?_; (case k1 => k_asm); (case k2 => k_asm); (case k3 => with_reducible assumption); (case k4 => with_reducible assumption); k_whole); intro t9q tk9q)); (try walk_say "OWN call builtin:len")) | ((with_reducible show wpAny _ _ (call (Value.type "range") _) _ _ _); (first | (with_reducible (first | ((with_reducible show wpAny _ _ (call (Value.type "range") [Value.int _ _]) _ _ _); (rename Fr _ _ _ _ => Fpq); (rename News _ _ _ _ => Npq); (with_unfolding_all refine range1_rows Fpq Npq ?_; intro hpq tkpq tapq tbpq tcpq hrpq Fpq Npq hkpq); clear hkpq))) | ((with_reducible show wpAny _ _ (call (Value.type "range") [Value.int _ _]) _ _ _); (rename Fr _ _ _ _ => Fpq); (rename News _ _ _ _ => Npq); (with_unfolding_all refine range1_rows Fpq Npq ?_; intro hpq tkpq tapq tbpq tcpq hrpq Fpq Npq hkpq); clear hkpq)); (try walk_say "OWN call type:range")))) | ((fail_if_success (goal_lacks InvEndN)); (with_reducible show InvEndN ..); (repeat clear qk); (repeat clear ek); ((first | (with_reducible (first | k_dflt kst_close)) | k_dflt kst_close); (try walk_say "OWN InvEndN"))) | ((fail_if_success (goal_lacks LCg.CompEnd)); (with_reducible show LCg.CompEnd ..); ((first | (with_reducible (first | first | (k_dflt (refine' ce_int ?a1 ?a2 ?a3 ?a4 ?_; (case a1 => k_asm); (case a2 => k_asm); (case a3 => with_reducible assumption); (case a4 => first | exact True.intro | lcg_src)); intro z9q hz9q) | (k_dflt (refine' ce_same ?a1 ?a2 ?a3 ?a4 ?_; (case a1 => k_asm); (case a2 => k_asm); (case a3 => with_reducible assumption); (case a4 => first | exact True.intro | lcg_src))) | (k_dflt (refine' ce_one ?a1 ?a2 ?a3 ?a5 ?a4 ?_; (case a1 => k_asm); (case a2 => k_asm); (case a3 => with_reducible assumption); (case a5 => with_reducible assumption); (case a4 => first | exact True.intro | lcg_src))) | k_dflt lcg_end)) | first | (k_dflt (refine' ce_int ?a1 ?a2 ?a3 ?a4 ?_; (case a1 => k_asm); (case a2 => k_asm); (case a3 => with_reducible assumption); (case a4 => first | exact True.intro | lcg_src)); intro z9q hz9q) | (k_dflt (refine' ce_same ?a1 ?a2 ?a3 ?a4 ?_; (case a1 => k_asm); (case a2 => k_asm); (case a3 => with_reducible assumption); (case a4 => first | exact True.intro | lcg_src))) | (k_dflt (refine' ce_one ?a1 ?a2 ?a3 ?a5 ?a4 ?_; (case a1 => k_asm); (case a2 => k_asm); (case a3 => with_reducible assumption); (case a5 => with_reducible assumption); (case a4 => first | exact True.intro | lcg_src))) | k_dflt lcg_end); (try walk_say "OWN CompEnd"))) | ((fail_if_success (goal_lacks LCg.CompRest)); (with_reducible show LCg.CompRest ..); ((first | (with_reducible (first | (with_unfolding_all first | (refine LCg.CompRest.succ ?_; intro vpq Ipq oIpq Cpq oCpq Dpq mpq hpq tkpq Epq hvpq hCpq hxpq Fpq Npq offpq nepq; clear nepq; (first | lcg_open hvpq | (obtain ⟨t9pq, hv9pq⟩ := hvpq; subst hv9pq))) | refine LCg.CompRest.zero ?_))) | (with_unfolding_all first | (refine LCg.CompRest.succ ?_; intro vpq Ipq oIpq Cpq oCpq Dpq mpq hpq tkpq Epq hvpq hCpq hxpq Fpq Npq offpq nepq; clear nepq; (first | lcg_open hvpq | (obtain ⟨t9pq, hv9pq⟩ := hvpq; subst hv9pq))) | refine LCg.CompRest.zero ?_)); (try walk_say "OWN CompRest"))) | ((fail_if_success (goal_lacks LCg.FinE)); (with_reducible show LCg.FinE ..); ((first | (with_reducible (first | ((unfold LCg.FinE); intro Dpq hpq tkpq Fpq Npq o1pq; (try simp only [List.nil_append, List.cons_append] at Npq); (try dsimp only)))) | ((unfold LCg.FinE); intro Dpq hpq tkpq Fpq Npq o1pq; (try simp only [List.nil_append, List.cons_append] at Npq); (try dsimp only))); (try walk_say "OWN FinE"))) | ((fail_if_success (goal_lacks CRestC)); (with_reducible show CRestC ..); ((first | (with_reducible (first | (with_unfolding_all first | (refine CRestC.succ ?_; intro vpq Ipq oIpq Cpq oCpq cpq ocpq Dpq hpq tkpq Epq hvpq hdpq Fpq Npq offpq nepq offcpq; clear nepq; lcg_open hvpq) | refine CRestC.zero ?_))) | (with_unfolding_all first | (refine CRestC.succ ?_; intro vpq Ipq oIpq Cpq oCpq cpq ocpq Dpq hpq tkpq Epq hvpq hdpq Fpq Npq offpq nepq offcpq; clear nepq; lcg_open hvpq) | refine CRestC.zero ?_)); (try walk_say "OWN CRestC"))) | ((fail_if_success (goal_lacks RestC)); (with_reducible show RestC ..); ((first | (with_reducible (first | (k_dflt (refine restC_one (by with_reducible assumption) (by with_reducible assumption) ?_)))) | (k_dflt (refine restC_one (by with_reducible assumption) (by with_reducible assumption) ?_))); (try walk_say "OWN RestC"))) | walk1 | (dsimp only; walk1) | (dsimp only [List.cons_append, List.nil_append]; walk1)); skip) | ((with_reducible show wpAny _ _ _ _ _ _); dsimp only) | (leave1; walk_say "STEP leave1"; try dsimp only) | fail "no step"))
    all_goals (
      rename Fr g' _ _ _ => eF; rename News g' _ _ ((_, _) :: (_, W.listOf #[Value.ref _, Value.ref _] _) :: _) => eN
      rename MgNew _ _ _ _ _ _ _ _ _ _ _ _ _ => hM
      rename SayIs _ _ => hS
      (try simp only [List.push_toArray] at eN)
      k_dflt (refine' mg_end eF eN rfl ?of ?St ?hm)
      case St => first | exact S.next1 hM hS hp9 (by with_reducible assumption) (by with_reducible assumption) | exact S.next2 hM hS hp9 (by with_reducible assumption) (by with_reducible assumption)
      case of =>
        simp only [List.mem_cons, forall_eq_or_imp] at off ⊢
        obtain ⟨z0, z1, z2, z3, z4, z5, z6, z7, z8, z9, _⟩ := off
        exact ⟨z0, z1, z2, z3, z4, z5, z6, z7, z8, z9, by assumption⟩
      case hm => (intro z h1 h2 h3; k_dflt (simp only [mFr, if_neg h1, if_neg h2, if_neg h3])))
  case done =>
    intro u0 rs1 n1 rs2 n2 pt tl h tk S F' N'
    have hpl : ps.length ≤ 15 := hLd.2.1 ▸ hlen
    obtain ⟨e, o, R1, R2, hmem⟩ := S.rules
    rw [List.take_length] at hmem
    (repeat' (first | (k_unfold; (try dsimp only)) | (k_end; wrow_close) | ((first | ((fail_if_success (goal_lacks exec)); (with_reducible show wpAny _ _ (exec _ _) _ _ _); ((with_reducible show wpAny _ _ (exec (Stmt.For (Expr.Name ..) (Expr.Call ..) (_ :: _) [] _) _) _ _ _); (first | (with_reducible (first | (k_here; (rename Fr _ _ _ _ => lFpq); (with_unfolding_all refine' For_turns lFpq ?_; k_whole)))) | (k_here; (rename Fr _ _ _ _ => lFpq); (with_unfolding_all refine' For_turns lFpq ?_; k_whole))); (try walk_say "OWN exec For Name Call cons nil"))) | ((fail_if_success (goal_lacks subscriptTail)); (with_reducible show wpAny _ _ (subscriptTail _ _ _ _) _ _ _); (first | ((with_reducible show wpAny _ _ (subscriptTail (Expr.Name ..) (Expr.Name ..) (Value.ref _) (Value.int _ _)) _ _ _); (first | (with_reducible (first | (k_here; (with_reducible show wpAny _ _ (subscriptTail _ _ (Value.ref _) (Value.int _ _)) _ _ _); k_dflt (refine' sub_laid ?k1 ?k2 ?k3 ?k4 ?_ ?k6; (case k1 => k_asm); (case k2 => with_reducible assumption); (case k3 => omega); (case k4 => with_reducible assumption); (case k6 => with_unfolding_all rfl); k_whole); intro pb9q ta9q tb9q hT9q))) | (k_here; (with_reducible show wpAny _ _ (subscriptTail _ _ (Value.ref _) (Value.int _ _)) _ _ _); k_dflt (refine' sub_laid ?k1 ?k2 ?k3 ?k4 ?_ ?k6; (case k1 => k_asm); (case k2 => with_reducible assumption); (case k3 => omega); (case k4 => with_reducible assumption); (case k6 => with_unfolding_all rfl); k_whole); intro pb9q ta9q tb9q hT9q)); (try walk_say "OWN subscriptTail Name Name ref int")) | ((with_reducible show wpAny _ _ (subscriptTail (Expr.Name ..) (Expr.Constant ..) (Value.ref _) (Value.int _ _)) _ _ _); (first | (with_reducible (first | (k_here; (with_reducible show wpAny _ _ (subscriptTail _ _ (Value.ref _) (Value.int _ _)) _ _ _); k_dflt (refine' sub_at ?k1 ?k2 ?k4 ?k5 ?k3 ?_ ?k6; (case k1 => k_asm); (case k2 => k_mem); (case k4 => decide); (case k5 => decide); (case k3 => rfl); (case k6 => with_unfolding_all rfl); k_whole)))) | (k_here; (with_reducible show wpAny _ _ (subscriptTail _ _ (Value.ref _) (Value.int _ _)) _ _ _); k_dflt (refine' sub_at ?k1 ?k2 ?k4 ?k5 ?k3 ?_ ?k6; (case k1 => k_asm); (case k2 => k_mem); (case k4 => decide); (case k5 => decide); (case k3 => rfl); (case k6 => with_unfolding_all rfl); k_whole))); (try walk_say "OWN subscriptTail Name Constant ref int")) | ((with_reducible show wpAny _ _ (subscriptTail (Expr.Name ..) (Expr.BinOp ..) (Value.ref _) (Value.int _ _)) _ _ _); (first | (with_reducible (first | (k_here; (with_reducible show wpAny _ _ (subscriptTail _ _ (Value.ref _) (Value.int _ _)) _ _ _); k_dflt (refine' sub_book ?k1 ?k2 ?k3 ?_ ?_ ?k6; (case k1 => k_asm); (case k2 => k_mem); (case k3 => exact par2 _); (case k6 => with_unfolding_all rfl); k_whole) <;> intro hk9q))) | (k_here; (with_reducible show wpAny _ _ (subscriptTail _ _ (Value.ref _) (Value.int _ _)) _ _ _); k_dflt (refine' sub_book ?k1 ?k2 ?k3 ?_ ?_ ?k6; (case k1 => k_asm); (case k2 => k_mem); (case k3 => exact par2 _); (case k6 => with_unfolding_all rfl); k_whole) <;> intro hk9q)); (try walk_say "OWN subscriptTail Name BinOp ref int")))) | ((fail_if_success (goal_lacks binaryOp)); (with_reducible show wpAny _ _ (binaryOp _ _ _) _ _ _); ((with_reducible show wpAny _ _ (binaryOp Operator.Mult (Value.int _ _) (Value.int _ _)) _ _ _); (first | (with_reducible (first | (k_here; with_reducible refine mul_int ?_ (IntMulOk.of_left (by decide))))) | (k_here; with_reducible refine mul_int ?_ (IntMulOk.of_left (by decide)))); (try walk_say "OWN binaryOp Mult int int"))) | ((fail_if_success (goal_lacks eval)); (with_reducible show wpAny _ _ (eval _ _) _ _ _); (first | ((with_reducible show wpAny _ _ (eval (Expr.ListComp ..) _) _ _ _); (first | (with_reducible (first | ((with_reducible show wpAny _ _ (eval _ _) _ _ _); k_here; lcg_look; lcg_calm; k_dflt (refine LCg.ListComp_U (F₀ := by k_asm) (by rfl) (by decide) (by rfl) (by decide) (by rfl) ?_); k_dflt lcg_toSrc))) | ((with_reducible show wpAny _ _ (eval _ _) _ _ _); k_here; lcg_look; lcg_calm; k_dflt (refine LCg.ListComp_U (F₀ := by k_asm) (by rfl) (by decide) (by rfl) (by decide) (by rfl) ?_); k_dflt lcg_toSrc)); (try walk_say "OWN eval ListComp")) | ((with_reducible show wpAny _ _ (eval (Expr.Name ..) _) _ _ _); (first | (with_reducible (first | (k_here; (with_reducible show wpAny _ _ (eval (Expr.Name _ _) (compEnvC _ _ _ _)) _ _ _); k_dflt (refine' lcf_cell ?N ?c ?m ?d ?_ ?a ?b; (case a => rfl); (case b => rfl); (case N => k_asm); (case c => rfl); (case m => k_mem); (case d => with_reducible assumption); k_whole)) | (k_here; (with_reducible show wpAny _ _ (eval (Expr.Name _ _) (compEnvC _ _ _ _)) _ _ _); k_dflt (refine' LCgL.ld_own ?N ?m ?d ?x ?_ ?a ?b; (case a => rfl); (case b => rfl); (case N => k_asm); (case m => k_mem); (case d => with_reducible assumption); (case x => with_reducible assumption); k_whole)))) | (k_here; (with_reducible show wpAny _ _ (eval (Expr.Name _ _) (compEnvC _ _ _ _)) _ _ _); k_dflt (refine' lcf_cell ?N ?c ?m ?d ?_ ?a ?b; (case a => rfl); (case b => rfl); (case N => k_asm); (case c => rfl); (case m => k_mem); (case d => with_reducible assumption); k_whole)) | (k_here; (with_reducible show wpAny _ _ (eval (Expr.Name _ _) (compEnvC _ _ _ _)) _ _ _); k_dflt (refine' LCgL.ld_own ?N ?m ?d ?x ?_ ?a ?b; (case a => rfl); (case b => rfl); (case N => k_asm); (case m => k_mem); (case d => with_reducible assumption); (case x => with_reducible assumption); k_whole))); (try walk_say "OWN eval Name")))) | ((fail_if_success (goal_lacks call)); (with_reducible show wpAny _ _ (call _ _) _ _ _); (first | ((first | (with_reducible (first | k_extra "call ref")) | k_extra "call ref"); (try walk_say "OWN call ref")) | ((with_reducible show wpAny _ _ (call (Value.builtin "len") _) _ _ _); (first | (with_reducible (first | (k_here; (with_reducible show wpAny _ _ (call (Value.builtin "len") [Value.ref _]) _ _ _); k_dflt (refine' len_base ?k1 ?k2 ?k3 ?k4 ?_; (case k1 => k_asm); (case k2 => k_asm); (case k3 => with_reducible assumption); (case k4 => with_reducible assumption); k_whole); intro t9q tk9q))) | (k_here; (with_reducible show wpAny _ _ (call (Value.builtin "len") [Value.ref _]) _ _ _); k_dflt (refine' len_base ?k1 ?k2 ?k3 ?k4 ?_; (case k1 => k_asm); (case k2 => k_asm); (case k3 => with_reducible assumption); (case k4 => with_reducible assumption); k_whole); intro t9q tk9q)); (try walk_say "OWN call builtin:len")) | ((with_reducible show wpAny _ _ (call (Value.type "range") _) _ _ _); (first | (with_reducible (first | ((with_reducible show wpAny _ _ (call (Value.type "range") [Value.int _ _]) _ _ _); (rename Fr _ _ _ _ => Fpq); (rename News _ _ _ _ => Npq); (with_unfolding_all refine range1_rows Fpq Npq ?_; intro hpq tkpq tapq tbpq tcpq hrpq Fpq Npq hkpq); clear hkpq))) | ((with_reducible show wpAny _ _ (call (Value.type "range") [Value.int _ _]) _ _ _); (rename Fr _ _ _ _ => Fpq); (rename News _ _ _ _ => Npq); (with_unfolding_all refine range1_rows Fpq Npq ?_; intro hpq tkpq tapq tbpq tcpq hrpq Fpq Npq hkpq); clear hkpq)); (try walk_say "OWN call type:range")))) | ((fail_if_success (goal_lacks InvEndN)); (with_reducible show InvEndN ..); (repeat clear qk); (repeat clear ek); ((first | (with_reducible (first | k_dflt kst_close)) | k_dflt kst_close); (try walk_say "OWN InvEndN"))) | ((fail_if_success (goal_lacks LCg.CompEnd)); (with_reducible show LCg.CompEnd ..); ((first | (with_reducible (first | first | (k_dflt (refine' ce_int ?a1 ?a2 ?a3 ?a4 ?_; (case a1 => k_asm); (case a2 => k_asm); (case a3 => with_reducible assumption); (case a4 => first | exact True.intro | lcg_src)); intro z9q hz9q) | (k_dflt (refine' ce_same ?a1 ?a2 ?a3 ?a4 ?_; (case a1 => k_asm); (case a2 => k_asm); (case a3 => with_reducible assumption); (case a4 => first | exact True.intro | lcg_src))) | (k_dflt (refine' ce_one ?a1 ?a2 ?a3 ?a5 ?a4 ?_; (case a1 => k_asm); (case a2 => k_asm); (case a3 => with_reducible assumption); (case a5 => with_reducible assumption); (case a4 => first | exact True.intro | lcg_src))) | k_dflt lcg_end)) | first | (k_dflt (refine' ce_int ?a1 ?a2 ?a3 ?a4 ?_; (case a1 => k_asm); (case a2 => k_asm); (case a3 => with_reducible assumption); (case a4 => first | exact True.intro | lcg_src)); intro z9q hz9q) | (k_dflt (refine' ce_same ?a1 ?a2 ?a3 ?a4 ?_; (case a1 => k_asm); (case a2 => k_asm); (case a3 => with_reducible assumption); (case a4 => first | exact True.intro | lcg_src))) | (k_dflt (refine' ce_one ?a1 ?a2 ?a3 ?a5 ?a4 ?_; (case a1 => k_asm); (case a2 => k_asm); (case a3 => with_reducible assumption); (case a5 => with_reducible assumption); (case a4 => first | exact True.intro | lcg_src))) | k_dflt lcg_end); (try walk_say "OWN CompEnd"))) | ((fail_if_success (goal_lacks LCg.CompRest)); (with_reducible show LCg.CompRest ..); ((first | (with_reducible (first | (with_unfolding_all first | (refine LCg.CompRest.succ ?_; intro vpq Ipq oIpq Cpq oCpq Dpq mpq hpq tkpq Epq hvpq hCpq hxpq Fpq Npq offpq nepq; clear nepq; (first | lcg_open hvpq | (obtain ⟨t9pq, hv9pq⟩ := hvpq; subst hv9pq))) | refine LCg.CompRest.zero ?_))) | (with_unfolding_all first | (refine LCg.CompRest.succ ?_; intro vpq Ipq oIpq Cpq oCpq Dpq mpq hpq tkpq Epq hvpq hCpq hxpq Fpq Npq offpq nepq; clear nepq; (first | lcg_open hvpq | (obtain ⟨t9pq, hv9pq⟩ := hvpq; subst hv9pq))) | refine LCg.CompRest.zero ?_)); (try walk_say "OWN CompRest"))) | ((fail_if_success (goal_lacks LCg.FinE)); (with_reducible show LCg.FinE ..); ((first | (with_reducible (first | ((unfold LCg.FinE); intro Dpq hpq tkpq Fpq Npq o1pq; (try simp only [List.nil_append, List.cons_append] at Npq); (try dsimp only)))) | ((unfold LCg.FinE); intro Dpq hpq tkpq Fpq Npq o1pq; (try simp only [List.nil_append, List.cons_append] at Npq); (try dsimp only))); (try walk_say "OWN FinE"))) | ((fail_if_success (goal_lacks CRestC)); (with_reducible show CRestC ..); ((first | (with_reducible (first | (with_unfolding_all first | (refine CRestC.succ ?_; intro vpq Ipq oIpq Cpq oCpq cpq ocpq Dpq hpq tkpq Epq hvpq hdpq Fpq Npq offpq nepq offcpq; clear nepq; lcg_open hvpq) | refine CRestC.zero ?_))) | (with_unfolding_all first | (refine CRestC.succ ?_; intro vpq Ipq oIpq Cpq oCpq cpq ocpq Dpq hpq tkpq Epq hvpq hdpq Fpq Npq offpq nepq offcpq; clear nepq; lcg_open hvpq) | refine CRestC.zero ?_)); (try walk_say "OWN CRestC"))) | ((fail_if_success (goal_lacks RestC)); (with_reducible show RestC ..); ((first | (with_reducible (first | (k_dflt (refine restC_one (by with_reducible assumption) (by with_reducible assumption) ?_)))) | (k_dflt (refine restC_one (by with_reducible assumption) (by with_reducible assumption) ?_))); (try walk_say "OWN RestC"))) | walk1 | (dsimp only; walk1) | (dsimp only [List.cons_append, List.nil_append]; walk1)); skip) | ((with_reducible show wpAny _ _ _ _ _ _); dsimp only) | (leave1; walk_say "STEP leave1"; try dsimp only) | fail "no step"))
    rename Fr h₀ L _ m => kF; rename News h₀ L _ _ => kN; rename Fr g' _ _ _ => kF'
    k_dflt (refine' ret _ _ _ _ _ _ _ kF (KZ _ _ _ kF' kN) ?kD ?kb1 ?kb2 ?kt)
    case kt => k_dflt exact ⟨_, by k_mem⟩
    case kD => k_dflt k_mem
    case kb1 => k_dflt exact ⟨_, _, _, _, _, _, e ++ o, by k_mem, by k_mem, by assumption, by assumption, by k_mem, (R1.append R2).mono fun q hq => (by repeat (first | exact hq | refine List.Mem.tail _ ?_)), fun r => by rw [List.mem_append]; exact hmem r⟩
    case kb2 => k_dflt exact ⟨_, _, _, _, _, _, o ++ e, by k_mem, by k_mem, by assumption, by assumption, by k_mem, (R2.append R1).mono fun q hq => (by repeat (first | exact hq | refine List.Mem.tail _ ?_)), fun r => by rw [List.mem_append, or_comm]; exact hmem r⟩
end Mine
end -- part Merges
section -- part LawL
open PySem PySem.W PyProof.Rows PySem.Calls PySem.Spec PyProof.V
set_option maxRecDepth 100000
set_option maxHeartbeats 2000000
namespace Mine
section
variable {prog : Program} {w : World} {A : Around} {E : Value → Shared → Prop} {s : Shared} {h₀ : Heap} {L b c : Addr} {m : Str → Option Value} {news : List (Addr × Obj)} {vs us : List Value} {ns ms : List Int} {n k : Nat} {Q : Value → Shared → Prop}
theorem rows_ne (N : News h₀ L s.heap news) (hb : (b, W.listOf vs.toArray n) ∈ news) (hi : IntsAre vs ns) (hc : (c, W.listOf us.toArray k) ∈ news) (hj : IntsAre us ms) (hu : A.units + 64 < cLine) (e : ns = ms) (h : Q (.bool false) s) : wpAny (model prog w) A (compareOp .NotEq (.ref b) (.ref c)) Q E s := by
  refine ne_intsK (PySem.IsL.isList (n := n) (N _ hb).1) hi (PySem.IsL.isList (n := k) (N _ hc).1) hj hu ?_
  rw [e]
  simpa using h
theorem len_led (N : News h₀ L s.heap news) (hb : (b, W.listOf vs.toArray n) ∈ news) (hv : vs.length ≤ 15) (h : ∀ t tk, Q (.int (vs.length : Int) t) { s with toks := tk }) : wpAny (model prog w) A (call (.builtin "len") [.ref b]) Q E s := by
  have e : vs.toArray.size = vs.length := by simp
  refine len_list (PySem.IsL.isList (n := n) (N _ hb).1) (by rw [e]; omega) ?_
  rw [e]
  exact h _ _
theorem ne_int_same {x y : Int} {t u : Tok} (e : x = y) (h : Q (.bool false) s) : wpAny (model prog w) A (compareOp .NotEq (.int x t) (.int y u)) Q E s := by
  refine ne_int ?_
  subst e
  simpa using h
theorem ne_bool_same {x : Bool} (h : Q (.bool false) s) : wpAny (model prog w) A (compareOp .NotEq (.bool x) (.bool x)) Q E s := by
  refine ne_bool ?_
  simpa using h
theorem ne_str_same {x : Str} {t u : Tok} (h : Q (.bool false) s) : wpAny (model prog w) A (compareOp .NotEq (.str x t) (.str x u)) Q E s := by
  refine ne_str ?_
  simpa using h
theorem say_ne {z : Int} {x y : Value} (hx : SayIs z x) (hy : SayIs z y) (h : Q (.bool false) s) : wpAny (model prog w) A (compareOp .NotEq x y) Q E s := by
  rcases hx with ⟨e, rfl⟩ | ⟨e, rfl⟩ | ⟨e, t, rfl⟩ | ⟨e, t, rfl⟩ <;> subst e <;> rcases hy with ⟨e2, rfl⟩ | ⟨e2, rfl⟩ | ⟨e2, u, rfl⟩ | ⟨e2, u, rfl⟩ <;> first
    | exact absurd e2 (by decide)
    | with_reducible exact ne_bool_same h
    | with_reducible exact ne_str_same h
theorem say_isb {z : Int} {x : Value} (hx : SayIs z x) (h : ∀ tk, Q (.bool (decide (z = 0 ∨ z = 1))) { s with toks := tk }) : wpAny (model prog w) A (call (.builtin "isinstance") [x, .type "bool"]) Q E s := by
  rcases hx with ⟨rfl, rfl⟩ | ⟨rfl, rfl⟩ | ⟨rfl, t, rfl⟩ | ⟨rfl, t, rfl⟩
  · exact PySem.IsiPair.bool_bool (h _)
  · exact PySem.IsiPair.bool_bool (h _)
  · exact PySem.IsiPair.str_bool (h _)
  · exact PySem.IsiPair.str_bool (h _)
end
theorem news_mid {h₀ h : Heap} {L : Addr} {q : Addr × Obj} {A B : List (Addr × Obj)} (N : News h₀ L h (q :: (A ++ B))) : News h₀ L h (q :: (B ++ A)) :=
  newsPick N (List.forall_mem_cons.mpr ⟨.head _, fun p hp => .tail _ ((List.mem_append.mp hp).elim (fun h => List.mem_append.mpr (.inr h)) fun h => List.mem_append.mpr (.inl h))⟩)
theorem law_loop1 {prog : Program} {w : World} {A : Around} {E : Value → Shared → Prop} {s : Shared} {env : Env} {h₀ : Heap} {x : Str} {px : Pos} {body : List Stmt} {Q : Flow → Shared → Prop} {r : Addr} {t u v : Tok} {m₀ : Str → Option Value} {all tl : List (Addr × Obj)} {cn cm cc RA ma mc ta : Addr} {on om oc : Obj} {vn : Option Value} {rvs mvs cvs tvs : List Value} {n1 n2 n3 n4 : Nat} {rs : List (List Int)}
    (hh : A.handled = none) (hr : IsRange s.heap r 1 16 1 t u v) (F : Fr h₀ env.locals s.heap m₀) (N : News h₀ env.locals s.heap all) (hRA : (RA, W.listOf rvs.toArray n3) ∈ all) (hma : (ma, W.listOf mvs.toArray n1) ∈ all) (hmc : (mc, W.listOf cvs.toArray n2) ∈ all) (hta : (ta, W.listOf tvs.toArray n4) ∈ all)
    (hcn : (cn, on) ∈ all) (hcm : (cm, om) ∈ all) (hcc : (cc, oc) ∈ all) (h180 : (180, tabObj #[]) ∈ all) (don : on.data = .cell vn) (hR : RowsAre tl rvs rs) (hft : m₀ (Str.ofString "table") = some (.ref ta)) (hfr : m₀ (Str.ofString "rows") = some (.ref RA)) (dom : om.data = .cell (some (.ref ma))) (doc : oc.data = .cell (some (.ref mc))) (ncm : @Ne Nat cm cn) (ncc : @Ne Nat cc cn) (nct : @Ne Nat 180 cn) (htl : ∀ p ∈ tl, p ∈ all)
    (turn : ∀ (k : Int) t on vn h tk I oI, 1 ≤ k → k < 16 → on.data = .cell vn → Fr h₀ env.locals h m₀ → News h₀ env.locals h ((I, oI) :: (cn, on) :: (RA, W.listOf rvs.toArray n3) :: (ma, W.listOf mvs.toArray n1) :: (mc, W.listOf cvs.toArray n2) :: (ta, W.listOf tvs.toArray n4) :: (cm, om) :: (cc, oc) :: (180, tabObj #[]) :: tl.filter isSeq) →
      LCg.Off1 I ((cn, on) :: (RA, W.listOf rvs.toArray n3) :: (ma, W.listOf mvs.toArray n1) :: (mc, W.listOf cvs.toArray n2) :: (ta, W.listOf tvs.toArray n4) :: (cm, om) :: (cc, oc) :: (180, tabObj #[]) :: tl.filter isSeq) →
      (∀ p ∈ (RA, W.listOf rvs.toArray n3) :: (ma, W.listOf mvs.toArray n1) :: (mc, W.listOf cvs.toArray n2) :: (ta, W.listOf tvs.toArray n4) :: (cm, om) :: (cc, oc) :: (180, tabObj #[]) :: tl.filter isSeq, p.1 ≠ cn) → (∀ p ∈ tl.filter isSeq, p.1 ≠ cn) →
      wpAny (model prog w) A (assign (.Name x px) env (.int k t)) (fun _ s₂ => wpAny (model prog w) A (execs body env) (TnPost h₀ env.locals I oI (fun m nx => m = m₀ ∧ ∃ on, (∃ v, on.data = .cell v) ∧ nx = (cn, on) :: (RA, W.listOf rvs.toArray n3) :: (ma, W.listOf mvs.toArray n1) :: (mc, W.listOf cvs.toArray n2) :: (ta, W.listOf tvs.toArray n4) :: (cm, om) :: (cc, oc) :: (180, tabObj #[]) :: tl.filter isSeq) { s with heap := h, toks := tk } Q) E s₂) E { s with heap := h, toks := tk })
    (done : ∀ on vn h tk, on.data = .cell vn → Fr h₀ env.locals h m₀ → News h₀ env.locals h ((cn, on) :: (RA, W.listOf rvs.toArray n3) :: (ma, W.listOf mvs.toArray n1) :: (mc, W.listOf cvs.toArray n2) :: (ta, W.listOf tvs.toArray n4) :: (cm, om) :: (cc, oc) :: (180, tabObj #[]) :: tl.filter isSeq) → Q .next { s with heap := h, toks := tk }) :
    wpAny (model prog w) A (pyIter (.ref r)) (fun it s₂ => TurnsAt prog w A h₀ env (.Name x px) body Q E it s₂) E s := by
  have sq : ∀ p ∈ all, isSeq p = true → p.1 ≠ cn := fun p hp hs => seq_ne_cell N hcn don hp hs
  have hsub : ∀ p ∈ tl.filter isSeq, p ∈ all ∧ p.1 ≠ cn := fun p hp => ⟨htl p (List.mem_filter.mp hp).1, sq p (htl p (List.mem_filter.mp hp).1) (List.mem_filter.mp hp).2⟩
  have hrest : ∀ p ∈ (RA, W.listOf rvs.toArray n3) :: (ma, W.listOf mvs.toArray n1) :: (mc, W.listOf cvs.toArray n2) :: (ta, W.listOf tvs.toArray n4) :: (cm, om) :: (cc, oc) :: (180, tabObj #[]) :: tl.filter isSeq, p ∈ all ∧ p.1 ≠ cn :=
    List.forall_mem_cons.mpr ⟨⟨hRA, sq _ hRA rfl⟩, List.forall_mem_cons.mpr ⟨⟨hma, sq _ hma rfl⟩, List.forall_mem_cons.mpr ⟨⟨hmc, sq _ hmc rfl⟩, List.forall_mem_cons.mpr ⟨⟨hta, sq _ hta rfl⟩, List.forall_mem_cons.mpr ⟨⟨hcm, ncm⟩, List.forall_mem_cons.mpr ⟨⟨hcc, ncc⟩, List.forall_mem_cons.mpr ⟨⟨h180, nct⟩, hsub⟩⟩⟩⟩⟩⟩⟩
  refine tn_cell1 (n := 15) hh hr (by decide) rfl F N hcn don hrest ?_ ?_
  · intro i k t on vn h tk I oI hi hk d F' N' off hp
    exact turn k t on vn h tk I oI (by omega) (by omega) d F' N' off hp fun p hp' => hp p (by simp only [List.mem_cons]; grind)
  · intro on vn h tk d F' N'
    exact done on vn h tk d F' N'
theorem law1_end {h₀ h' : Heap} {L I cn : Addr} {oI on' : Obj} {m₀ : Str → Option Value} {s₁ : Shared} {tk : Nat} {rest nx : List (Addr × Obj)} {v : Option Value} (F : Fr h₀ L h' m₀) (N : News h₀ L h' nx) (hs : ∀ p ∈ (I, oI) :: (cn, on') :: rest, p ∈ nx) (d : on'.data = .cell v) {off0 : List (Addr × Obj)} {on : Obj} (off : LCg.Off1 I ((cn, on) :: rest)) :
    TnEnd h₀ L I oI (fun m nx => m = m₀ ∧ ∃ on, (∃ v, on.data = .cell v) ∧ nx = (cn, on) :: rest) s₁ { s₁ with heap := h', toks := tk } := by
  have o := off1_mem off
  refine TnEnd.intro F (newsPick N hs) (fun p hp => ?_) ⟨rfl, on', ⟨v, d⟩, rfl⟩
  rcases List.mem_cons.mp hp with rfl | hp
  · exact o (cn, on) (.head _)
  · exact o p (.tail _ hp)
theorem row_law {ms cs : List Int} {rs : List (List Int)} {k z0 z1 z2 z3 : Int} (h : ∀ n, 1 ≤ n → n < 16 → rs.getD n [] = rowF ms cs n) (h1 : 1 ≤ k) (h2 : k < 16)
    (e0 : EqZ z0 (cs.getD k.toNat 0 + 1 - ((ms.getD k.toNat 0).fdiv (2 ^ ((0 : Int)).toNat)).fmod 2)) (e1 : EqZ z1 (cs.getD k.toNat 0 + 1 - ((ms.getD k.toNat 0).fdiv (2 ^ ((1 : Int)).toNat)).fmod 2)) (e2 : EqZ z2 (cs.getD k.toNat 0 + 1 - ((ms.getD k.toNat 0).fdiv (2 ^ ((2 : Int)).toNat)).fmod 2)) (e3 : EqZ z3 (cs.getD k.toNat 0 + 1 - ((ms.getD k.toNat 0).fdiv (2 ^ ((3 : Int)).toNat)).fmod 2)) :
    rs.getD k.toNat [] = [z0, z1, z2, z3] := by
  rw [h k.toNat (by omega) (by omega), e0.eq, e1.eq, e2.eq, e3.eq]
  rfl
/-- what is known of the masks and the counts -/
structure LawP (a : List Int) (ms cs : List Int) (rs : List (List Int)) : Prop where
  rows : ∀ n, 1 ≤ n → n < 16 → rs.getD n [] = rowF ms cs n
  len : ∀ turn : Int, 0 ≤ turn ∧ turn < 4 → ((layN ms turn 4 1 0).length : Int) = (rs.getD 1 []).getD 0 0
  rng : ∀ turn : Int, 0 ≤ turn ∧ turn < 4 → ∀ x y, (x, y) ∈ layN ms turn 4 1 0 → 1 ≤ x ∧ x < 16 ∧ 0 ≤ y ∧ y < 4
  say : ∀ turn : Int, 0 ≤ turn ∧ turn < 4 → ∀ p : Nat, p < 8 → ∀ sfx : Str, sfx = Str.ofString "" ∨ sfx = Str.ofString "/ab" → ∀ qs : List (Int × Int), (∀ r, r ∈ qs ↔ r ∈ layN ms turn 4 1 0) → (qs.foldl (stepA fun y => wS (frontS y) (frontS ((8 + p : Nat) : Int) ++ sfx)) (-1, 0)).2 = a.getD p 0
  b : ∀ p : Nat, p < 8 → 0 ≤ a.getD p 0 ∧ a.getD p 0 < 4
theorem lawP_of {a0 a1 a2 a3 a4 a5 a6 a7 : Int} {ms cs : List Int} {rs : List (List Int)} (b0 : In4 a0) (b1 : In4 a1) (b2 : In4 a2) (b3 : In4 a3) (b4 : In4 a4) (b5 : In4 a5) (b6 : In4 a6) (b7 : In4 a7)
    (hm : (ms, cs) = (downKs 7 7).foldl msStep (mk16 a0 a1 a2 a3 a4 a5 a6 a7, ct16)) (hr : rs = (downKs 7 7).foldl fewStep (few0 a0 a1 a2 a3 a4 a5 a6 a7)) : LawP [a0, a1, a2, a3, a4, a5, a6, a7] ms cs rs := by
  have M := mOk_of hm
  have R := mRange_of M b0 b1 b2 b3 b4 b5 b6 b7
  have rows := few_rows M R b0 b1 b2 b3 b4 b5 b6 b7 hr
  have hb : ∀ p : Nat, p < 8 → 0 ≤ [a0, a1, a2, a3, a4, a5, a6, a7].getD p 0 ∧ [a0, a1, a2, a3, a4, a5, a6, a7].getD p 0 < 4 := by
    intro p hp
    have hc := nat8 p hp
    rcases hc with rfl | rfl | rfl | rfl | rfl | rfl | rfl | rfl
    · exact b0
    · exact b1
    · exact b2
    · exact b3
    · exact b4
    · exact b5
    · exact b6
    · exact b7
  have rng : ∀ turn : Int, 0 ≤ turn ∧ turn < 4 → ∀ x y, (x, y) ∈ layN ms turn 4 1 0 → ∃ z : Nat, x = (z : Int) ∧ 1 ≤ z ∧ z < 16 ∧ In4 y := by
    intro turn ht x y h
    obtain ⟨z, e, z1, z2, hy, _⟩ := lay_mem R ht 4 1 0 x y (by decide) (by decide) (by decide) h
    exact ⟨z, e, z1, z2, hy⟩
  refine ⟨rows, fun turn ht => ?_, fun turn ht x y h => ?_, fun turn ht p hp sfx hs qs hq => ?_, hb⟩
  · have e := len_lay M R ht 4 1 0 (by decide) (by decide) (by decide) (by decide)
    rw [rows 1 (by decide) (by decide)]
    exact e
  · obtain ⟨z, e, z1, z2, y1, y2⟩ := rng turn ht x y h
    exact ⟨by omega, by omega, y1, y2⟩
  · have hm8 : ms.getD (8 + p) 0 = 1 * 2 ^ ([a0, a1, a2, a3, a4, a5, a6, a7].getD p 0).toNat := by
      have hc := nat8 p hp
      rcases hc with rfl | rfl | rfl | rfl | rfl | rfl | rfl | rfl
      · exact M.m8
      · exact M.m9
      · exact M.m10
      · exact M.m11
      · exact M.m12
      · exact M.m13
      · exact M.m14
      · exact M.m15
    have h13 : (8 + p) / 2 ^ 3 = 1 := by omega
    have D := lay_deep (q := 8 + p) R ht (hb p hp) (by omega) (by omega) hm8 4 1 3 0 (by decide) (by decide) (by decide) (by decide) h13
    refine allow_pure (q := 8 + p) (wOk_of hp hs) (fun r hr => ?_) (D.congr hq)
    obtain ⟨z, e, z1, z2, _⟩ := rng turn ht r.1 r.2 ((hq r).mp hr)
    exact ⟨z, e, z1, z2⟩
end Mine
end -- part LawL
section -- part LawL2
open PySem PySem.W PyProof.Rows
set_option maxRecDepth 100000
set_option maxHeartbeats 2000000
namespace Mine
theorem book_method (w : World) (p : Program) (loose : List Str) (mean : ExcName → Option Value) (mg mb : Str → Option Value) : ∀ {y : Addr} {ps : List (Int × Int)} {nw : List (Addr × Obj)} {pl : Sem Bool} {A : Around} {h₀ : Heap} {L : Addr} {m : Str → Option Value} {news : List (Addr × Obj)} {s : Shared} {E : Value → Shared → Prop} {Q : Value × List Value → Shared → Prop} (hB : BookIs w p loose mean mg mb nw y ps) (F : Fr h₀ L s.heap m) (X : (hd.heap_1 w.params).In h₀) (N : News h₀ L s.heap news) (hs : ∀ q ∈ nw, q ∈ news) (h : Q (.ref 49, [.ref y]) s),
    wpAny (model Challenge.rw_rl0031_01.row.prog w) A (getMethod (.ref y) (Str.ofString "allowance") pl) Q E s := by
  k_fill
  k_with_none
  intro y ps nw pl A h₀ L m news s E Q hB F X N hs h
  obtain ⟨d, es, ne, la, rs, n, qs, h1, h2, h3, h4, h5, h6, h7⟩ := hB
  k_dflt (refine' method_inst F X (InstAt.of_news N (hs _ h1) (hs _ h2)) ?k4 ?k5 ?k6 h4 h; (case k4 => k_is); (case k5 => k_is); (case k6 => k_is))
theorem book_allow (w : World) (p : Program) (loose : List Str) (mean : ExcName → Option Value) (mg mb : Str → Option Value) {y : Addr} {ps : List (Int × Int)} {nw : List (Addr × Obj)} {nm : Str} {t0 : Tok} {z : Int} {dp un : Nat} {gd : Option (List Code)} {cn : Str} {cs : Scope} {a : Addr} {ccd : Value} {cl : List (Str × Addr)} {outer : List Env} {A₀ : Around} {base h₀ : Heap} {L : Addr} {m : Str → Option Value} {news : List (Addr × Obj)} {s : Shared} {Q E : Value → Shared → Prop}
    (B : Below A₀ base outer h₀) (F : Fr h₀ L s.heap m) (X : (hd.heap_1 w.params).In h₀) (N : News h₀ L s.heap news) (T : Top p loose mean mg mb h₀) (hk : cs.kind = .function)
    (hB : BookIs w p loose mean mg mb nw y ps) (hs : ∀ q ∈ nw, q ∈ news) (hnm : nm.length ≤ 100) (hpure : ∀ qs : List (Int × Int), (∀ r, r ∈ qs ↔ r ∈ ps) → (qs.foldl (stepA fun y => wS (frontS y) nm) (-1, 0)).2 = z)
    (hd : dp + 20 < recursionLimit) (hu : un + 8 * 20 < cLine)
    (ret : ∀ sv h' tk', SayIs z sv → Fr h₀ L h' m → News h₀ L h' news → Q sv { s with heap := h', toks := tk' }) :
    wpAny (model Challenge.rw_rl0031_01.row.prog w) (ktrTop dp un gd cn cs L a ccd cl outer) (call (.ref 49) [.ref y, .str nm t0]) Q E s := by
  obtain ⟨d, es, ne, la, rs, n, qs, h1, h2, h3, h4, h5, h6, h7⟩ := hB
  exact allow_spec w p loose mean mg mb B F X N T hk (hs _ h1) (hs _ h2) h3 (hs _ h5) (h6.mono hs) hnm hd hu fun sv h' tk' hS F' N' => ret sv h' tk' (hpure qs h7 ▸ hS) F' N'
theorem fmod4 (e : Int) : 0 ≤ e.fmod 4 ∧ e.fmod 4 < 4 := by
  rw [Int.fmod_eq_emod_of_nonneg _ (by decide)]; omega
theorem law_len {l : List (Addr × Obj)} {vs : List Value} {a ms cs : List Int} {rs : List (List Int)} {turn : Int} (hp : PairsAre l vs (layN ms turn 4 1 0)) (H : LawP a ms cs rs) (ht : 0 ≤ turn ∧ turn < 4) : (vs.length : Int) = (rs.getD 1 []).getD 0 0 := by
  rw [hp.length]; exact H.len turn ht
theorem LawP.len4 {a ms cs : List Int} {rs : List (List Int)} (H : LawP a ms cs rs) : (rs.getD ((1 : Int)).toNat []).length = 4 := by
  rw [show ((1 : Int)).toNat = 1 from rfl, H.rows 1 (by decide) (by decide)]; rfl
theorem LawP.lt4 {a ms cs : List Int} {rs : List (List Int)} (H : LawP a ms cs rs) : (0 : Int) < ((rs.getD ((1 : Int)).toNat []).length : Int) := by
  rw [H.len4]; decide
theorem say_of {a ms cs : List Int} {rs : List (List Int)} {e : Int} {nm : Str} (H : LawP a ms cs rs) (p : Nat) (hp : p < 8) (sfx : Str) (hs : sfx = Str.ofString "" ∨ sfx = Str.ofString "/ab") (hn : nm = frontS ((8 + p : Nat) : Int) ++ sfx) : ∀ qs : List (Int × Int), (∀ r, r ∈ qs ↔ r ∈ layN ms (e.fmod 4) 4 1 0) → (qs.foldl (stepA fun y => wS (frontS y) nm) (-1, 0)).2 = a.getD p 0 := by
  subst hn
  exact H.say _ (fmod4 e) p hp sfx hs
theorem unr_end {h₀ h' : Heap} {L I : Addr} {oI : Obj} {s₁ : Shared} {tk : Nat} {m' : Str → Option Value} {all news' : List (Addr × Obj)} {P : (Str → Option Value) → List (Addr × Obj) → Prop} (F : Fr h₀ L h' m') (N : News h₀ L h' all) (hs : ∀ p ∈ (I, oI) :: news', p ∈ all) (off : ∀ p ∈ news', p.1 < I) (h0 : SubL [] news') (r : P m' news') :
    UnrEndW h₀ L s₁ [(I, oI)] (fun m' n' => SubL [] n' ∧ P m' n') { s₁ with heap := h', toks := tk } :=
  ⟨h', tk, m', news', rfl, F, fun p hp => N p (hs p hp), fun p hp q hq e => by
    rw [List.mem_singleton.mp hq] at e
    exact Nat.lt_irrefl _ (e ▸ off p hp), h0, r⟩
theorem law_pick {h₀ h : Heap} {L D : Addr} {o : Obj} {q : Addr × Obj} {nw : List (Addr × Obj)} {pt : Array Value} (N : News h₀ L h (nw ++ [q])) (hD : (D, o) ∈ nw) (hT : (180, tabObj pt) ∈ nw) : News h₀ L h (q :: (D, o) :: (180, tabObj pt) :: nw) :=
  newsPick N (List.forall_mem_cons.mpr ⟨List.mem_append.mpr (.inr (.head _)), List.forall_mem_cons.mpr ⟨List.mem_append.mpr (.inl hD), List.forall_mem_cons.mpr ⟨List.mem_append.mpr (.inl hT), fun p hp => List.mem_append.mpr (.inl hp)⟩⟩⟩)
end Mine
end -- part LawL2
section -- part LawL3
open PySem PySem.W PyProof.Rows PySem.Calls PySem.Spec PyProof.V
set_option maxRecDepth 100000
set_option maxHeartbeats 2000000
namespace Mine
theorem fmod2 (e : Int) : e.fmod 2 = 0 ∨ e.fmod 2 = 1 := by
  rw [Int.fmod_eq_emod_of_nonneg _ (by decide)]; omega
def lFr (u m₀ : Str → Option Value) : Str → Option Value :=
  fun z => if z = Str.ofString "place" then u z else if z = Str.ofString "due" then u z else if z = Str.ofString "name" then u z else if z = Str.ofString "said" then u z else m₀ z
def LawM (m₀ m' : Str → Option Value) : Prop := ∀ z, z ≠ Str.ofString "place" → z ≠ Str.ofString "due" → z ≠ Str.ofString "name" → z ≠ Str.ofString "said" → m' z = m₀ z
theorem LawM.frame {m₀ m' : Str → Option Value} (h : LawM m₀ m') : m' = lFr m' m₀ := by
  funext z
  unfold lFr
  by_cases e1 : z = Str.ofString "place"
  · rw [if_pos e1]
  by_cases e2 : z = Str.ofString "due"
  · rw [if_neg e1, if_pos e2]
  by_cases e3 : z = Str.ofString "name"
  · rw [if_neg e1, if_neg e2, if_pos e3]
  by_cases e4 : z = Str.ofString "said"
  · rw [if_neg e1, if_neg e2, if_neg e3, if_pos e4]
  rw [if_neg e1, if_neg e2, if_neg e3, if_neg e4, h z e1 e2 e3 e4]
theorem law_loop2 {prog : Program} {w : World} {A : Around} {E : Value → Shared → Prop} {s : Shared} {env : Env} {h₀ : Heap} {x : Str} {px : Pos} {body : List Stmt} {Q : Flow → Shared → Prop} {r : Addr} {t u v : Tok} {m₀ : Str → Option Value} {news : List (Addr × Obj)}
    (hh : A.handled = none) (hr : IsRange s.heap r 0 8 1 t u v) (F : Fr h₀ env.locals s.heap m₀) (N : News h₀ env.locals s.heap news)
    (turn : ∀ (i : Nat) t u h tk I oI, i < 8 → Fr h₀ env.locals h (lFr u m₀) → News h₀ env.locals h ((I, oI) :: news) → (∀ p ∈ news, p.1 ≠ I) →
      wpAny (model prog w) A (assign (.Name x px) env (.int (i : Int) t)) (fun _ s₂ => wpAny (model prog w) A (execs body env) (TnPost h₀ env.locals I oI (fun m' nx => nx = news ∧ LawM m₀ m') { s with heap := h, toks := tk } Q) E s₂) E { s with heap := h, toks := tk })
    (done : ∀ u h tk, Fr h₀ env.locals h (lFr u m₀) → News h₀ env.locals h news → Q .next { s with heap := h, toks := tk }) :
    wpAny (model prog w) A (pyIter (.ref r)) (fun it s₂ => TurnsAt prog w A h₀ env (.Name x px) body Q E it s₂) E s := by
  refine tn_range (n := 8) (fun i m nx => nx = news ∧ LawM m₀ m) hh hr (by decide) rfl F N ⟨rfl, fun _ _ _ _ _ => rfl⟩ ?_ ?_
  · rintro i t m₁ nx h tk I oI hi ⟨rfl, hM⟩ F₁ N₁ off _
    rw [hM.frame] at F₁
    have e : (0 : Int) + (i : Int) * 1 = (i : Int) := by omega
    rw [e]
    exact turn i t m₁ h tk I oI hi F₁ N₁ off
  · rintro m₁ nx h tk ⟨rfl, hM⟩ F₁ N₁
    rw [hM.frame] at F₁
    exact done m₁ h tk F₁ N₁
theorem law2_end {h₀ h' : Heap} {L I : Addr} {oI : Obj} {m₀ m' : Str → Option Value} {s₁ : Shared} {tk : Nat} {news nx : List (Addr × Obj)}
    (F : Fr h₀ L h' m') (N : News h₀ L h' nx) (hI : (I, oI) ∈ nx) (hn : ∀ p ∈ news, p ∈ nx) (off : ∀ p ∈ news, p.1 ≠ I)
    (hz : ∀ z, z ≠ Str.ofString "place" → z ≠ Str.ofString "due" → z ≠ Str.ofString "name" → z ≠ Str.ofString "said" → m' z = m₀ z) :
    TnEnd h₀ L I oI (fun m' nx => nx = news ∧ LawM m₀ m') s₁ { s₁ with heap := h', toks := tk } :=
  ⟨h', tk, m', news, rfl, F, newsPick N (List.forall_mem_cons.mpr ⟨hI, hn⟩), off, rfl, hz⟩
section
variable {prog : Program} {w : World} {A : Around} {E : Value → Shared → Prop} {s : Shared} {h₀ : Heap} {L D : Addr} {news : List (Addr × Obj)} {Q : Value → Shared → Prop} {value slice : PySem.Expr} {k : Int} {u : Tok}
theorem sub_sfx {s1 s2 : Str} {t1 t2 : Tok} {n : Nat} {dd : Option Addr} {sl : Array (Option Value)} (N : News h₀ L s.heap news) (hm : (D, ({ cls := .type "tuple", dict := dd, data := .seq #[.str s1 t1, .str s2 t2] n, slots := sl } : Obj)) ∈ news) (hk : k = 0 ∨ k = 1) (h : ∀ sfx t, sfx = s1 ∨ sfx = s2 → Q (.str sfx t) s)
    (hs : subscripted slice false (.ref D) (.int k u) = operate [.ref D, .int k u] (getItem (.ref D) (.int k u)) := by with_unfolding_all rfl) :
    wpAny (model prog w) A (subscriptTail value slice (.ref D) (.int k u)) Q E s := by
  have ht : IsTup s.heap D (List.toArray [.str s1 t1, .str s2 t2]) := N.isTup hm
  rcases hk with rfl | rfl
  · exact item_tupleT ht (by decide) (by decide) rfl rfl (h _ _ (.inl rfl)) hs
  · exact item_tupleT ht (by decide) (by decide) rfl rfl (h _ _ (.inr rfl)) hs
theorem sub_book2 {w' : World} {p : Program} {loose : List Str} {mean : ExcName → Option Value} {mg mb : Str → Option Value} {nw : List (Addr × Obj)} {ps : List (Int × Int)} {y1 y2 : Addr} {n : Nat} (N : News h₀ L s.heap news) (hm : (D, W.listOf #[.ref y1, .ref y2] n) ∈ news) (hk : k = 0 ∨ k = 1) (h1 : BookIs w' p loose mean mg mb nw y1 ps) (h2 : BookIs w' p loose mean mg mb nw y2 ps)
    (h : ∀ y, BookIs w' p loose mean mg mb nw y ps → Q (.ref y) s)
    (hs : subscripted slice false (.ref D) (.int k u) = operate [.ref D, .int k u] (getItem (.ref D) (.int k u)) := by with_unfolding_all rfl) :
    wpAny (model prog w) A (subscriptTail value slice (.ref D) (.int k u)) Q E s :=
  sub_book N hm hk (fun _ => h _ h1) (fun _ => h _ h2) hs
end
theorem ints8_of {a0 a1 a2 a3 a4 a5 a6 a7 : Int} {t0 t1 t2 t3 t4 t5 t6 t7 : Tok} : IntsAre [.int a0 t0, .int a1 t1, .int a2 t2, .int a3 t3, .int a4 t4, .int a5 t5, .int a6 t6, .int a7 t7] [a0, a1, a2, a3, a4, a5, a6, a7] :=
  .cons _ _ (.cons _ _ (.cons _ _ (.cons _ _ (.cons _ _ (.cons _ _ (.cons _ _ (.cons _ _ .nil)))))))
theorem sfx_len {sfx : Str} (h : sfx = Str.ofString "" ∨ sfx = Str.ofString "/ab") : sfx.length ≤ 3 := by
  rcases h with rfl | rfl <;> decide +kernel
theorem name_fits {i : Nat} {sfx : Str} (hi : i < 8) (h : sfx = Str.ofString "" ∨ sfx = Str.ofString "/ab") : (frontS (8 + (i : Int))).length + sfx.length ≤ 100 := by
  have := sfx_len h
  have := frontS_short (k := 8 + (i : Int)) (by omega)
  omega
theorem name_len {i : Nat} {sfx : Str} (hi : i < 8) (h : sfx = Str.ofString "" ∨ sfx = Str.ofString "/ab") : (frontS (8 + (i : Int)) ++ sfx).length ≤ 100 := by
  have e : (frontS (8 + (i : Int)) ++ sfx).length = (frontS (8 + (i : Int))).length + sfx.length := Str.length_append ..
  rw [e]
  exact name_fits hi h
/-- the post at the end, in a bare context: among the walk's facts the library's line for it burns four minutes -/
theorem law_post (vs : List Int) : PySem.Challenge.rw_rl0031_01.row.claim.post [ofPy (.list (vs.map .int))] (.bool true) [ofPy (.list (vs.map .int))] = true := by
  wrow_post
end Mine
end -- part LawL3
section -- part Law
open PySem PySem.W PyProof.Rows
set_option maxRecDepth 100000
set_option maxHeartbeats 40000000
namespace Mine
local macro_rules | `(tactic| size_fits) => `(tactic| (rw [sizeLine_eq]; (with_reducible refine Nat.le_of_ble_eq_true ?_); with_unfolding_all rfl))
local macro_rules | `(tactic| k_ne) => `(tactic| first | exact ne_offN (by with_reducible assumption) (by k_mem) | exact Ne.symm (ne_offN (by with_reducible assumption) (by k_mem)) | (refine neN ?_; (try dsimp only); omega))
local macro_rules | `(tactic| k_mem) => `(tactic| ((repeat (first | (with_reducible exact List.mem_cons_self) | (with_reducible refine List.mem_cons_of_mem _ ?_))); done))
theorem ints_next {vs : List Value} {xs : List Int} {n : Nat} (h : IntsAre vs xs) (e : xs.length = n + 1) : ∃ c t vs' xs', vs = .int c t :: vs' ∧ IntsAre vs' xs' ∧ xs'.length = n := by
  cases h with
  | nil => cases e
  | cons c t h => exact ⟨c, t, _, _, rfl, h, Nat.succ.inj e⟩
theorem ints8 {vs : List Value} {xs : List Int} (h : IntsAre vs xs) (e : xs.length = 8) : ∃ c0 c1 c2 c3 c4 c5 c6 c7 : Int, ∃ t0 t1 t2 t3 t4 t5 t6 t7 : Tok, vs = [.int c0 t0, .int c1 t1, .int c2 t2, .int c3 t3, .int c4 t4, .int c5 t5, .int c6 t6, .int c7 t7] := by
  obtain ⟨c0, t0, v1, x1, e0, h1, l1⟩ := ints_next h e
  obtain ⟨c1, t1, v2, x2, e1, h2, l2⟩ := ints_next h1 l1
  obtain ⟨c2, t2, v3, x3, e2, h3, l3⟩ := ints_next h2 l2
  obtain ⟨c3, t3, v4, x4, e3, h4, l4⟩ := ints_next h3 l3
  obtain ⟨c4, t4, v5, x5, e4, h5, l5⟩ := ints_next h4 l4
  obtain ⟨c5, t5, v6, x6, e5, h6, l6⟩ := ints_next h5 l5
  obtain ⟨c6, t6, v7, x7, e6, h7, l7⟩ := ints_next h6 l6
  obtain ⟨c7, t7, v8, x8, e7, h8, l8⟩ := ints_next h7 l7
  have e8 : v8 = [] := by
    cases h8 with
    | nil => rfl
    | cons _ _ _ => cases l8
  exact ⟨c0, c1, c2, c3, c4, c5, c6, c7, t0, t1, t2, t3, t4, t5, t6, t7, by rw [e0, e1, e2, e3, e4, e5, e6, e7, e8]⟩
theorem ne_cellN {h₀ h : Heap} {L : Addr} {l : List (Addr × Obj)} {a b : Nat} {cl : Value} {dd : Option Addr} {vs : Array Value} {n : Nat} {sl : Array (Option Value)} {oc : Obj} {v : Option Value} (N : News h₀ L h l) (ha : (a, (⟨cl, dd, .seq vs n, sl⟩ : Obj)) ∈ l) (hb : (b, oc) ∈ l) (hd : oc.data = .cell v) : @Ne Nat a b := by
  intro e
  subst e
  have h1 := (N _ ha).1
  rw [(N _ hb).1] at h1
  cases h1
  cases hd
theorem in4_of {z c : Int} (h : EqZ z (c.fmod 4)) : 0 ≤ z ∧ z < 4 := by
  rw [h.eq, Int.fmod_eq_emod_of_nonneg _ (by decide)]; omega
local macro_rules | `(tactic| k_ne) => `(tactic| first | exact ne_cellN (by k_asm) (by k_mem) (by k_mem) (by with_reducible assumption) | exact Ne.symm (ne_cellN (by k_asm) (by k_mem) (by k_mem) (by with_reducible assumption)))
local macro_rules | `(tactic| walk_at "CompSrc") => `(tactic| (k_here; k_dflt (refine LCg.CompSrc.range (by rfl) (by k_asm) (by k_asm) (by assumption) (by first | decide | rfl) (by first | rfl | decide) (by first | size_fits | exact Nat.le_of_ble_eq_true rfl) ?_; intro g9; lcg_lit)))
local macro_rules | `(tactic| walk_at "CompSrc") => `(tactic| (k_here; k_dflt (refine LCg.CompSrc.ledger (by rfl) (by k_asm) (by k_asm) (by k_mem) (by first | size_fits | exact Nat.le_of_ble_eq_true rfl) ?_; intro g9; lcg_lit)))
local macro_rules | `(tactic| k_all) => `(tactic| with_reducible assumption)
theorem law_holds : Challenge.rw_rl0031_01.Holds := hd (by
  k_go0
  (all_goals try k_fold)
  (repeat' (first | (k_unfold; (try dsimp only)) | (k_end; wrow_close) | ((first | ((fail_if_success (goal_lacks subscriptTail)); (with_reducible show wpAny _ _ (subscriptTail _ _ _ _) _ _ _); (first | ((with_reducible show wpAny _ _ (subscriptTail (Expr.Subscript (Expr.Name ..) (Expr.Constant ..) _) (Expr.Constant ..) (Value.ref _) (Value.int _ _)) _ _ _); (first | (with_reducible (first | (k_here; (with_reducible show wpAny _ _ (subscriptTail _ _ (Value.ref _) (Value.int _ _)) _ _ _); k_dflt (refine' ksa_sub ?k1 ?k2 ?k3 ?k4 ?k5 ?k6 ?_ ?k7; (case k1 => k_asm); (case k2 => with_reducible assumption); (case k3 => with_reducible assumption); (case k4 => decide); (case k5 => exact LawP.lt4 (by with_reducible assumption)); (case k6 => decide); (case k7 => with_unfolding_all rfl); k_whole); intro _))) | (k_here; (with_reducible show wpAny _ _ (subscriptTail _ _ (Value.ref _) (Value.int _ _)) _ _ _); k_dflt (refine' ksa_sub ?k1 ?k2 ?k3 ?k4 ?k5 ?k6 ?_ ?k7; (case k1 => k_asm); (case k2 => with_reducible assumption); (case k3 => with_reducible assumption); (case k4 => decide); (case k5 => exact LawP.lt4 (by with_reducible assumption)); (case k6 => decide); (case k7 => with_unfolding_all rfl); k_whole); intro _)); (try walk_say "OWN subscriptTail Subscript Name Constant Constant ref int")) | ((with_reducible show wpAny _ _ (subscriptTail (Expr.Name ..) (Expr.Name ..) (Value.ref _) (Value.int _ _)) _ _ _); (first | (with_reducible (first | (k_here; (with_reducible show wpAny _ _ (subscriptTail _ _ (Value.ref _) (Value.int _ _)) _ _ _); k_dflt (refine' ksa_sub ?k1 ?k2 ints8_of ?k4 ?k5 ?k6 ?_ ?k7; (case k1 => k_asm); (case k2 => k_mem); (case k4 => omega); (case k5 => (show (_ : Int) < 8; omega)); (case k6 => omega); (case k7 => with_unfolding_all rfl); k_whole); intro _) | (k_here; (with_reducible show wpAny _ _ (subscriptTail _ _ (Value.ref _) (Value.int _ _)) _ _ _); k_dflt (refine' sub_rows ?k1 ?k2 ?k3 ?k4 ?k5 ?k6 ?_ ?k7; (case k1 => k_asm); (case k3 => with_reducible assumption); (case k2 => k_mem); (case k4 => exact fun p hp => by simp only [List.mem_cons]; grind); (case k5 => omega); (case k6 => omega); (case k7 => with_unfolding_all rfl); k_whole); intro b9q ws9q n9q hm9q hi9q) | (k_here; (with_reducible show wpAny _ _ (subscriptTail _ _ (Value.ref _) (Value.int _ _)) _ _ _); k_dflt (first | (refine' sub_at ?k1 ?k2 ?k4 ?k5 ?k3 ?_ ?k6; (case k1 => k_asm); (case k2 => k_mem); (case k4 => decide); (case k5 => decide); (case k3 => rfl); (case k6 => with_unfolding_all rfl); k_whole) | (refine' ksa_sub ?k1 ?k2 ?k3 ?k4 ?k5 ?k6 ?_ ?k7; (case k1 => k_asm); (case k2 => k_mem); (case k3 => with_reducible assumption); (case k4 => omega); (case k5 => (refine Int.lt_of_lt_of_eq ?_ (congrArg Nat.cast (by with_reducible assumption)).symm; omega)); (case k6 => omega); (case k7 => with_unfolding_all rfl); k_whole; intro _))))) | (k_here; (with_reducible show wpAny _ _ (subscriptTail _ _ (Value.ref _) (Value.int _ _)) _ _ _); k_dflt (refine' ksa_sub ?k1 ?k2 ints8_of ?k4 ?k5 ?k6 ?_ ?k7; (case k1 => k_asm); (case k2 => k_mem); (case k4 => omega); (case k5 => (show (_ : Int) < 8; omega)); (case k6 => omega); (case k7 => with_unfolding_all rfl); k_whole); intro _) | (k_here; (with_reducible show wpAny _ _ (subscriptTail _ _ (Value.ref _) (Value.int _ _)) _ _ _); k_dflt (refine' sub_rows ?k1 ?k2 ?k3 ?k4 ?k5 ?k6 ?_ ?k7; (case k1 => k_asm); (case k3 => with_reducible assumption); (case k2 => k_mem); (case k4 => exact fun p hp => by simp only [List.mem_cons]; grind); (case k5 => omega); (case k6 => omega); (case k7 => with_unfolding_all rfl); k_whole); intro b9q ws9q n9q hm9q hi9q) | (k_here; (with_reducible show wpAny _ _ (subscriptTail _ _ (Value.ref _) (Value.int _ _)) _ _ _); k_dflt (first | (refine' sub_at ?k1 ?k2 ?k4 ?k5 ?k3 ?_ ?k6; (case k1 => k_asm); (case k2 => k_mem); (case k4 => decide); (case k5 => decide); (case k3 => rfl); (case k6 => with_unfolding_all rfl); k_whole) | (refine' ksa_sub ?k1 ?k2 ?k3 ?k4 ?k5 ?k6 ?_ ?k7; (case k1 => k_asm); (case k2 => k_mem); (case k3 => with_reducible assumption); (case k4 => omega); (case k5 => (refine Int.lt_of_lt_of_eq ?_ (congrArg Nat.cast (by with_reducible assumption)).symm; omega)); (case k6 => omega); (case k7 => with_unfolding_all rfl); k_whole; intro _)))); (try walk_say "OWN subscriptTail Name Name ref int")) | ((with_reducible show wpAny _ _ (subscriptTail (Expr.Name ..) (Expr.Constant ..) (Value.ref _) (Value.int _ _)) _ _ _); (first | (with_reducible (first | (k_here; (with_reducible show wpAny _ _ (subscriptTail _ _ (Value.ref _) (Value.int _ _)) _ _ _); k_dflt (refine' sub_rows ?k1 ?k2 ?k3 ?k4 ?k5 ?k6 ?_ ?k7; (case k1 => k_asm); (case k3 => with_reducible assumption); (case k2 => k_mem); (case k4 => exact fun p hp => by simp only [List.mem_cons, List.mem_append]; grind); (case k5 => omega); (case k6 => omega); (case k7 => with_unfolding_all rfl); k_whole); intro b9q ws9q n9q hm9q hi9q))) | (k_here; (with_reducible show wpAny _ _ (subscriptTail _ _ (Value.ref _) (Value.int _ _)) _ _ _); k_dflt (refine' sub_rows ?k1 ?k2 ?k3 ?k4 ?k5 ?k6 ?_ ?k7; (case k1 => k_asm); (case k3 => with_reducible assumption); (case k2 => k_mem); (case k4 => exact fun p hp => by simp only [List.mem_cons, List.mem_append]; grind); (case k5 => omega); (case k6 => omega); (case k7 => with_unfolding_all rfl); k_whole); intro b9q ws9q n9q hm9q hi9q)); (try walk_say "OWN subscriptTail Name Constant ref int")) | ((with_reducible show wpAny _ _ (subscriptTail (Expr.Name ..) (Expr.BinOp ..) (Value.ref _) (Value.int _ _)) _ _ _); (first | (with_reducible (first | (k_here; k_dflt (refine' sub_book2 ?N ?hm ?hk ?h1 ?h2 ?_ ?hs; (case N => k_asm); (case hm => k_mem); (case hk => exact fmod2 _); (case h1 => with_reducible assumption); (case h2 => with_reducible assumption); (case hs => with_unfolding_all rfl); k_whole); intro y9q hB9q))) | (k_here; k_dflt (refine' sub_book2 ?N ?hm ?hk ?h1 ?h2 ?_ ?hs; (case N => k_asm); (case hm => k_mem); (case hk => exact fmod2 _); (case h1 => with_reducible assumption); (case h2 => with_reducible assumption); (case hs => with_unfolding_all rfl); k_whole); intro y9q hB9q)); (try walk_say "OWN subscriptTail Name BinOp ref int")) | ((first | (with_reducible (first | (k_here; (with_reducible show wpAny _ _ (subscriptTail (Expr.Tuple ..) _ (Value.ref _) (Value.int _ _)) _ _ _); k_dflt (refine' sub_sfx ?N ?hm ?hk ?_ ?hs; (case N => k_asm); (case hm => k_mem); (case hk => exact fmod2 _); (case hs => with_unfolding_all rfl); k_whole); intro sfx9q t9q hs9q) | (k_here; (with_reducible show wpAny _ _ (subscriptTail _ _ (Value.ref _) (Value.int _ _)) _ _ _); k_dflt (first | (refine' sub_at ?k1 ?k2 ?k4 ?k5 ?k3 ?_ ?k6; (case k1 => k_asm); (case k2 => k_mem); (case k4 => decide); (case k5 => decide); (case k3 => rfl); (case k6 => with_unfolding_all rfl); k_whole))))) | (k_here; (with_reducible show wpAny _ _ (subscriptTail (Expr.Tuple ..) _ (Value.ref _) (Value.int _ _)) _ _ _); k_dflt (refine' sub_sfx ?N ?hm ?hk ?_ ?hs; (case N => k_asm); (case hm => k_mem); (case hk => exact fmod2 _); (case hs => with_unfolding_all rfl); k_whole); intro sfx9q t9q hs9q) | (k_here; (with_reducible show wpAny _ _ (subscriptTail _ _ (Value.ref _) (Value.int _ _)) _ _ _); k_dflt (first | (refine' sub_at ?k1 ?k2 ?k4 ?k5 ?k3 ?_ ?k6; (case k1 => k_asm); (case k2 => k_mem); (case k4 => decide); (case k5 => decide); (case k3 => rfl); (case k6 => with_unfolding_all rfl); k_whole)))); (try walk_say "OWN subscriptTail")))) | ((fail_if_success (goal_lacks exec)); (with_reducible show wpAny _ _ (exec _ _) _ _ _); ((with_reducible show wpAny _ _ (exec (Stmt.For (Expr.Name ..) (Expr.Call ..) (_ :: _) [] _) _) _ _ _); (first | (with_reducible (first | (k_here; (rename Fr _ _ _ _ => lFpq); (with_unfolding_all refine' For_turns lFpq ?_; k_whole)))) | (k_here; (rename Fr _ _ _ _ => lFpq); (with_unfolding_all refine' For_turns lFpq ?_; k_whole))); (try walk_say "OWN exec For Name Call cons nil"))) | ((fail_if_success (goal_lacks binaryOp)); (with_reducible show wpAny _ _ (binaryOp _ _ _) _ _ _); (first | ((with_reducible show wpAny _ _ (binaryOp Operator.Mult (Value.int _ _) (Value.int _ _)) _ _ _); (first | (with_reducible (first | (k_here; with_reducible refine mul_int ?_ (IntMulOk.of_left (by decide))))) | (k_here; with_reducible refine mul_int ?_ (IntMulOk.of_left (by decide)))); (try walk_say "OWN binaryOp Mult int int")) | ((with_reducible show wpAny _ _ (binaryOp Operator.Add (Value.str _ _) (Value.str _ _)) _ _ _); (first | (with_reducible (first | (k_here; (with_reducible show wpAny _ _ (binaryOp Operator.Add (Value.str _ _) (Value.str _ _)) _ _ _); k_dflt (refine add_str (hsz := ?hz) ?_; (case hz => exact Nat.le_trans (name_fits hi (by with_reducible assumption)) (by rw [sizeLine_eq]; decide)); intro t9q tk9q)))) | (k_here; (with_reducible show wpAny _ _ (binaryOp Operator.Add (Value.str _ _) (Value.str _ _)) _ _ _); k_dflt (refine add_str (hsz := ?hz) ?_; (case hz => exact Nat.le_trans (name_fits hi (by with_reducible assumption)) (by rw [sizeLine_eq]; decide)); intro t9q tk9q))); (try walk_say "OWN binaryOp Add str str")))) | ((fail_if_success (goal_lacks compareOp)); (with_reducible show wpAny _ _ (compareOp _ _ _) _ _ _); (first | ((with_reducible show wpAny _ _ (compareOp CmpOp.NotEq (Value.int _ _) (Value.int _ _)) _ _ _); (first | (with_reducible (first | (k_here; (with_reducible show wpAny _ _ (compareOp CmpOp.NotEq (Value.int _ _) (Value.int _ _)) _ _ _); k_dflt (refine' ne_int_same ?k1 ?_; (case k1 => exact law_len (by with_reducible assumption) (by with_reducible assumption) (fmod4 _)))))) | (k_here; (with_reducible show wpAny _ _ (compareOp CmpOp.NotEq (Value.int _ _) (Value.int _ _)) _ _ _); k_dflt (refine' ne_int_same ?k1 ?_; (case k1 => exact law_len (by with_reducible assumption) (by with_reducible assumption) (fmod4 _))))); (try walk_say "OWN compareOp NotEq int int")) | ((with_reducible show wpAny _ _ (compareOp CmpOp.NotEq (Value.bool _) (Value.bool _)) _ _ _); (first | (with_reducible (first | (k_here; k_dflt (refine ne_bool_same ?_)))) | (k_here; k_dflt (refine ne_bool_same ?_))); (try walk_say "OWN compareOp NotEq bool bool")) | ((with_reducible show wpAny _ _ (compareOp CmpOp.NotEq _ _) _ _ _); (first | (with_reducible (first | (k_here; k_dflt (first | refine say_ne (by with_reducible assumption) (by assumption) ?_ | refine ne_bool_same ?_)))) | (k_here; k_dflt (first | refine say_ne (by with_reducible assumption) (by assumption) ?_ | refine ne_bool_same ?_))); (try walk_say "OWN compareOp NotEq")))) | ((fail_if_success (goal_lacks eval)); (with_reducible show wpAny _ _ (eval _ _) _ _ _); (first | ((with_reducible show wpAny _ _ (eval (Expr.ListComp ..) _) _ _ _); (first | (with_reducible (first | ((with_reducible show wpAny _ _ (eval _ _) _ _ _); k_here; lcg_look; lcg_calm; k_dflt (refine LCg.ListComp_U (F₀ := by k_asm) (by rfl) (by decide) (by rfl) (by decide) (by rfl) ?_); k_dflt lcg_toSrc))) | ((with_reducible show wpAny _ _ (eval _ _) _ _ _); k_here; lcg_look; lcg_calm; k_dflt (refine LCg.ListComp_U (F₀ := by k_asm) (by rfl) (by decide) (by rfl) (by decide) (by rfl) ?_); k_dflt lcg_toSrc)); (try walk_say "OWN eval ListComp")) | ((with_reducible show wpAny _ _ (eval (Expr.Name ..) _) _ _ _); (first | (with_reducible (first | (k_here; (with_reducible show wpAny _ _ (eval (Expr.Name _ _) (compEnvC _ _ _ _)) _ _ _); k_dflt (refine' lcf_cell ?N ?c ?m ?d ?_ ?a ?b; (case a => rfl); (case b => rfl); (case N => k_asm); (case c => rfl); (case m => k_mem); (case d => with_reducible assumption); k_whole)) | (k_here; (with_reducible show wpAny _ _ (eval (Expr.Name _ _) (compEnvC _ _ _ _)) _ _ _); k_dflt (refine' LCgL.ld_own ?N ?m ?d ?x ?_ ?a ?b; (case a => rfl); (case b => rfl); (case N => k_asm); (case m => k_mem); (case d => with_reducible assumption); (case x => with_reducible assumption); k_whole)))) | (k_here; (with_reducible show wpAny _ _ (eval (Expr.Name _ _) (compEnvC _ _ _ _)) _ _ _); k_dflt (refine' lcf_cell ?N ?c ?m ?d ?_ ?a ?b; (case a => rfl); (case b => rfl); (case N => k_asm); (case c => rfl); (case m => k_mem); (case d => with_reducible assumption); k_whole)) | (k_here; (with_reducible show wpAny _ _ (eval (Expr.Name _ _) (compEnvC _ _ _ _)) _ _ _); k_dflt (refine' LCgL.ld_own ?N ?m ?d ?x ?_ ?a ?b; (case a => rfl); (case b => rfl); (case N => k_asm); (case m => k_mem); (case d => with_reducible assumption); (case x => with_reducible assumption); k_whole))); (try walk_say "OWN eval Name")))) | ((fail_if_success (goal_lacks call)); (with_reducible show wpAny _ _ (call _ _) _ _ _); (first | ((first | (with_reducible (first | (k_here; (with_reducible show wpAny _ _ (call (Value.ref 192) _) _ _ _); k_dflt (refine' merges_spec _ _ _ _ _ _ (rest := [(_, W.listOf (List.toArray [.int _ _, .int _ _, .int _ _, .int _ _, .int _ _, .int _ _, .int _ _, .int _ _]) _)]) ?k1 ?k2 ?k3 ?k4 ?k5 ?kK ?hm ?hb ?hps ?hlen ?hrest ?hrg ?kd ?ku ?_; (case k1 => k_asm); (case k2 => k_asm); (case k3 => k_asm); (case k4 => k_asm); (case k5 => k_asm); (case kK => exact rfl); (case kd => decide); (case ku => decide); (case hm => k_mem); (case hb => k_mem); (case hps => exact PairsAre.mono (by with_reducible assumption) fun q hq => List.mem_cons_of_mem _ hq); (case hlen => with_reducible assumption); (case hrg => exact LawP.rng (by with_reducible assumption) _ (fmod4 _)); (case hrest => exact List.forall_mem_cons.mpr ⟨⟨by k_mem, tab_ne_seq (by k_asm) (by k_mem) (by k_mem) rfl⟩, List.forall_mem_nil _⟩)); intro D9q y1q y2q nd9q nw9q hpq tkpq Fpq Npq hD9q hB1q hB2q hT9q; obtain ⟨pt9q, hT9q⟩ := hT9q; (have N9pq := law_pick Npq hD9q hT9q)) | (k_here; (with_reducible show wpAny _ _ (call (Value.ref 171) _) _ _ _); k_dflt (refine' front_spec _ _ _ _ _ _ ?k1 ?k2 ?k3 ?k4 ?k5 ?kK ?hb ?kd ?ku ?_; (case k1 => k_asm); (case k2 => k_asm); (case k3 => k_asm); (case k4 => k_asm); (case k5 => k_asm); (case kK => exact rfl); (case kd => decide); (case ku => decide); (case hb => omega)); intro t9q hpq tkpq Fpq Npq) | (k_here; (with_reducible show wpAny _ _ (call (Value.ref 178) _) _ _ _); k_dflt (refine' saying_spec _ _ _ _ _ _ ?k1 ?k2 ?k3 ?k4 ?k5 ?kK ?hb ?kd ?ku ?_; (case k1 => k_asm); (case k2 => k_asm); (case k3 => k_asm); (case k4 => k_asm); (case k5 => k_asm); (case kK => exact rfl); (case kd => decide); (case ku => decide); (case hb => exact LawP.b (by with_reducible assumption) i hi)); intro v9q hpq tkpq hS9q Fpq Npq; (replace hS9q : SayIs (List.getD _ i 0) v9q := hS9q)) | (k_here; (with_reducible show wpAny _ _ (call (Value.ref 164) _) _ _ _); k_dflt (refine' lay_spec _ _ _ _ _ _ 4 ?k1 ?k2 ?k3 ?k4 ?k5 ?kK ?hm ?hi ?hl ?n1 ?n2 ?s1 ?s2 ?t1 ?t2 ?hf ?hg ?kd ?ku ?_; (case k1 => k_asm); (case k2 => k_asm); (case k3 => k_asm); (case k4 => k_asm); (case k5 => k_asm); (case kK => exact rfl); (case kd => decide); (case ku => decide); (case hm => k_mem); (case hi => with_reducible assumption); (case hl => with_reducible assumption); (case n1 => decide); (case n2 => decide); (case s1 => decide); (case s2 => decide); (case t1 => exact (fmod4 _).1); (case t2 => exact (fmod4 _).2); (case hf => decide); (case hg => decide)); intro b9q vs9q n9q tl9q hpq tkpq Fpq Npq hp9q hv9q; (try simp only [List.cons_append, List.nil_append] at Npq hp9q)) | (k_here; (with_reducible show wpAny _ _ (call (Value.ref 157) _) _ _ _); k_dflt (refine' few_spec _ _ _ _ _ _ ?k1 ?k2 ?k3 ?k4 ?k5 ?kK ?hm ?kd ?ku ?_; (case k1 => k_asm); (case k2 => k_asm); (case k3 => k_asm); (case k4 => k_asm); (case k5 => k_asm); (case kK => exact rfl); (case kd => decide); (case ku => decide); (case hm => k_mem)); intro RAq rvsq n3q rsq tl3q hpq tkpq Fpq Npq hR9q hrs9q hrl9q) | (k_here; (with_reducible show wpAny _ _ (call (Value.ref 152) _) _ _ _); k_dflt (refine' masks_spec _ _ _ _ _ _ ?k1 ?k2 ?k3 ?k4 ?k5 ?kK ?hm ?b0 ?b1 ?b2 ?b3 ?b4 ?b5 ?b6 ?b7 ?kd ?ku ?_; (case k1 => k_asm); (case k2 => k_asm); (case k3 => k_asm); (case k4 => k_asm); (case k5 => k_asm); (case kK => exact rfl); (case kd => decide); (case ku => decide); (case hm => k_mem); (case b0 => exact in4_of (by with_reducible assumption)); (case b1 => exact in4_of (by with_reducible assumption)); (case b2 => exact in4_of (by with_reducible assumption)); (case b3 => exact in4_of (by with_reducible assumption)); (case b4 => exact in4_of (by with_reducible assumption)); (case b5 => exact in4_of (by with_reducible assumption)); (case b6 => exact in4_of (by with_reducible assumption)); (case b7 => exact in4_of (by with_reducible assumption))); intro raq maq mcq mvsq cvsq n1q n2q msq csq hpq tkpq Fpq Npq iMq iCq lMq lCq hfoldq) | (k_here; (with_reducible show wpAny _ _ (call (Value.ref 147) _) _ _ _); k_dflt (refine' cells_spec _ _ _ _ _ _ ?k1 ?k2 ?k3 ?k4 ?k5 ?kK ?hl ?hi ?hlen ?kd ?ku ?_; (case k1 => k_asm); (case k2 => k_asm); (case k3 => k_asm); (case k4 => k_asm); (case k5 => k_asm); (case kK => exact rfl); (case kd => decide); (case ku => decide); (case hl => assumption); (case hi => assumption); (case hlen => omega)); intro caq cvsq n0q xsq hpq tkpq Fpq Npq hIpq hlenpq; obtain ⟨c0q, c1q, c2q, c3q, c4q, c5q, c6q, c7q, u0q, u1q, u2q, u3q, u4q, u5q, u6q, u7q, hc9q⟩ := ints8 hIpq hlenpq; subst hc9q; clear hIpq hlenpq) | (k_here; k_dflt (show wpAny _ _ (call (Value.ref 49) [Value.ref _, Value.str _ _]) _ _ _); k_dflt (refine' book_allow _ _ _ _ _ _ ?k1 ?k2 ?k3 ?k4 ?k5 ?kK ?hB ?hs ?hnm ?hp ?kd ?ku ?_; (case k1 => k_asm); (case k2 => k_asm); (case k3 => k_asm); (case k4 => k_asm); (case k5 => k_asm); (case kK => exact rfl); (case hB => with_reducible assumption); (case hs => exact fun q hq => by simp only [List.mem_cons]; grind); (case hnm => exact name_len hi (by with_reducible assumption)); (case kd => decide); (case ku => decide); (case hp => exact say_of (by with_reducible assumption) i hi _ (by with_reducible assumption) (congrArg (fun k => frontS k ++ _) (show (8 : Int) + (i : Int) = ((8 + i : Nat) : Int) by omega)))); intro v9q hpq tkpq hS9q Fpq Npq))) | (k_here; (with_reducible show wpAny _ _ (call (Value.ref 192) _) _ _ _); k_dflt (refine' merges_spec _ _ _ _ _ _ (rest := [(_, W.listOf (List.toArray [.int _ _, .int _ _, .int _ _, .int _ _, .int _ _, .int _ _, .int _ _, .int _ _]) _)]) ?k1 ?k2 ?k3 ?k4 ?k5 ?kK ?hm ?hb ?hps ?hlen ?hrest ?hrg ?kd ?ku ?_; (case k1 => k_asm); (case k2 => k_asm); (case k3 => k_asm); (case k4 => k_asm); (case k5 => k_asm); (case kK => exact rfl); (case kd => decide); (case ku => decide); (case hm => k_mem); (case hb => k_mem); (case hps => exact PairsAre.mono (by with_reducible assumption) fun q hq => List.mem_cons_of_mem _ hq); (case hlen => with_reducible assumption); (case hrg => exact LawP.rng (by with_reducible assumption) _ (fmod4 _)); (case hrest => exact List.forall_mem_cons.mpr ⟨⟨by k_mem, tab_ne_seq (by k_asm) (by k_mem) (by k_mem) rfl⟩, List.forall_mem_nil _⟩)); intro D9q y1q y2q nd9q nw9q hpq tkpq Fpq Npq hD9q hB1q hB2q hT9q; obtain ⟨pt9q, hT9q⟩ := hT9q; (have N9pq := law_pick Npq hD9q hT9q)) | (k_here; (with_reducible show wpAny _ _ (call (Value.ref 171) _) _ _ _); k_dflt (refine' front_spec _ _ _ _ _ _ ?k1 ?k2 ?k3 ?k4 ?k5 ?kK ?hb ?kd ?ku ?_; (case k1 => k_asm); (case k2 => k_asm); (case k3 => k_asm); (case k4 => k_asm); (case k5 => k_asm); (case kK => exact rfl); (case kd => decide); (case ku => decide); (case hb => omega)); intro t9q hpq tkpq Fpq Npq) | (k_here; (with_reducible show wpAny _ _ (call (Value.ref 178) _) _ _ _); k_dflt (refine' saying_spec _ _ _ _ _ _ ?k1 ?k2 ?k3 ?k4 ?k5 ?kK ?hb ?kd ?ku ?_; (case k1 => k_asm); (case k2 => k_asm); (case k3 => k_asm); (case k4 => k_asm); (case k5 => k_asm); (case kK => exact rfl); (case kd => decide); (case ku => decide); (case hb => exact LawP.b (by with_reducible assumption) i hi)); intro v9q hpq tkpq hS9q Fpq Npq; (replace hS9q : SayIs (List.getD _ i 0) v9q := hS9q)) | (k_here; (with_reducible show wpAny _ _ (call (Value.ref 164) _) _ _ _); k_dflt (refine' lay_spec _ _ _ _ _ _ 4 ?k1 ?k2 ?k3 ?k4 ?k5 ?kK ?hm ?hi ?hl ?n1 ?n2 ?s1 ?s2 ?t1 ?t2 ?hf ?hg ?kd ?ku ?_; (case k1 => k_asm); (case k2 => k_asm); (case k3 => k_asm); (case k4 => k_asm); (case k5 => k_asm); (case kK => exact rfl); (case kd => decide); (case ku => decide); (case hm => k_mem); (case hi => with_reducible assumption); (case hl => with_reducible assumption); (case n1 => decide); (case n2 => decide); (case s1 => decide); (case s2 => decide); (case t1 => exact (fmod4 _).1); (case t2 => exact (fmod4 _).2); (case hf => decide); (case hg => decide)); intro b9q vs9q n9q tl9q hpq tkpq Fpq Npq hp9q hv9q; (try simp only [List.cons_append, List.nil_append] at Npq hp9q)) | (k_here; (with_reducible show wpAny _ _ (call (Value.ref 157) _) _ _ _); k_dflt (refine' few_spec _ _ _ _ _ _ ?k1 ?k2 ?k3 ?k4 ?k5 ?kK ?hm ?kd ?ku ?_; (case k1 => k_asm); (case k2 => k_asm); (case k3 => k_asm); (case k4 => k_asm); (case k5 => k_asm); (case kK => exact rfl); (case kd => decide); (case ku => decide); (case hm => k_mem)); intro RAq rvsq n3q rsq tl3q hpq tkpq Fpq Npq hR9q hrs9q hrl9q) | (k_here; (with_reducible show wpAny _ _ (call (Value.ref 152) _) _ _ _); k_dflt (refine' masks_spec _ _ _ _ _ _ ?k1 ?k2 ?k3 ?k4 ?k5 ?kK ?hm ?b0 ?b1 ?b2 ?b3 ?b4 ?b5 ?b6 ?b7 ?kd ?ku ?_; (case k1 => k_asm); (case k2 => k_asm); (case k3 => k_asm); (case k4 => k_asm); (case k5 => k_asm); (case kK => exact rfl); (case kd => decide); (case ku => decide); (case hm => k_mem); (case b0 => exact in4_of (by with_reducible assumption)); (case b1 => exact in4_of (by with_reducible assumption)); (case b2 => exact in4_of (by with_reducible assumption)); (case b3 => exact in4_of (by with_reducible assumption)); (case b4 => exact in4_of (by with_reducible assumption)); (case b5 => exact in4_of (by with_reducible assumption)); (case b6 => exact in4_of (by with_reducible assumption)); (case b7 => exact in4_of (by with_reducible assumption))); intro raq maq mcq mvsq cvsq n1q n2q msq csq hpq tkpq Fpq Npq iMq iCq lMq lCq hfoldq) | (k_here; (with_reducible show wpAny _ _ (call (Value.ref 147) _) _ _ _); k_dflt (refine' cells_spec _ _ _ _ _ _ ?k1 ?k2 ?k3 ?k4 ?k5 ?kK ?hl ?hi ?hlen ?kd ?ku ?_; (case k1 => k_asm); (case k2 => k_asm); (case k3 => k_asm); (case k4 => k_asm); (case k5 => k_asm); (case kK => exact rfl); (case kd => decide); (case ku => decide); (case hl => assumption); (case hi => assumption); (case hlen => omega)); intro caq cvsq n0q xsq hpq tkpq Fpq Npq hIpq hlenpq; obtain ⟨c0q, c1q, c2q, c3q, c4q, c5q, c6q, c7q, u0q, u1q, u2q, u3q, u4q, u5q, u6q, u7q, hc9q⟩ := ints8 hIpq hlenpq; subst hc9q; clear hIpq hlenpq) | (k_here; k_dflt (show wpAny _ _ (call (Value.ref 49) [Value.ref _, Value.str _ _]) _ _ _); k_dflt (refine' book_allow _ _ _ _ _ _ ?k1 ?k2 ?k3 ?k4 ?k5 ?kK ?hB ?hs ?hnm ?hp ?kd ?ku ?_; (case k1 => k_asm); (case k2 => k_asm); (case k3 => k_asm); (case k4 => k_asm); (case k5 => k_asm); (case kK => exact rfl); (case hB => with_reducible assumption); (case hs => exact fun q hq => by simp only [List.mem_cons]; grind); (case hnm => exact name_len hi (by with_reducible assumption)); (case kd => decide); (case ku => decide); (case hp => exact say_of (by with_reducible assumption) i hi _ (by with_reducible assumption) (congrArg (fun k => frontS k ++ _) (show (8 : Int) + (i : Int) = ((8 + i : Nat) : Int) by omega)))); intro v9q hpq tkpq hS9q Fpq Npq)); (try walk_say "OWN call ref")) | ((with_reducible show wpAny _ _ (call (Value.builtin "len") _) _ _ _); (first | (with_reducible (first | (k_here; (with_reducible show wpAny _ _ (call (Value.builtin "len") [Value.ref _]) _ _ _); k_dflt (refine' len_led ?k1 ?k2 ?k3 ?_; (case k1 => k_asm); (case k2 => k_mem); (case k3 => with_reducible assumption); k_whole); intro t9q tk9q))) | (k_here; (with_reducible show wpAny _ _ (call (Value.builtin "len") [Value.ref _]) _ _ _); k_dflt (refine' len_led ?k1 ?k2 ?k3 ?_; (case k1 => k_asm); (case k2 => k_mem); (case k3 => with_reducible assumption); k_whole); intro t9q tk9q)); (try walk_say "OWN call builtin:len")) | ((with_reducible show wpAny _ _ (call (Value.builtin "isinstance") _) _ _ _); (first | (with_reducible (first | (k_here; (with_reducible show wpAny _ _ (call (Value.builtin "isinstance") [_, Value.type "bool"]) _ _ _); k_dflt (refine' say_isb ?h1 ?_; (case h1 => with_reducible assumption); k_whole); intro tk9q))) | (k_here; (with_reducible show wpAny _ _ (call (Value.builtin "isinstance") [_, Value.type "bool"]) _ _ _); k_dflt (refine' say_isb ?h1 ?_; (case h1 => with_reducible assumption); k_whole); intro tk9q)); (try walk_say "OWN call builtin:isinstance")))) | ((fail_if_success (goal_lacks getMethod)); (with_reducible show wpAny _ _ (getMethod _ _ _) _ _ _); ((first | (with_reducible (first | (k_here; (with_reducible show wpAny _ _ (getMethod (Value.ref _) (Str.ofString "allowance") _) _ _ _); k_dflt (refine' book_method _ _ _ _ _ _ ?hB ?k1 ?k2 ?k3 ?k4 ?_; (case hB => with_reducible assumption); (case k1 => k_asm); (case k2 => k_asm); (case k3 => k_asm); (case k4 => exact fun q hq => by simp only [List.mem_cons]; grind); k_whole); (try dsimp only)))) | (k_here; (with_reducible show wpAny _ _ (getMethod (Value.ref _) (Str.ofString "allowance") _) _ _ _); k_dflt (refine' book_method _ _ _ _ _ _ ?hB ?k1 ?k2 ?k3 ?k4 ?_; (case hB => with_reducible assumption); (case k1 => k_asm); (case k2 => k_asm); (case k3 => k_asm); (case k4 => exact fun q hq => by simp only [List.mem_cons]; grind); k_whole); (try dsimp only))); (try walk_say "OWN getMethod ref"))) | ((fail_if_success (goal_lacks InvEndN)); (with_reducible show InvEndN ..); (repeat clear qk); (repeat clear ek); ((first | (with_reducible (first | k_dflt kst_close)) | k_dflt kst_close); (try walk_say "OWN InvEndN"))) | ((fail_if_success (goal_lacks LCg.CompEnd)); (with_reducible show LCg.CompEnd ..); ((first | (with_reducible (first | first | (k_dflt (refine' ce_int ?a1 ?a2 ?a3 ?a4 ?_; (case a1 => k_asm); (case a2 => k_asm); (case a3 => with_reducible assumption); (case a4 => first | exact True.intro | lcg_src)); intro z9q hz9q) | (k_dflt (refine' ce_same ?a1 ?a2 ?a3 ?a4 ?_; (case a1 => k_asm); (case a2 => k_asm); (case a3 => with_reducible assumption); (case a4 => first | exact True.intro | lcg_src))) | (k_dflt (refine' ce_one ?a1 ?a2 ?a3 ?a5 ?a4 ?_; (case a1 => k_asm); (case a2 => k_asm); (case a3 => with_reducible assumption); (case a5 => with_reducible assumption); (case a4 => first | exact True.intro | lcg_src))) | k_dflt lcg_end)) | first | (k_dflt (refine' ce_int ?a1 ?a2 ?a3 ?a4 ?_; (case a1 => k_asm); (case a2 => k_asm); (case a3 => with_reducible assumption); (case a4 => first | exact True.intro | lcg_src)); intro z9q hz9q) | (k_dflt (refine' ce_same ?a1 ?a2 ?a3 ?a4 ?_; (case a1 => k_asm); (case a2 => k_asm); (case a3 => with_reducible assumption); (case a4 => first | exact True.intro | lcg_src))) | (k_dflt (refine' ce_one ?a1 ?a2 ?a3 ?a5 ?a4 ?_; (case a1 => k_asm); (case a2 => k_asm); (case a3 => with_reducible assumption); (case a5 => with_reducible assumption); (case a4 => first | exact True.intro | lcg_src))) | k_dflt lcg_end); (try walk_say "OWN CompEnd"))) | ((fail_if_success (goal_lacks LCg.CompRest)); (with_reducible show LCg.CompRest ..); ((first | (with_reducible (first | (with_unfolding_all first | (refine LCg.CompRest.succ ?_; intro vpq Ipq oIpq Cpq oCpq Dpq mpq hpq tkpq Epq hvpq hCpq hxpq Fpq Npq offpq nepq; clear nepq; (first | lcg_open hvpq | (obtain ⟨t9pq, hv9pq⟩ := hvpq; subst hv9pq))) | refine LCg.CompRest.zero ?_))) | (with_unfolding_all first | (refine LCg.CompRest.succ ?_; intro vpq Ipq oIpq Cpq oCpq Dpq mpq hpq tkpq Epq hvpq hCpq hxpq Fpq Npq offpq nepq; clear nepq; (first | lcg_open hvpq | (obtain ⟨t9pq, hv9pq⟩ := hvpq; subst hv9pq))) | refine LCg.CompRest.zero ?_)); (try walk_say "OWN CompRest"))) | ((fail_if_success (goal_lacks LCg.FinE)); (with_reducible show LCg.FinE ..); ((first | (with_reducible (first | ((unfold LCg.FinE); intro Dpq hpq tkpq Fpq Npq o1pq; (try simp only [List.nil_append, List.cons_append] at Npq); (try dsimp only)))) | ((unfold LCg.FinE); intro Dpq hpq tkpq Fpq Npq o1pq; (try simp only [List.nil_append, List.cons_append] at Npq); (try dsimp only))); (try walk_say "OWN FinE"))) | ((fail_if_success (goal_lacks CRestC)); (with_reducible show CRestC ..); ((first | (with_reducible (first | (with_unfolding_all first | (refine CRestC.succ ?_; intro vpq Ipq oIpq Cpq oCpq cpq ocpq Dpq hpq tkpq Epq hvpq hdpq Fpq Npq offpq nepq offcpq; clear nepq; lcg_open hvpq) | refine CRestC.zero ?_))) | (with_unfolding_all first | (refine CRestC.succ ?_; intro vpq Ipq oIpq Cpq oCpq cpq ocpq Dpq hpq tkpq Epq hvpq hdpq Fpq Npq offpq nepq offcpq; clear nepq; lcg_open hvpq) | refine CRestC.zero ?_)); (try walk_say "OWN CRestC"))) | ((fail_if_success (goal_lacks RestC)); (with_reducible show RestC ..); ((first | (with_reducible (first | (k_dflt (refine restC_one (by with_reducible assumption) (by with_reducible assumption) ?_)))) | (k_dflt (refine restC_one (by with_reducible assumption) (by with_reducible assumption) ?_))); (try walk_say "OWN RestC"))) | walk1 | (dsimp only; walk1) | (dsimp only [List.cons_append, List.nil_append]; walk1)); (try (goal_lacks LoopAtV TurnsAt; (first | (fail_if_success k_fold; skip) | (refine foldQ ?_; intro qk))))) | ((with_reducible show wpAny _ _ _ _ _ _); dsimp only) | (leave1; walk_say "STEP leave1"; try dsimp only) | fail "no step"))
  rename (_, _) = List.foldl msStep _ _ => hfold; rename _ = List.foldl fewStep _ _ => hrs; rename RowsAre _ _ _ => hRows
  have hLP := lawP_of (in4_of (by with_reducible assumption)) (in4_of (by with_reducible assumption)) (in4_of (by with_reducible assumption)) (in4_of (by with_reducible assumption)) (in4_of (by with_reducible assumption)) (in4_of (by with_reducible assumption)) (in4_of (by with_reducible assumption)) (in4_of (by with_reducible assumption)) hfold hrs
  have hRc := hRows.clean
  rename IsRange _ _ _ _ _ _ _ _ => rgX; rename Fr _ _ _ _ => lF; rename News _ _ _ _ => lN; rename Shared => s1
  replace lN := news_mid lN
  simp only [List.cons_append, List.nil_append] at lN
  k_dflt (refine' law_loop1 (cn := s1.heap.objs.size + 1 + 1 + 1) (cc := s1.heap.objs.size + 1 + 1) (cm := s1.heap.objs.size + 1) rfl rgX lF lN ?hRA ?hma ?hmc ?hta ?hcn ?hcm ?hcc ?h180 ?don hRows ?hft ?hfr ?dom ?doc ?ncm ?ncc ?nct ?htl ?turn ?done)
  case hft => k_dflt rfl
  case hfr => k_dflt rfl
  case hcn => k_dflt k_mem
  case hcm => k_dflt k_mem
  case hcc => k_dflt k_mem
  case don => with_reducible assumption
  case dom => with_reducible assumption
  case doc => with_reducible assumption
  case h180 => k_dflt k_mem
  case hRA => k_dflt k_mem
  case hma => k_dflt k_mem
  case hmc => k_dflt k_mem
  case hta => k_dflt k_mem
  case ncm => (show @Ne Nat _ _; omega)
  case ncc => (show @Ne Nat _ _; omega)
  case nct => (show @Ne Nat _ _; omega)
  case htl => (intro p hp; simp only [List.mem_cons]; grind)
  case turn =>
    intro k t on vn h tk I oI hk1 hk2 d1 F' N' off hne hnt
    (repeat' (first | (k_unfold; (try dsimp only)) | (k_end; wrow_close) | ((first | ((fail_if_success (goal_lacks subscriptTail)); (with_reducible show wpAny _ _ (subscriptTail _ _ _ _) _ _ _); (first | ((with_reducible show wpAny _ _ (subscriptTail (Expr.Subscript (Expr.Name ..) (Expr.Constant ..) _) (Expr.Constant ..) (Value.ref _) (Value.int _ _)) _ _ _); (first | (with_reducible (first | (k_here; (with_reducible show wpAny _ _ (subscriptTail _ _ (Value.ref _) (Value.int _ _)) _ _ _); k_dflt (refine' ksa_sub ?k1 ?k2 ?k3 ?k4 ?k5 ?k6 ?_ ?k7; (case k1 => k_asm); (case k2 => with_reducible assumption); (case k3 => with_reducible assumption); (case k4 => decide); (case k5 => exact LawP.lt4 (by with_reducible assumption)); (case k6 => decide); (case k7 => with_unfolding_all rfl); k_whole); intro _))) | (k_here; (with_reducible show wpAny _ _ (subscriptTail _ _ (Value.ref _) (Value.int _ _)) _ _ _); k_dflt (refine' ksa_sub ?k1 ?k2 ?k3 ?k4 ?k5 ?k6 ?_ ?k7; (case k1 => k_asm); (case k2 => with_reducible assumption); (case k3 => with_reducible assumption); (case k4 => decide); (case k5 => exact LawP.lt4 (by with_reducible assumption)); (case k6 => decide); (case k7 => with_unfolding_all rfl); k_whole); intro _)); (try walk_say "OWN subscriptTail Subscript Name Constant Constant ref int")) | ((with_reducible show wpAny _ _ (subscriptTail (Expr.Name ..) (Expr.Name ..) (Value.ref _) (Value.int _ _)) _ _ _); (first | (with_reducible (first | (k_here; (with_reducible show wpAny _ _ (subscriptTail _ _ (Value.ref _) (Value.int _ _)) _ _ _); k_dflt (refine' ksa_sub ?k1 ?k2 ints8_of ?k4 ?k5 ?k6 ?_ ?k7; (case k1 => k_asm); (case k2 => k_mem); (case k4 => omega); (case k5 => (show (_ : Int) < 8; omega)); (case k6 => omega); (case k7 => with_unfolding_all rfl); k_whole); intro _) | (k_here; (with_reducible show wpAny _ _ (subscriptTail _ _ (Value.ref _) (Value.int _ _)) _ _ _); k_dflt (refine' sub_rows ?k1 ?k2 ?k3 ?k4 ?k5 ?k6 ?_ ?k7; (case k1 => k_asm); (case k3 => with_reducible assumption); (case k2 => k_mem); (case k4 => exact fun p hp => by simp only [List.mem_cons]; grind); (case k5 => omega); (case k6 => omega); (case k7 => with_unfolding_all rfl); k_whole); intro b9q ws9q n9q hm9q hi9q) | (k_here; (with_reducible show wpAny _ _ (subscriptTail _ _ (Value.ref _) (Value.int _ _)) _ _ _); k_dflt (first | (refine' sub_at ?k1 ?k2 ?k4 ?k5 ?k3 ?_ ?k6; (case k1 => k_asm); (case k2 => k_mem); (case k4 => decide); (case k5 => decide); (case k3 => rfl); (case k6 => with_unfolding_all rfl); k_whole) | (refine' ksa_sub ?k1 ?k2 ?k3 ?k4 ?k5 ?k6 ?_ ?k7; (case k1 => k_asm); (case k2 => k_mem); (case k3 => with_reducible assumption); (case k4 => omega); (case k5 => (refine Int.lt_of_lt_of_eq ?_ (congrArg Nat.cast (by with_reducible assumption)).symm; omega)); (case k6 => omega); (case k7 => with_unfolding_all rfl); k_whole; intro _))))) | (k_here; (with_reducible show wpAny _ _ (subscriptTail _ _ (Value.ref _) (Value.int _ _)) _ _ _); k_dflt (refine' ksa_sub ?k1 ?k2 ints8_of ?k4 ?k5 ?k6 ?_ ?k7; (case k1 => k_asm); (case k2 => k_mem); (case k4 => omega); (case k5 => (show (_ : Int) < 8; omega)); (case k6 => omega); (case k7 => with_unfolding_all rfl); k_whole); intro _) | (k_here; (with_reducible show wpAny _ _ (subscriptTail _ _ (Value.ref _) (Value.int _ _)) _ _ _); k_dflt (refine' sub_rows ?k1 ?k2 ?k3 ?k4 ?k5 ?k6 ?_ ?k7; (case k1 => k_asm); (case k3 => with_reducible assumption); (case k2 => k_mem); (case k4 => exact fun p hp => by simp only [List.mem_cons]; grind); (case k5 => omega); (case k6 => omega); (case k7 => with_unfolding_all rfl); k_whole); intro b9q ws9q n9q hm9q hi9q) | (k_here; (with_reducible show wpAny _ _ (subscriptTail _ _ (Value.ref _) (Value.int _ _)) _ _ _); k_dflt (first | (refine' sub_at ?k1 ?k2 ?k4 ?k5 ?k3 ?_ ?k6; (case k1 => k_asm); (case k2 => k_mem); (case k4 => decide); (case k5 => decide); (case k3 => rfl); (case k6 => with_unfolding_all rfl); k_whole) | (refine' ksa_sub ?k1 ?k2 ?k3 ?k4 ?k5 ?k6 ?_ ?k7; (case k1 => k_asm); (case k2 => k_mem); (case k3 => with_reducible assumption); (case k4 => omega); (case k5 => (refine Int.lt_of_lt_of_eq ?_ (congrArg Nat.cast (by with_reducible assumption)).symm; omega)); (case k6 => omega); (case k7 => with_unfolding_all rfl); k_whole; intro _)))); (try walk_say "OWN subscriptTail Name Name ref int")) | ((with_reducible show wpAny _ _ (subscriptTail (Expr.Name ..) (Expr.Constant ..) (Value.ref _) (Value.int _ _)) _ _ _); (first | (with_reducible (first | (k_here; (with_reducible show wpAny _ _ (subscriptTail _ _ (Value.ref _) (Value.int _ _)) _ _ _); k_dflt (refine' sub_rows ?k1 ?k2 ?k3 ?k4 ?k5 ?k6 ?_ ?k7; (case k1 => k_asm); (case k3 => with_reducible assumption); (case k2 => k_mem); (case k4 => exact fun p hp => by simp only [List.mem_cons, List.mem_append]; grind); (case k5 => omega); (case k6 => omega); (case k7 => with_unfolding_all rfl); k_whole); intro b9q ws9q n9q hm9q hi9q))) | (k_here; (with_reducible show wpAny _ _ (subscriptTail _ _ (Value.ref _) (Value.int _ _)) _ _ _); k_dflt (refine' sub_rows ?k1 ?k2 ?k3 ?k4 ?k5 ?k6 ?_ ?k7; (case k1 => k_asm); (case k3 => with_reducible assumption); (case k2 => k_mem); (case k4 => exact fun p hp => by simp only [List.mem_cons, List.mem_append]; grind); (case k5 => omega); (case k6 => omega); (case k7 => with_unfolding_all rfl); k_whole); intro b9q ws9q n9q hm9q hi9q)); (try walk_say "OWN subscriptTail Name Constant ref int")) | ((with_reducible show wpAny _ _ (subscriptTail (Expr.Name ..) (Expr.BinOp ..) (Value.ref _) (Value.int _ _)) _ _ _); (first | (with_reducible (first | (k_here; k_dflt (refine' sub_book2 ?N ?hm ?hk ?h1 ?h2 ?_ ?hs; (case N => k_asm); (case hm => k_mem); (case hk => exact fmod2 _); (case h1 => with_reducible assumption); (case h2 => with_reducible assumption); (case hs => with_unfolding_all rfl); k_whole); intro y9q hB9q))) | (k_here; k_dflt (refine' sub_book2 ?N ?hm ?hk ?h1 ?h2 ?_ ?hs; (case N => k_asm); (case hm => k_mem); (case hk => exact fmod2 _); (case h1 => with_reducible assumption); (case h2 => with_reducible assumption); (case hs => with_unfolding_all rfl); k_whole); intro y9q hB9q)); (try walk_say "OWN subscriptTail Name BinOp ref int")) | ((first | (with_reducible (first | (k_here; (with_reducible show wpAny _ _ (subscriptTail (Expr.Tuple ..) _ (Value.ref _) (Value.int _ _)) _ _ _); k_dflt (refine' sub_sfx ?N ?hm ?hk ?_ ?hs; (case N => k_asm); (case hm => k_mem); (case hk => exact fmod2 _); (case hs => with_unfolding_all rfl); k_whole); intro sfx9q t9q hs9q) | (k_here; (with_reducible show wpAny _ _ (subscriptTail _ _ (Value.ref _) (Value.int _ _)) _ _ _); k_dflt (first | (refine' sub_at ?k1 ?k2 ?k4 ?k5 ?k3 ?_ ?k6; (case k1 => k_asm); (case k2 => k_mem); (case k4 => decide); (case k5 => decide); (case k3 => rfl); (case k6 => with_unfolding_all rfl); k_whole))))) | (k_here; (with_reducible show wpAny _ _ (subscriptTail (Expr.Tuple ..) _ (Value.ref _) (Value.int _ _)) _ _ _); k_dflt (refine' sub_sfx ?N ?hm ?hk ?_ ?hs; (case N => k_asm); (case hm => k_mem); (case hk => exact fmod2 _); (case hs => with_unfolding_all rfl); k_whole); intro sfx9q t9q hs9q) | (k_here; (with_reducible show wpAny _ _ (subscriptTail _ _ (Value.ref _) (Value.int _ _)) _ _ _); k_dflt (first | (refine' sub_at ?k1 ?k2 ?k4 ?k5 ?k3 ?_ ?k6; (case k1 => k_asm); (case k2 => k_mem); (case k4 => decide); (case k5 => decide); (case k3 => rfl); (case k6 => with_unfolding_all rfl); k_whole)))); (try walk_say "OWN subscriptTail")))) | ((fail_if_success (goal_lacks exec)); (with_reducible show wpAny _ _ (exec _ _) _ _ _); ((with_reducible show wpAny _ _ (exec (Stmt.For (Expr.Name ..) (Expr.Call ..) (_ :: _) [] _) _) _ _ _); (first | (with_reducible (first | (k_here; (rename Fr _ _ _ _ => lFpq); (with_unfolding_all refine' For_turns lFpq ?_; k_whole)))) | (k_here; (rename Fr _ _ _ _ => lFpq); (with_unfolding_all refine' For_turns lFpq ?_; k_whole))); (try walk_say "OWN exec For Name Call cons nil"))) | ((fail_if_success (goal_lacks binaryOp)); (with_reducible show wpAny _ _ (binaryOp _ _ _) _ _ _); (first | ((with_reducible show wpAny _ _ (binaryOp Operator.Mult (Value.int _ _) (Value.int _ _)) _ _ _); (first | (with_reducible (first | (k_here; with_reducible refine mul_int ?_ (IntMulOk.of_left (by decide))))) | (k_here; with_reducible refine mul_int ?_ (IntMulOk.of_left (by decide)))); (try walk_say "OWN binaryOp Mult int int")) | ((with_reducible show wpAny _ _ (binaryOp Operator.Add (Value.str _ _) (Value.str _ _)) _ _ _); (first | (with_reducible (first | (k_here; (with_reducible show wpAny _ _ (binaryOp Operator.Add (Value.str _ _) (Value.str _ _)) _ _ _); k_dflt (refine add_str (hsz := ?hz) ?_; (case hz => exact Nat.le_trans (name_fits hi (by with_reducible assumption)) (by rw [sizeLine_eq]; decide)); intro t9q tk9q)))) | (k_here; (with_reducible show wpAny _ _ (binaryOp Operator.Add (Value.str _ _) (Value.str _ _)) _ _ _); k_dflt (refine add_str (hsz := ?hz) ?_; (case hz => exact Nat.le_trans (name_fits hi (by with_reducible assumption)) (by rw [sizeLine_eq]; decide)); intro t9q tk9q))); (try walk_say "OWN binaryOp Add str str")))) | ((fail_if_success (goal_lacks compareOp)); (with_reducible show wpAny _ _ (compareOp _ _ _) _ _ _); (first | ((with_reducible show wpAny _ _ (compareOp CmpOp.NotEq (Value.int _ _) (Value.int _ _)) _ _ _); (first | (with_reducible (first | (k_here; (with_reducible show wpAny _ _ (compareOp CmpOp.NotEq (Value.int _ _) (Value.int _ _)) _ _ _); k_dflt (refine' ne_int_same ?k1 ?_; (case k1 => exact law_len (by with_reducible assumption) (by with_reducible assumption) (fmod4 _)))))) | (k_here; (with_reducible show wpAny _ _ (compareOp CmpOp.NotEq (Value.int _ _) (Value.int _ _)) _ _ _); k_dflt (refine' ne_int_same ?k1 ?_; (case k1 => exact law_len (by with_reducible assumption) (by with_reducible assumption) (fmod4 _))))); (try walk_say "OWN compareOp NotEq int int")) | ((with_reducible show wpAny _ _ (compareOp CmpOp.NotEq (Value.bool _) (Value.bool _)) _ _ _); (first | (with_reducible (first | (k_here; k_dflt (refine ne_bool_same ?_)))) | (k_here; k_dflt (refine ne_bool_same ?_))); (try walk_say "OWN compareOp NotEq bool bool")) | ((with_reducible show wpAny _ _ (compareOp CmpOp.NotEq _ _) _ _ _); (first | (with_reducible (first | (k_here; k_dflt (first | refine say_ne (by with_reducible assumption) (by assumption) ?_ | refine ne_bool_same ?_)))) | (k_here; k_dflt (first | refine say_ne (by with_reducible assumption) (by assumption) ?_ | refine ne_bool_same ?_))); (try walk_say "OWN compareOp NotEq")))) | ((fail_if_success (goal_lacks eval)); (with_reducible show wpAny _ _ (eval _ _) _ _ _); (first | ((with_reducible show wpAny _ _ (eval (Expr.ListComp ..) _) _ _ _); (first | (with_reducible (first | ((with_reducible show wpAny _ _ (eval _ _) _ _ _); k_here; lcg_look; lcg_calm; k_dflt (refine LCg.ListComp_U (F₀ := by k_asm) (by rfl) (by decide) (by rfl) (by decide) (by rfl) ?_); k_dflt lcg_toSrc))) | ((with_reducible show wpAny _ _ (eval _ _) _ _ _); k_here; lcg_look; lcg_calm; k_dflt (refine LCg.ListComp_U (F₀ := by k_asm) (by rfl) (by decide) (by rfl) (by decide) (by rfl) ?_); k_dflt lcg_toSrc)); (try walk_say "OWN eval ListComp")) | ((with_reducible show wpAny _ _ (eval (Expr.Name ..) _) _ _ _); (first | (with_reducible (first | (k_here; (with_reducible show wpAny _ _ (eval (Expr.Name _ _) (compEnvC _ _ _ _)) _ _ _); k_dflt (refine' lcf_cell ?N ?c ?m ?d ?_ ?a ?b; (case a => rfl); (case b => rfl); (case N => k_asm); (case c => rfl); (case m => k_mem); (case d => with_reducible assumption); k_whole)) | (k_here; (with_reducible show wpAny _ _ (eval (Expr.Name _ _) (compEnvC _ _ _ _)) _ _ _); k_dflt (refine' LCgL.ld_own ?N ?m ?d ?x ?_ ?a ?b; (case a => rfl); (case b => rfl); (case N => k_asm); (case m => k_mem); (case d => with_reducible assumption); (case x => with_reducible assumption); k_whole)))) | (k_here; (with_reducible show wpAny _ _ (eval (Expr.Name _ _) (compEnvC _ _ _ _)) _ _ _); k_dflt (refine' lcf_cell ?N ?c ?m ?d ?_ ?a ?b; (case a => rfl); (case b => rfl); (case N => k_asm); (case c => rfl); (case m => k_mem); (case d => with_reducible assumption); k_whole)) | (k_here; (with_reducible show wpAny _ _ (eval (Expr.Name _ _) (compEnvC _ _ _ _)) _ _ _); k_dflt (refine' LCgL.ld_own ?N ?m ?d ?x ?_ ?a ?b; (case a => rfl); (case b => rfl); (case N => k_asm); (case m => k_mem); (case d => with_reducible assumption); (case x => with_reducible assumption); k_whole))); (try walk_say "OWN eval Name")))) | ((fail_if_success (goal_lacks call)); (with_reducible show wpAny _ _ (call _ _) _ _ _); (first | ((first | (with_reducible (first | (k_here; (with_reducible show wpAny _ _ (call (Value.ref 192) _) _ _ _); k_dflt (refine' merges_spec _ _ _ _ _ _ (rest := [(_, W.listOf (List.toArray [.int _ _, .int _ _, .int _ _, .int _ _, .int _ _, .int _ _, .int _ _, .int _ _]) _)]) ?k1 ?k2 ?k3 ?k4 ?k5 ?kK ?hm ?hb ?hps ?hlen ?hrest ?hrg ?kd ?ku ?_; (case k1 => k_asm); (case k2 => k_asm); (case k3 => k_asm); (case k4 => k_asm); (case k5 => k_asm); (case kK => exact rfl); (case kd => decide); (case ku => decide); (case hm => k_mem); (case hb => k_mem); (case hps => exact PairsAre.mono (by with_reducible assumption) fun q hq => List.mem_cons_of_mem _ hq); (case hlen => with_reducible assumption); (case hrg => exact LawP.rng (by with_reducible assumption) _ (fmod4 _)); (case hrest => exact List.forall_mem_cons.mpr ⟨⟨by k_mem, tab_ne_seq (by k_asm) (by k_mem) (by k_mem) rfl⟩, List.forall_mem_nil _⟩)); intro D9q y1q y2q nd9q nw9q hpq tkpq Fpq Npq hD9q hB1q hB2q hT9q; obtain ⟨pt9q, hT9q⟩ := hT9q; (have N9pq := law_pick Npq hD9q hT9q)) | (k_here; (with_reducible show wpAny _ _ (call (Value.ref 171) _) _ _ _); k_dflt (refine' front_spec _ _ _ _ _ _ ?k1 ?k2 ?k3 ?k4 ?k5 ?kK ?hb ?kd ?ku ?_; (case k1 => k_asm); (case k2 => k_asm); (case k3 => k_asm); (case k4 => k_asm); (case k5 => k_asm); (case kK => exact rfl); (case kd => decide); (case ku => decide); (case hb => omega)); intro t9q hpq tkpq Fpq Npq) | (k_here; (with_reducible show wpAny _ _ (call (Value.ref 178) _) _ _ _); k_dflt (refine' saying_spec _ _ _ _ _ _ ?k1 ?k2 ?k3 ?k4 ?k5 ?kK ?hb ?kd ?ku ?_; (case k1 => k_asm); (case k2 => k_asm); (case k3 => k_asm); (case k4 => k_asm); (case k5 => k_asm); (case kK => exact rfl); (case kd => decide); (case ku => decide); (case hb => exact LawP.b (by with_reducible assumption) i hi)); intro v9q hpq tkpq hS9q Fpq Npq; (replace hS9q : SayIs (List.getD _ i 0) v9q := hS9q)) | (k_here; (with_reducible show wpAny _ _ (call (Value.ref 164) _) _ _ _); k_dflt (refine' lay_spec _ _ _ _ _ _ 4 ?k1 ?k2 ?k3 ?k4 ?k5 ?kK ?hm ?hi ?hl ?n1 ?n2 ?s1 ?s2 ?t1 ?t2 ?hf ?hg ?kd ?ku ?_; (case k1 => k_asm); (case k2 => k_asm); (case k3 => k_asm); (case k4 => k_asm); (case k5 => k_asm); (case kK => exact rfl); (case kd => decide); (case ku => decide); (case hm => k_mem); (case hi => with_reducible assumption); (case hl => with_reducible assumption); (case n1 => decide); (case n2 => decide); (case s1 => decide); (case s2 => decide); (case t1 => exact (fmod4 _).1); (case t2 => exact (fmod4 _).2); (case hf => decide); (case hg => decide)); intro b9q vs9q n9q tl9q hpq tkpq Fpq Npq hp9q hv9q; (try simp only [List.cons_append, List.nil_append] at Npq hp9q)) | (k_here; (with_reducible show wpAny _ _ (call (Value.ref 157) _) _ _ _); k_dflt (refine' few_spec _ _ _ _ _ _ ?k1 ?k2 ?k3 ?k4 ?k5 ?kK ?hm ?kd ?ku ?_; (case k1 => k_asm); (case k2 => k_asm); (case k3 => k_asm); (case k4 => k_asm); (case k5 => k_asm); (case kK => exact rfl); (case kd => decide); (case ku => decide); (case hm => k_mem)); intro RAq rvsq n3q rsq tl3q hpq tkpq Fpq Npq hR9q hrs9q hrl9q) | (k_here; (with_reducible show wpAny _ _ (call (Value.ref 152) _) _ _ _); k_dflt (refine' masks_spec _ _ _ _ _ _ ?k1 ?k2 ?k3 ?k4 ?k5 ?kK ?hm ?b0 ?b1 ?b2 ?b3 ?b4 ?b5 ?b6 ?b7 ?kd ?ku ?_; (case k1 => k_asm); (case k2 => k_asm); (case k3 => k_asm); (case k4 => k_asm); (case k5 => k_asm); (case kK => exact rfl); (case kd => decide); (case ku => decide); (case hm => k_mem); (case b0 => exact in4_of (by with_reducible assumption)); (case b1 => exact in4_of (by with_reducible assumption)); (case b2 => exact in4_of (by with_reducible assumption)); (case b3 => exact in4_of (by with_reducible assumption)); (case b4 => exact in4_of (by with_reducible assumption)); (case b5 => exact in4_of (by with_reducible assumption)); (case b6 => exact in4_of (by with_reducible assumption)); (case b7 => exact in4_of (by with_reducible assumption))); intro raq maq mcq mvsq cvsq n1q n2q msq csq hpq tkpq Fpq Npq iMq iCq lMq lCq hfoldq) | (k_here; (with_reducible show wpAny _ _ (call (Value.ref 147) _) _ _ _); k_dflt (refine' cells_spec _ _ _ _ _ _ ?k1 ?k2 ?k3 ?k4 ?k5 ?kK ?hl ?hi ?hlen ?kd ?ku ?_; (case k1 => k_asm); (case k2 => k_asm); (case k3 => k_asm); (case k4 => k_asm); (case k5 => k_asm); (case kK => exact rfl); (case kd => decide); (case ku => decide); (case hl => assumption); (case hi => assumption); (case hlen => omega)); intro caq cvsq n0q xsq hpq tkpq Fpq Npq hIpq hlenpq; obtain ⟨c0q, c1q, c2q, c3q, c4q, c5q, c6q, c7q, u0q, u1q, u2q, u3q, u4q, u5q, u6q, u7q, hc9q⟩ := ints8 hIpq hlenpq; subst hc9q; clear hIpq hlenpq) | (k_here; k_dflt (show wpAny _ _ (call (Value.ref 49) [Value.ref _, Value.str _ _]) _ _ _); k_dflt (refine' book_allow _ _ _ _ _ _ ?k1 ?k2 ?k3 ?k4 ?k5 ?kK ?hB ?hs ?hnm ?hp ?kd ?ku ?_; (case k1 => k_asm); (case k2 => k_asm); (case k3 => k_asm); (case k4 => k_asm); (case k5 => k_asm); (case kK => exact rfl); (case hB => with_reducible assumption); (case hs => exact fun q hq => by simp only [List.mem_cons]; grind); (case hnm => exact name_len hi (by with_reducible assumption)); (case kd => decide); (case ku => decide); (case hp => exact say_of (by with_reducible assumption) i hi _ (by with_reducible assumption) (congrArg (fun k => frontS k ++ _) (show (8 : Int) + (i : Int) = ((8 + i : Nat) : Int) by omega)))); intro v9q hpq tkpq hS9q Fpq Npq))) | (k_here; (with_reducible show wpAny _ _ (call (Value.ref 192) _) _ _ _); k_dflt (refine' merges_spec _ _ _ _ _ _ (rest := [(_, W.listOf (List.toArray [.int _ _, .int _ _, .int _ _, .int _ _, .int _ _, .int _ _, .int _ _, .int _ _]) _)]) ?k1 ?k2 ?k3 ?k4 ?k5 ?kK ?hm ?hb ?hps ?hlen ?hrest ?hrg ?kd ?ku ?_; (case k1 => k_asm); (case k2 => k_asm); (case k3 => k_asm); (case k4 => k_asm); (case k5 => k_asm); (case kK => exact rfl); (case kd => decide); (case ku => decide); (case hm => k_mem); (case hb => k_mem); (case hps => exact PairsAre.mono (by with_reducible assumption) fun q hq => List.mem_cons_of_mem _ hq); (case hlen => with_reducible assumption); (case hrg => exact LawP.rng (by with_reducible assumption) _ (fmod4 _)); (case hrest => exact List.forall_mem_cons.mpr ⟨⟨by k_mem, tab_ne_seq (by k_asm) (by k_mem) (by k_mem) rfl⟩, List.forall_mem_nil _⟩)); intro D9q y1q y2q nd9q nw9q hpq tkpq Fpq Npq hD9q hB1q hB2q hT9q; obtain ⟨pt9q, hT9q⟩ := hT9q; (have N9pq := law_pick Npq hD9q hT9q)) | (k_here; (with_reducible show wpAny _ _ (call (Value.ref 171) _) _ _ _); k_dflt (refine' front_spec _ _ _ _ _ _ ?k1 ?k2 ?k3 ?k4 ?k5 ?kK ?hb ?kd ?ku ?_; (case k1 => k_asm); (case k2 => k_asm); (case k3 => k_asm); (case k4 => k_asm); (case k5 => k_asm); (case kK => exact rfl); (case kd => decide); (case ku => decide); (case hb => omega)); intro t9q hpq tkpq Fpq Npq) | (k_here; (with_reducible show wpAny _ _ (call (Value.ref 178) _) _ _ _); k_dflt (refine' saying_spec _ _ _ _ _ _ ?k1 ?k2 ?k3 ?k4 ?k5 ?kK ?hb ?kd ?ku ?_; (case k1 => k_asm); (case k2 => k_asm); (case k3 => k_asm); (case k4 => k_asm); (case k5 => k_asm); (case kK => exact rfl); (case kd => decide); (case ku => decide); (case hb => exact LawP.b (by with_reducible assumption) i hi)); intro v9q hpq tkpq hS9q Fpq Npq; (replace hS9q : SayIs (List.getD _ i 0) v9q := hS9q)) | (k_here; (with_reducible show wpAny _ _ (call (Value.ref 164) _) _ _ _); k_dflt (refine' lay_spec _ _ _ _ _ _ 4 ?k1 ?k2 ?k3 ?k4 ?k5 ?kK ?hm ?hi ?hl ?n1 ?n2 ?s1 ?s2 ?t1 ?t2 ?hf ?hg ?kd ?ku ?_; (case k1 => k_asm); (case k2 => k_asm); (case k3 => k_asm); (case k4 => k_asm); (case k5 => k_asm); (case kK => exact rfl); (case kd => decide); (case ku => decide); (case hm => k_mem); (case hi => with_reducible assumption); (case hl => with_reducible assumption); (case n1 => decide); (case n2 => decide); (case s1 => decide); (case s2 => decide); (case t1 => exact (fmod4 _).1); (case t2 => exact (fmod4 _).2); (case hf => decide); (case hg => decide)); intro b9q vs9q n9q tl9q hpq tkpq Fpq Npq hp9q hv9q; (try simp only [List.cons_append, List.nil_append] at Npq hp9q)) | (k_here; (with_reducible show wpAny _ _ (call (Value.ref 157) _) _ _ _); k_dflt (refine' few_spec _ _ _ _ _ _ ?k1 ?k2 ?k3 ?k4 ?k5 ?kK ?hm ?kd ?ku ?_; (case k1 => k_asm); (case k2 => k_asm); (case k3 => k_asm); (case k4 => k_asm); (case k5 => k_asm); (case kK => exact rfl); (case kd => decide); (case ku => decide); (case hm => k_mem)); intro RAq rvsq n3q rsq tl3q hpq tkpq Fpq Npq hR9q hrs9q hrl9q) | (k_here; (with_reducible show wpAny _ _ (call (Value.ref 152) _) _ _ _); k_dflt (refine' masks_spec _ _ _ _ _ _ ?k1 ?k2 ?k3 ?k4 ?k5 ?kK ?hm ?b0 ?b1 ?b2 ?b3 ?b4 ?b5 ?b6 ?b7 ?kd ?ku ?_; (case k1 => k_asm); (case k2 => k_asm); (case k3 => k_asm); (case k4 => k_asm); (case k5 => k_asm); (case kK => exact rfl); (case kd => decide); (case ku => decide); (case hm => k_mem); (case b0 => exact in4_of (by with_reducible assumption)); (case b1 => exact in4_of (by with_reducible assumption)); (case b2 => exact in4_of (by with_reducible assumption)); (case b3 => exact in4_of (by with_reducible assumption)); (case b4 => exact in4_of (by with_reducible assumption)); (case b5 => exact in4_of (by with_reducible assumption)); (case b6 => exact in4_of (by with_reducible assumption)); (case b7 => exact in4_of (by with_reducible assumption))); intro raq maq mcq mvsq cvsq n1q n2q msq csq hpq tkpq Fpq Npq iMq iCq lMq lCq hfoldq) | (k_here; (with_reducible show wpAny _ _ (call (Value.ref 147) _) _ _ _); k_dflt (refine' cells_spec _ _ _ _ _ _ ?k1 ?k2 ?k3 ?k4 ?k5 ?kK ?hl ?hi ?hlen ?kd ?ku ?_; (case k1 => k_asm); (case k2 => k_asm); (case k3 => k_asm); (case k4 => k_asm); (case k5 => k_asm); (case kK => exact rfl); (case kd => decide); (case ku => decide); (case hl => assumption); (case hi => assumption); (case hlen => omega)); intro caq cvsq n0q xsq hpq tkpq Fpq Npq hIpq hlenpq; obtain ⟨c0q, c1q, c2q, c3q, c4q, c5q, c6q, c7q, u0q, u1q, u2q, u3q, u4q, u5q, u6q, u7q, hc9q⟩ := ints8 hIpq hlenpq; subst hc9q; clear hIpq hlenpq) | (k_here; k_dflt (show wpAny _ _ (call (Value.ref 49) [Value.ref _, Value.str _ _]) _ _ _); k_dflt (refine' book_allow _ _ _ _ _ _ ?k1 ?k2 ?k3 ?k4 ?k5 ?kK ?hB ?hs ?hnm ?hp ?kd ?ku ?_; (case k1 => k_asm); (case k2 => k_asm); (case k3 => k_asm); (case k4 => k_asm); (case k5 => k_asm); (case kK => exact rfl); (case hB => with_reducible assumption); (case hs => exact fun q hq => by simp only [List.mem_cons]; grind); (case hnm => exact name_len hi (by with_reducible assumption)); (case kd => decide); (case ku => decide); (case hp => exact say_of (by with_reducible assumption) i hi _ (by with_reducible assumption) (congrArg (fun k => frontS k ++ _) (show (8 : Int) + (i : Int) = ((8 + i : Nat) : Int) by omega)))); intro v9q hpq tkpq hS9q Fpq Npq)); (try walk_say "OWN call ref")) | ((with_reducible show wpAny _ _ (call (Value.builtin "len") _) _ _ _); (first | (with_reducible (first | (k_here; (with_reducible show wpAny _ _ (call (Value.builtin "len") [Value.ref _]) _ _ _); k_dflt (refine' len_led ?k1 ?k2 ?k3 ?_; (case k1 => k_asm); (case k2 => k_mem); (case k3 => with_reducible assumption); k_whole); intro t9q tk9q))) | (k_here; (with_reducible show wpAny _ _ (call (Value.builtin "len") [Value.ref _]) _ _ _); k_dflt (refine' len_led ?k1 ?k2 ?k3 ?_; (case k1 => k_asm); (case k2 => k_mem); (case k3 => with_reducible assumption); k_whole); intro t9q tk9q)); (try walk_say "OWN call builtin:len")) | ((with_reducible show wpAny _ _ (call (Value.builtin "isinstance") _) _ _ _); (first | (with_reducible (first | (k_here; (with_reducible show wpAny _ _ (call (Value.builtin "isinstance") [_, Value.type "bool"]) _ _ _); k_dflt (refine' say_isb ?h1 ?_; (case h1 => with_reducible assumption); k_whole); intro tk9q))) | (k_here; (with_reducible show wpAny _ _ (call (Value.builtin "isinstance") [_, Value.type "bool"]) _ _ _); k_dflt (refine' say_isb ?h1 ?_; (case h1 => with_reducible assumption); k_whole); intro tk9q)); (try walk_say "OWN call builtin:isinstance")))) | ((fail_if_success (goal_lacks getMethod)); (with_reducible show wpAny _ _ (getMethod _ _ _) _ _ _); ((first | (with_reducible (first | (k_here; (with_reducible show wpAny _ _ (getMethod (Value.ref _) (Str.ofString "allowance") _) _ _ _); k_dflt (refine' book_method _ _ _ _ _ _ ?hB ?k1 ?k2 ?k3 ?k4 ?_; (case hB => with_reducible assumption); (case k1 => k_asm); (case k2 => k_asm); (case k3 => k_asm); (case k4 => exact fun q hq => by simp only [List.mem_cons]; grind); k_whole); (try dsimp only)))) | (k_here; (with_reducible show wpAny _ _ (getMethod (Value.ref _) (Str.ofString "allowance") _) _ _ _); k_dflt (refine' book_method _ _ _ _ _ _ ?hB ?k1 ?k2 ?k3 ?k4 ?_; (case hB => with_reducible assumption); (case k1 => k_asm); (case k2 => k_asm); (case k3 => k_asm); (case k4 => exact fun q hq => by simp only [List.mem_cons]; grind); k_whole); (try dsimp only))); (try walk_say "OWN getMethod ref"))) | ((fail_if_success (goal_lacks InvEndN)); (with_reducible show InvEndN ..); (repeat clear qk); (repeat clear ek); ((first | (with_reducible (first | k_dflt kst_close)) | k_dflt kst_close); (try walk_say "OWN InvEndN"))) | ((fail_if_success (goal_lacks LCg.CompEnd)); (with_reducible show LCg.CompEnd ..); ((first | (with_reducible (first | first | (k_dflt (refine' ce_int ?a1 ?a2 ?a3 ?a4 ?_; (case a1 => k_asm); (case a2 => k_asm); (case a3 => with_reducible assumption); (case a4 => first | exact True.intro | lcg_src)); intro z9q hz9q) | (k_dflt (refine' ce_same ?a1 ?a2 ?a3 ?a4 ?_; (case a1 => k_asm); (case a2 => k_asm); (case a3 => with_reducible assumption); (case a4 => first | exact True.intro | lcg_src))) | (k_dflt (refine' ce_one ?a1 ?a2 ?a3 ?a5 ?a4 ?_; (case a1 => k_asm); (case a2 => k_asm); (case a3 => with_reducible assumption); (case a5 => with_reducible assumption); (case a4 => first | exact True.intro | lcg_src))) | k_dflt lcg_end)) | first | (k_dflt (refine' ce_int ?a1 ?a2 ?a3 ?a4 ?_; (case a1 => k_asm); (case a2 => k_asm); (case a3 => with_reducible assumption); (case a4 => first | exact True.intro | lcg_src)); intro z9q hz9q) | (k_dflt (refine' ce_same ?a1 ?a2 ?a3 ?a4 ?_; (case a1 => k_asm); (case a2 => k_asm); (case a3 => with_reducible assumption); (case a4 => first | exact True.intro | lcg_src))) | (k_dflt (refine' ce_one ?a1 ?a2 ?a3 ?a5 ?a4 ?_; (case a1 => k_asm); (case a2 => k_asm); (case a3 => with_reducible assumption); (case a5 => with_reducible assumption); (case a4 => first | exact True.intro | lcg_src))) | k_dflt lcg_end); (try walk_say "OWN CompEnd"))) | ((fail_if_success (goal_lacks LCg.CompRest)); (with_reducible show LCg.CompRest ..); ((first | (with_reducible (first | (with_unfolding_all first | (refine LCg.CompRest.succ ?_; intro vpq Ipq oIpq Cpq oCpq Dpq mpq hpq tkpq Epq hvpq hCpq hxpq Fpq Npq offpq nepq; clear nepq; (first | lcg_open hvpq | (obtain ⟨t9pq, hv9pq⟩ := hvpq; subst hv9pq))) | refine LCg.CompRest.zero ?_))) | (with_unfolding_all first | (refine LCg.CompRest.succ ?_; intro vpq Ipq oIpq Cpq oCpq Dpq mpq hpq tkpq Epq hvpq hCpq hxpq Fpq Npq offpq nepq; clear nepq; (first | lcg_open hvpq | (obtain ⟨t9pq, hv9pq⟩ := hvpq; subst hv9pq))) | refine LCg.CompRest.zero ?_)); (try walk_say "OWN CompRest"))) | ((fail_if_success (goal_lacks LCg.FinE)); (with_reducible show LCg.FinE ..); ((first | (with_reducible (first | ((unfold LCg.FinE); intro Dpq hpq tkpq Fpq Npq o1pq; (try simp only [List.nil_append, List.cons_append] at Npq); (try dsimp only)))) | ((unfold LCg.FinE); intro Dpq hpq tkpq Fpq Npq o1pq; (try simp only [List.nil_append, List.cons_append] at Npq); (try dsimp only))); (try walk_say "OWN FinE"))) | ((fail_if_success (goal_lacks CRestC)); (with_reducible show CRestC ..); ((first | (with_reducible (first | (with_unfolding_all first | (refine CRestC.succ ?_; intro vpq Ipq oIpq Cpq oCpq cpq ocpq Dpq hpq tkpq Epq hvpq hdpq Fpq Npq offpq nepq offcpq; clear nepq; lcg_open hvpq) | refine CRestC.zero ?_))) | (with_unfolding_all first | (refine CRestC.succ ?_; intro vpq Ipq oIpq Cpq oCpq cpq ocpq Dpq hpq tkpq Epq hvpq hdpq Fpq Npq offpq nepq offcpq; clear nepq; lcg_open hvpq) | refine CRestC.zero ?_)); (try walk_say "OWN CRestC"))) | ((fail_if_success (goal_lacks RestC)); (with_reducible show RestC ..); ((first | (with_reducible (first | (k_dflt (refine restC_one (by with_reducible assumption) (by with_reducible assumption) ?_)))) | (k_dflt (refine restC_one (by with_reducible assumption) (by with_reducible assumption) ?_))); (try walk_say "OWN RestC"))) | walk1 | (dsimp only; walk1) | (dsimp only [List.cons_append, List.nil_append]; walk1)); (try (goal_lacks LoopAtV TurnsAt; (first | (fail_if_success k_fold; skip) | (refine foldQ ?_; intro qk))))) | ((with_reducible show wpAny _ _ _ _ _ _); dsimp only) | (leave1; walk_say "STEP leave1"; try dsimp only) | fail "no step"))
    k_dflt (refine' rows_ne ?k1 ?k2 ?k3 ?k4 ?k5 ?k6 ?k7 ?_)
    case k1 => k_asm
    case k2 => exact List.mem_cons_of_mem _ (by with_reducible assumption)
    case k3 => with_reducible assumption
    case k4 => k_mem
    case k5 => exact .cons _ _ (.cons _ _ (.cons _ _ (.cons _ _ .nil)))
    case k6 => units_room
    case k7 => exact row_law (LawP.rows hLP) hk1 hk2 (by assumption) (by assumption) (by assumption) (by assumption)
    (repeat' (first | (k_unfold; (try dsimp only)) | (k_end; wrow_close) | ((first | ((fail_if_success (goal_lacks subscriptTail)); (with_reducible show wpAny _ _ (subscriptTail _ _ _ _) _ _ _); (first | ((with_reducible show wpAny _ _ (subscriptTail (Expr.Subscript (Expr.Name ..) (Expr.Constant ..) _) (Expr.Constant ..) (Value.ref _) (Value.int _ _)) _ _ _); (first | (with_reducible (first | (k_here; (with_reducible show wpAny _ _ (subscriptTail _ _ (Value.ref _) (Value.int _ _)) _ _ _); k_dflt (refine' ksa_sub ?k1 ?k2 ?k3 ?k4 ?k5 ?k6 ?_ ?k7; (case k1 => k_asm); (case k2 => with_reducible assumption); (case k3 => with_reducible assumption); (case k4 => decide); (case k5 => exact LawP.lt4 (by with_reducible assumption)); (case k6 => decide); (case k7 => with_unfolding_all rfl); k_whole); intro _))) | (k_here; (with_reducible show wpAny _ _ (subscriptTail _ _ (Value.ref _) (Value.int _ _)) _ _ _); k_dflt (refine' ksa_sub ?k1 ?k2 ?k3 ?k4 ?k5 ?k6 ?_ ?k7; (case k1 => k_asm); (case k2 => with_reducible assumption); (case k3 => with_reducible assumption); (case k4 => decide); (case k5 => exact LawP.lt4 (by with_reducible assumption)); (case k6 => decide); (case k7 => with_unfolding_all rfl); k_whole); intro _)); (try walk_say "OWN subscriptTail Subscript Name Constant Constant ref int")) | ((with_reducible show wpAny _ _ (subscriptTail (Expr.Name ..) (Expr.Name ..) (Value.ref _) (Value.int _ _)) _ _ _); (first | (with_reducible (first | (k_here; (with_reducible show wpAny _ _ (subscriptTail _ _ (Value.ref _) (Value.int _ _)) _ _ _); k_dflt (refine' ksa_sub ?k1 ?k2 ints8_of ?k4 ?k5 ?k6 ?_ ?k7; (case k1 => k_asm); (case k2 => k_mem); (case k4 => omega); (case k5 => (show (_ : Int) < 8; omega)); (case k6 => omega); (case k7 => with_unfolding_all rfl); k_whole); intro _) | (k_here; (with_reducible show wpAny _ _ (subscriptTail _ _ (Value.ref _) (Value.int _ _)) _ _ _); k_dflt (refine' sub_rows ?k1 ?k2 ?k3 ?k4 ?k5 ?k6 ?_ ?k7; (case k1 => k_asm); (case k3 => with_reducible assumption); (case k2 => k_mem); (case k4 => exact fun p hp => by simp only [List.mem_cons]; grind); (case k5 => omega); (case k6 => omega); (case k7 => with_unfolding_all rfl); k_whole); intro b9q ws9q n9q hm9q hi9q) | (k_here; (with_reducible show wpAny _ _ (subscriptTail _ _ (Value.ref _) (Value.int _ _)) _ _ _); k_dflt (first | (refine' sub_at ?k1 ?k2 ?k4 ?k5 ?k3 ?_ ?k6; (case k1 => k_asm); (case k2 => k_mem); (case k4 => decide); (case k5 => decide); (case k3 => rfl); (case k6 => with_unfolding_all rfl); k_whole) | (refine' ksa_sub ?k1 ?k2 ?k3 ?k4 ?k5 ?k6 ?_ ?k7; (case k1 => k_asm); (case k2 => k_mem); (case k3 => with_reducible assumption); (case k4 => omega); (case k5 => (refine Int.lt_of_lt_of_eq ?_ (congrArg Nat.cast (by with_reducible assumption)).symm; omega)); (case k6 => omega); (case k7 => with_unfolding_all rfl); k_whole; intro _))))) | (k_here; (with_reducible show wpAny _ _ (subscriptTail _ _ (Value.ref _) (Value.int _ _)) _ _ _); k_dflt (refine' ksa_sub ?k1 ?k2 ints8_of ?k4 ?k5 ?k6 ?_ ?k7; (case k1 => k_asm); (case k2 => k_mem); (case k4 => omega); (case k5 => (show (_ : Int) < 8; omega)); (case k6 => omega); (case k7 => with_unfolding_all rfl); k_whole); intro _) | (k_here; (with_reducible show wpAny _ _ (subscriptTail _ _ (Value.ref _) (Value.int _ _)) _ _ _); k_dflt (refine' sub_rows ?k1 ?k2 ?k3 ?k4 ?k5 ?k6 ?_ ?k7; (case k1 => k_asm); (case k3 => with_reducible assumption); (case k2 => k_mem); (case k4 => exact fun p hp => by simp only [List.mem_cons]; grind); (case k5 => omega); (case k6 => omega); (case k7 => with_unfolding_all rfl); k_whole); intro b9q ws9q n9q hm9q hi9q) | (k_here; (with_reducible show wpAny _ _ (subscriptTail _ _ (Value.ref _) (Value.int _ _)) _ _ _); k_dflt (first | (refine' sub_at ?k1 ?k2 ?k4 ?k5 ?k3 ?_ ?k6; (case k1 => k_asm); (case k2 => k_mem); (case k4 => decide); (case k5 => decide); (case k3 => rfl); (case k6 => with_unfolding_all rfl); k_whole) | (refine' ksa_sub ?k1 ?k2 ?k3 ?k4 ?k5 ?k6 ?_ ?k7; (case k1 => k_asm); (case k2 => k_mem); (case k3 => with_reducible assumption); (case k4 => omega); (case k5 => (refine Int.lt_of_lt_of_eq ?_ (congrArg Nat.cast (by with_reducible assumption)).symm; omega)); (case k6 => omega); (case k7 => with_unfolding_all rfl); k_whole; intro _)))); (try walk_say "OWN subscriptTail Name Name ref int")) | ((with_reducible show wpAny _ _ (subscriptTail (Expr.Name ..) (Expr.Constant ..) (Value.ref _) (Value.int _ _)) _ _ _); (first | (with_reducible (first | (k_here; (with_reducible show wpAny _ _ (subscriptTail _ _ (Value.ref _) (Value.int _ _)) _ _ _); k_dflt (refine' sub_rows ?k1 ?k2 ?k3 ?k4 ?k5 ?k6 ?_ ?k7; (case k1 => k_asm); (case k3 => with_reducible assumption); (case k2 => k_mem); (case k4 => exact fun p hp => by simp only [List.mem_cons, List.mem_append]; grind); (case k5 => omega); (case k6 => omega); (case k7 => with_unfolding_all rfl); k_whole); intro b9q ws9q n9q hm9q hi9q))) | (k_here; (with_reducible show wpAny _ _ (subscriptTail _ _ (Value.ref _) (Value.int _ _)) _ _ _); k_dflt (refine' sub_rows ?k1 ?k2 ?k3 ?k4 ?k5 ?k6 ?_ ?k7; (case k1 => k_asm); (case k3 => with_reducible assumption); (case k2 => k_mem); (case k4 => exact fun p hp => by simp only [List.mem_cons, List.mem_append]; grind); (case k5 => omega); (case k6 => omega); (case k7 => with_unfolding_all rfl); k_whole); intro b9q ws9q n9q hm9q hi9q)); (try walk_say "OWN subscriptTail Name Constant ref int")) | ((with_reducible show wpAny _ _ (subscriptTail (Expr.Name ..) (Expr.BinOp ..) (Value.ref _) (Value.int _ _)) _ _ _); (first | (with_reducible (first | (k_here; k_dflt (refine' sub_book2 ?N ?hm ?hk ?h1 ?h2 ?_ ?hs; (case N => k_asm); (case hm => k_mem); (case hk => exact fmod2 _); (case h1 => with_reducible assumption); (case h2 => with_reducible assumption); (case hs => with_unfolding_all rfl); k_whole); intro y9q hB9q))) | (k_here; k_dflt (refine' sub_book2 ?N ?hm ?hk ?h1 ?h2 ?_ ?hs; (case N => k_asm); (case hm => k_mem); (case hk => exact fmod2 _); (case h1 => with_reducible assumption); (case h2 => with_reducible assumption); (case hs => with_unfolding_all rfl); k_whole); intro y9q hB9q)); (try walk_say "OWN subscriptTail Name BinOp ref int")) | ((first | (with_reducible (first | (k_here; (with_reducible show wpAny _ _ (subscriptTail (Expr.Tuple ..) _ (Value.ref _) (Value.int _ _)) _ _ _); k_dflt (refine' sub_sfx ?N ?hm ?hk ?_ ?hs; (case N => k_asm); (case hm => k_mem); (case hk => exact fmod2 _); (case hs => with_unfolding_all rfl); k_whole); intro sfx9q t9q hs9q) | (k_here; (with_reducible show wpAny _ _ (subscriptTail _ _ (Value.ref _) (Value.int _ _)) _ _ _); k_dflt (first | (refine' sub_at ?k1 ?k2 ?k4 ?k5 ?k3 ?_ ?k6; (case k1 => k_asm); (case k2 => k_mem); (case k4 => decide); (case k5 => decide); (case k3 => rfl); (case k6 => with_unfolding_all rfl); k_whole))))) | (k_here; (with_reducible show wpAny _ _ (subscriptTail (Expr.Tuple ..) _ (Value.ref _) (Value.int _ _)) _ _ _); k_dflt (refine' sub_sfx ?N ?hm ?hk ?_ ?hs; (case N => k_asm); (case hm => k_mem); (case hk => exact fmod2 _); (case hs => with_unfolding_all rfl); k_whole); intro sfx9q t9q hs9q) | (k_here; (with_reducible show wpAny _ _ (subscriptTail _ _ (Value.ref _) (Value.int _ _)) _ _ _); k_dflt (first | (refine' sub_at ?k1 ?k2 ?k4 ?k5 ?k3 ?_ ?k6; (case k1 => k_asm); (case k2 => k_mem); (case k4 => decide); (case k5 => decide); (case k3 => rfl); (case k6 => with_unfolding_all rfl); k_whole)))); (try walk_say "OWN subscriptTail")))) | ((fail_if_success (goal_lacks exec)); (with_reducible show wpAny _ _ (exec _ _) _ _ _); ((with_reducible show wpAny _ _ (exec (Stmt.For (Expr.Name ..) (Expr.Call ..) (_ :: _) [] _) _) _ _ _); (first | (with_reducible (first | (k_here; (rename Fr _ _ _ _ => lFpq); (with_unfolding_all refine' For_turns lFpq ?_; k_whole)))) | (k_here; (rename Fr _ _ _ _ => lFpq); (with_unfolding_all refine' For_turns lFpq ?_; k_whole))); (try walk_say "OWN exec For Name Call cons nil"))) | ((fail_if_success (goal_lacks binaryOp)); (with_reducible show wpAny _ _ (binaryOp _ _ _) _ _ _); (first | ((with_reducible show wpAny _ _ (binaryOp Operator.Mult (Value.int _ _) (Value.int _ _)) _ _ _); (first | (with_reducible (first | (k_here; with_reducible refine mul_int ?_ (IntMulOk.of_left (by decide))))) | (k_here; with_reducible refine mul_int ?_ (IntMulOk.of_left (by decide)))); (try walk_say "OWN binaryOp Mult int int")) | ((with_reducible show wpAny _ _ (binaryOp Operator.Add (Value.str _ _) (Value.str _ _)) _ _ _); (first | (with_reducible (first | (k_here; (with_reducible show wpAny _ _ (binaryOp Operator.Add (Value.str _ _) (Value.str _ _)) _ _ _); k_dflt (refine add_str (hsz := ?hz) ?_; (case hz => exact Nat.le_trans (name_fits hi (by with_reducible assumption)) (by rw [sizeLine_eq]; decide)); intro t9q tk9q)))) | (k_here; (with_reducible show wpAny _ _ (binaryOp Operator.Add (Value.str _ _) (Value.str _ _)) _ _ _); k_dflt (refine add_str (hsz := ?hz) ?_; (case hz => exact Nat.le_trans (name_fits hi (by with_reducible assumption)) (by rw [sizeLine_eq]; decide)); intro t9q tk9q))); (try walk_say "OWN binaryOp Add str str")))) | ((fail_if_success (goal_lacks compareOp)); (with_reducible show wpAny _ _ (compareOp _ _ _) _ _ _); (first | ((with_reducible show wpAny _ _ (compareOp CmpOp.NotEq (Value.int _ _) (Value.int _ _)) _ _ _); (first | (with_reducible (first | (k_here; (with_reducible show wpAny _ _ (compareOp CmpOp.NotEq (Value.int _ _) (Value.int _ _)) _ _ _); k_dflt (refine' ne_int_same ?k1 ?_; (case k1 => exact law_len (by with_reducible assumption) (by with_reducible assumption) (fmod4 _)))))) | (k_here; (with_reducible show wpAny _ _ (compareOp CmpOp.NotEq (Value.int _ _) (Value.int _ _)) _ _ _); k_dflt (refine' ne_int_same ?k1 ?_; (case k1 => exact law_len (by with_reducible assumption) (by with_reducible assumption) (fmod4 _))))); (try walk_say "OWN compareOp NotEq int int")) | ((with_reducible show wpAny _ _ (compareOp CmpOp.NotEq (Value.bool _) (Value.bool _)) _ _ _); (first | (with_reducible (first | (k_here; k_dflt (refine ne_bool_same ?_)))) | (k_here; k_dflt (refine ne_bool_same ?_))); (try walk_say "OWN compareOp NotEq bool bool")) | ((with_reducible show wpAny _ _ (compareOp CmpOp.NotEq _ _) _ _ _); (first | (with_reducible (first | (k_here; k_dflt (first | refine say_ne (by with_reducible assumption) (by assumption) ?_ | refine ne_bool_same ?_)))) | (k_here; k_dflt (first | refine say_ne (by with_reducible assumption) (by assumption) ?_ | refine ne_bool_same ?_))); (try walk_say "OWN compareOp NotEq")))) | ((fail_if_success (goal_lacks eval)); (with_reducible show wpAny _ _ (eval _ _) _ _ _); (first | ((with_reducible show wpAny _ _ (eval (Expr.ListComp ..) _) _ _ _); (first | (with_reducible (first | ((with_reducible show wpAny _ _ (eval _ _) _ _ _); k_here; lcg_look; lcg_calm; k_dflt (refine LCg.ListComp_U (F₀ := by k_asm) (by rfl) (by decide) (by rfl) (by decide) (by rfl) ?_); k_dflt lcg_toSrc))) | ((with_reducible show wpAny _ _ (eval _ _) _ _ _); k_here; lcg_look; lcg_calm; k_dflt (refine LCg.ListComp_U (F₀ := by k_asm) (by rfl) (by decide) (by rfl) (by decide) (by rfl) ?_); k_dflt lcg_toSrc)); (try walk_say "OWN eval ListComp")) | ((with_reducible show wpAny _ _ (eval (Expr.Name ..) _) _ _ _); (first | (with_reducible (first | (k_here; (with_reducible show wpAny _ _ (eval (Expr.Name _ _) (compEnvC _ _ _ _)) _ _ _); k_dflt (refine' lcf_cell ?N ?c ?m ?d ?_ ?a ?b; (case a => rfl); (case b => rfl); (case N => k_asm); (case c => rfl); (case m => k_mem); (case d => with_reducible assumption); k_whole)) | (k_here; (with_reducible show wpAny _ _ (eval (Expr.Name _ _) (compEnvC _ _ _ _)) _ _ _); k_dflt (refine' LCgL.ld_own ?N ?m ?d ?x ?_ ?a ?b; (case a => rfl); (case b => rfl); (case N => k_asm); (case m => k_mem); (case d => with_reducible assumption); (case x => with_reducible assumption); k_whole)))) | (k_here; (with_reducible show wpAny _ _ (eval (Expr.Name _ _) (compEnvC _ _ _ _)) _ _ _); k_dflt (refine' lcf_cell ?N ?c ?m ?d ?_ ?a ?b; (case a => rfl); (case b => rfl); (case N => k_asm); (case c => rfl); (case m => k_mem); (case d => with_reducible assumption); k_whole)) | (k_here; (with_reducible show wpAny _ _ (eval (Expr.Name _ _) (compEnvC _ _ _ _)) _ _ _); k_dflt (refine' LCgL.ld_own ?N ?m ?d ?x ?_ ?a ?b; (case a => rfl); (case b => rfl); (case N => k_asm); (case m => k_mem); (case d => with_reducible assumption); (case x => with_reducible assumption); k_whole))); (try walk_say "OWN eval Name")))) | ((fail_if_success (goal_lacks call)); (with_reducible show wpAny _ _ (call _ _) _ _ _); (first | ((first | (with_reducible (first | (k_here; (with_reducible show wpAny _ _ (call (Value.ref 192) _) _ _ _); k_dflt (refine' merges_spec _ _ _ _ _ _ (rest := [(_, W.listOf (List.toArray [.int _ _, .int _ _, .int _ _, .int _ _, .int _ _, .int _ _, .int _ _, .int _ _]) _)]) ?k1 ?k2 ?k3 ?k4 ?k5 ?kK ?hm ?hb ?hps ?hlen ?hrest ?hrg ?kd ?ku ?_; (case k1 => k_asm); (case k2 => k_asm); (case k3 => k_asm); (case k4 => k_asm); (case k5 => k_asm); (case kK => exact rfl); (case kd => decide); (case ku => decide); (case hm => k_mem); (case hb => k_mem); (case hps => exact PairsAre.mono (by with_reducible assumption) fun q hq => List.mem_cons_of_mem _ hq); (case hlen => with_reducible assumption); (case hrg => exact LawP.rng (by with_reducible assumption) _ (fmod4 _)); (case hrest => exact List.forall_mem_cons.mpr ⟨⟨by k_mem, tab_ne_seq (by k_asm) (by k_mem) (by k_mem) rfl⟩, List.forall_mem_nil _⟩)); intro D9q y1q y2q nd9q nw9q hpq tkpq Fpq Npq hD9q hB1q hB2q hT9q; obtain ⟨pt9q, hT9q⟩ := hT9q; (have N9pq := law_pick Npq hD9q hT9q)) | (k_here; (with_reducible show wpAny _ _ (call (Value.ref 171) _) _ _ _); k_dflt (refine' front_spec _ _ _ _ _ _ ?k1 ?k2 ?k3 ?k4 ?k5 ?kK ?hb ?kd ?ku ?_; (case k1 => k_asm); (case k2 => k_asm); (case k3 => k_asm); (case k4 => k_asm); (case k5 => k_asm); (case kK => exact rfl); (case kd => decide); (case ku => decide); (case hb => omega)); intro t9q hpq tkpq Fpq Npq) | (k_here; (with_reducible show wpAny _ _ (call (Value.ref 178) _) _ _ _); k_dflt (refine' saying_spec _ _ _ _ _ _ ?k1 ?k2 ?k3 ?k4 ?k5 ?kK ?hb ?kd ?ku ?_; (case k1 => k_asm); (case k2 => k_asm); (case k3 => k_asm); (case k4 => k_asm); (case k5 => k_asm); (case kK => exact rfl); (case kd => decide); (case ku => decide); (case hb => exact LawP.b (by with_reducible assumption) i hi)); intro v9q hpq tkpq hS9q Fpq Npq; (replace hS9q : SayIs (List.getD _ i 0) v9q := hS9q)) | (k_here; (with_reducible show wpAny _ _ (call (Value.ref 164) _) _ _ _); k_dflt (refine' lay_spec _ _ _ _ _ _ 4 ?k1 ?k2 ?k3 ?k4 ?k5 ?kK ?hm ?hi ?hl ?n1 ?n2 ?s1 ?s2 ?t1 ?t2 ?hf ?hg ?kd ?ku ?_; (case k1 => k_asm); (case k2 => k_asm); (case k3 => k_asm); (case k4 => k_asm); (case k5 => k_asm); (case kK => exact rfl); (case kd => decide); (case ku => decide); (case hm => k_mem); (case hi => with_reducible assumption); (case hl => with_reducible assumption); (case n1 => decide); (case n2 => decide); (case s1 => decide); (case s2 => decide); (case t1 => exact (fmod4 _).1); (case t2 => exact (fmod4 _).2); (case hf => decide); (case hg => decide)); intro b9q vs9q n9q tl9q hpq tkpq Fpq Npq hp9q hv9q; (try simp only [List.cons_append, List.nil_append] at Npq hp9q)) | (k_here; (with_reducible show wpAny _ _ (call (Value.ref 157) _) _ _ _); k_dflt (refine' few_spec _ _ _ _ _ _ ?k1 ?k2 ?k3 ?k4 ?k5 ?kK ?hm ?kd ?ku ?_; (case k1 => k_asm); (case k2 => k_asm); (case k3 => k_asm); (case k4 => k_asm); (case k5 => k_asm); (case kK => exact rfl); (case kd => decide); (case ku => decide); (case hm => k_mem)); intro RAq rvsq n3q rsq tl3q hpq tkpq Fpq Npq hR9q hrs9q hrl9q) | (k_here; (with_reducible show wpAny _ _ (call (Value.ref 152) _) _ _ _); k_dflt (refine' masks_spec _ _ _ _ _ _ ?k1 ?k2 ?k3 ?k4 ?k5 ?kK ?hm ?b0 ?b1 ?b2 ?b3 ?b4 ?b5 ?b6 ?b7 ?kd ?ku ?_; (case k1 => k_asm); (case k2 => k_asm); (case k3 => k_asm); (case k4 => k_asm); (case k5 => k_asm); (case kK => exact rfl); (case kd => decide); (case ku => decide); (case hm => k_mem); (case b0 => exact in4_of (by with_reducible assumption)); (case b1 => exact in4_of (by with_reducible assumption)); (case b2 => exact in4_of (by with_reducible assumption)); (case b3 => exact in4_of (by with_reducible assumption)); (case b4 => exact in4_of (by with_reducible assumption)); (case b5 => exact in4_of (by with_reducible assumption)); (case b6 => exact in4_of (by with_reducible assumption)); (case b7 => exact in4_of (by with_reducible assumption))); intro raq maq mcq mvsq cvsq n1q n2q msq csq hpq tkpq Fpq Npq iMq iCq lMq lCq hfoldq) | (k_here; (with_reducible show wpAny _ _ (call (Value.ref 147) _) _ _ _); k_dflt (refine' cells_spec _ _ _ _ _ _ ?k1 ?k2 ?k3 ?k4 ?k5 ?kK ?hl ?hi ?hlen ?kd ?ku ?_; (case k1 => k_asm); (case k2 => k_asm); (case k3 => k_asm); (case k4 => k_asm); (case k5 => k_asm); (case kK => exact rfl); (case kd => decide); (case ku => decide); (case hl => assumption); (case hi => assumption); (case hlen => omega)); intro caq cvsq n0q xsq hpq tkpq Fpq Npq hIpq hlenpq; obtain ⟨c0q, c1q, c2q, c3q, c4q, c5q, c6q, c7q, u0q, u1q, u2q, u3q, u4q, u5q, u6q, u7q, hc9q⟩ := ints8 hIpq hlenpq; subst hc9q; clear hIpq hlenpq) | (k_here; k_dflt (show wpAny _ _ (call (Value.ref 49) [Value.ref _, Value.str _ _]) _ _ _); k_dflt (refine' book_allow _ _ _ _ _ _ ?k1 ?k2 ?k3 ?k4 ?k5 ?kK ?hB ?hs ?hnm ?hp ?kd ?ku ?_; (case k1 => k_asm); (case k2 => k_asm); (case k3 => k_asm); (case k4 => k_asm); (case k5 => k_asm); (case kK => exact rfl); (case hB => with_reducible assumption); (case hs => exact fun q hq => by simp only [List.mem_cons]; grind); (case hnm => exact name_len hi (by with_reducible assumption)); (case kd => decide); (case ku => decide); (case hp => exact say_of (by with_reducible assumption) i hi _ (by with_reducible assumption) (congrArg (fun k => frontS k ++ _) (show (8 : Int) + (i : Int) = ((8 + i : Nat) : Int) by omega)))); intro v9q hpq tkpq hS9q Fpq Npq))) | (k_here; (with_reducible show wpAny _ _ (call (Value.ref 192) _) _ _ _); k_dflt (refine' merges_spec _ _ _ _ _ _ (rest := [(_, W.listOf (List.toArray [.int _ _, .int _ _, .int _ _, .int _ _, .int _ _, .int _ _, .int _ _, .int _ _]) _)]) ?k1 ?k2 ?k3 ?k4 ?k5 ?kK ?hm ?hb ?hps ?hlen ?hrest ?hrg ?kd ?ku ?_; (case k1 => k_asm); (case k2 => k_asm); (case k3 => k_asm); (case k4 => k_asm); (case k5 => k_asm); (case kK => exact rfl); (case kd => decide); (case ku => decide); (case hm => k_mem); (case hb => k_mem); (case hps => exact PairsAre.mono (by with_reducible assumption) fun q hq => List.mem_cons_of_mem _ hq); (case hlen => with_reducible assumption); (case hrg => exact LawP.rng (by with_reducible assumption) _ (fmod4 _)); (case hrest => exact List.forall_mem_cons.mpr ⟨⟨by k_mem, tab_ne_seq (by k_asm) (by k_mem) (by k_mem) rfl⟩, List.forall_mem_nil _⟩)); intro D9q y1q y2q nd9q nw9q hpq tkpq Fpq Npq hD9q hB1q hB2q hT9q; obtain ⟨pt9q, hT9q⟩ := hT9q; (have N9pq := law_pick Npq hD9q hT9q)) | (k_here; (with_reducible show wpAny _ _ (call (Value.ref 171) _) _ _ _); k_dflt (refine' front_spec _ _ _ _ _ _ ?k1 ?k2 ?k3 ?k4 ?k5 ?kK ?hb ?kd ?ku ?_; (case k1 => k_asm); (case k2 => k_asm); (case k3 => k_asm); (case k4 => k_asm); (case k5 => k_asm); (case kK => exact rfl); (case kd => decide); (case ku => decide); (case hb => omega)); intro t9q hpq tkpq Fpq Npq) | (k_here; (with_reducible show wpAny _ _ (call (Value.ref 178) _) _ _ _); k_dflt (refine' saying_spec _ _ _ _ _ _ ?k1 ?k2 ?k3 ?k4 ?k5 ?kK ?hb ?kd ?ku ?_; (case k1 => k_asm); (case k2 => k_asm); (case k3 => k_asm); (case k4 => k_asm); (case k5 => k_asm); (case kK => exact rfl); (case kd => decide); (case ku => decide); (case hb => exact LawP.b (by with_reducible assumption) i hi)); intro v9q hpq tkpq hS9q Fpq Npq; (replace hS9q : SayIs (List.getD _ i 0) v9q := hS9q)) | (k_here; (with_reducible show wpAny _ _ (call (Value.ref 164) _) _ _ _); k_dflt (refine' lay_spec _ _ _ _ _ _ 4 ?k1 ?k2 ?k3 ?k4 ?k5 ?kK ?hm ?hi ?hl ?n1 ?n2 ?s1 ?s2 ?t1 ?t2 ?hf ?hg ?kd ?ku ?_; (case k1 => k_asm); (case k2 => k_asm); (case k3 => k_asm); (case k4 => k_asm); (case k5 => k_asm); (case kK => exact rfl); (case kd => decide); (case ku => decide); (case hm => k_mem); (case hi => with_reducible assumption); (case hl => with_reducible assumption); (case n1 => decide); (case n2 => decide); (case s1 => decide); (case s2 => decide); (case t1 => exact (fmod4 _).1); (case t2 => exact (fmod4 _).2); (case hf => decide); (case hg => decide)); intro b9q vs9q n9q tl9q hpq tkpq Fpq Npq hp9q hv9q; (try simp only [List.cons_append, List.nil_append] at Npq hp9q)) | (k_here; (with_reducible show wpAny _ _ (call (Value.ref 157) _) _ _ _); k_dflt (refine' few_spec _ _ _ _ _ _ ?k1 ?k2 ?k3 ?k4 ?k5 ?kK ?hm ?kd ?ku ?_; (case k1 => k_asm); (case k2 => k_asm); (case k3 => k_asm); (case k4 => k_asm); (case k5 => k_asm); (case kK => exact rfl); (case kd => decide); (case ku => decide); (case hm => k_mem)); intro RAq rvsq n3q rsq tl3q hpq tkpq Fpq Npq hR9q hrs9q hrl9q) | (k_here; (with_reducible show wpAny _ _ (call (Value.ref 152) _) _ _ _); k_dflt (refine' masks_spec _ _ _ _ _ _ ?k1 ?k2 ?k3 ?k4 ?k5 ?kK ?hm ?b0 ?b1 ?b2 ?b3 ?b4 ?b5 ?b6 ?b7 ?kd ?ku ?_; (case k1 => k_asm); (case k2 => k_asm); (case k3 => k_asm); (case k4 => k_asm); (case k5 => k_asm); (case kK => exact rfl); (case kd => decide); (case ku => decide); (case hm => k_mem); (case b0 => exact in4_of (by with_reducible assumption)); (case b1 => exact in4_of (by with_reducible assumption)); (case b2 => exact in4_of (by with_reducible assumption)); (case b3 => exact in4_of (by with_reducible assumption)); (case b4 => exact in4_of (by with_reducible assumption)); (case b5 => exact in4_of (by with_reducible assumption)); (case b6 => exact in4_of (by with_reducible assumption)); (case b7 => exact in4_of (by with_reducible assumption))); intro raq maq mcq mvsq cvsq n1q n2q msq csq hpq tkpq Fpq Npq iMq iCq lMq lCq hfoldq) | (k_here; (with_reducible show wpAny _ _ (call (Value.ref 147) _) _ _ _); k_dflt (refine' cells_spec _ _ _ _ _ _ ?k1 ?k2 ?k3 ?k4 ?k5 ?kK ?hl ?hi ?hlen ?kd ?ku ?_; (case k1 => k_asm); (case k2 => k_asm); (case k3 => k_asm); (case k4 => k_asm); (case k5 => k_asm); (case kK => exact rfl); (case kd => decide); (case ku => decide); (case hl => assumption); (case hi => assumption); (case hlen => omega)); intro caq cvsq n0q xsq hpq tkpq Fpq Npq hIpq hlenpq; obtain ⟨c0q, c1q, c2q, c3q, c4q, c5q, c6q, c7q, u0q, u1q, u2q, u3q, u4q, u5q, u6q, u7q, hc9q⟩ := ints8 hIpq hlenpq; subst hc9q; clear hIpq hlenpq) | (k_here; k_dflt (show wpAny _ _ (call (Value.ref 49) [Value.ref _, Value.str _ _]) _ _ _); k_dflt (refine' book_allow _ _ _ _ _ _ ?k1 ?k2 ?k3 ?k4 ?k5 ?kK ?hB ?hs ?hnm ?hp ?kd ?ku ?_; (case k1 => k_asm); (case k2 => k_asm); (case k3 => k_asm); (case k4 => k_asm); (case k5 => k_asm); (case kK => exact rfl); (case hB => with_reducible assumption); (case hs => exact fun q hq => by simp only [List.mem_cons]; grind); (case hnm => exact name_len hi (by with_reducible assumption)); (case kd => decide); (case ku => decide); (case hp => exact say_of (by with_reducible assumption) i hi _ (by with_reducible assumption) (congrArg (fun k => frontS k ++ _) (show (8 : Int) + (i : Int) = ((8 + i : Nat) : Int) by omega)))); intro v9q hpq tkpq hS9q Fpq Npq)); (try walk_say "OWN call ref")) | ((with_reducible show wpAny _ _ (call (Value.builtin "len") _) _ _ _); (first | (with_reducible (first | (k_here; (with_reducible show wpAny _ _ (call (Value.builtin "len") [Value.ref _]) _ _ _); k_dflt (refine' len_led ?k1 ?k2 ?k3 ?_; (case k1 => k_asm); (case k2 => k_mem); (case k3 => with_reducible assumption); k_whole); intro t9q tk9q))) | (k_here; (with_reducible show wpAny _ _ (call (Value.builtin "len") [Value.ref _]) _ _ _); k_dflt (refine' len_led ?k1 ?k2 ?k3 ?_; (case k1 => k_asm); (case k2 => k_mem); (case k3 => with_reducible assumption); k_whole); intro t9q tk9q)); (try walk_say "OWN call builtin:len")) | ((with_reducible show wpAny _ _ (call (Value.builtin "isinstance") _) _ _ _); (first | (with_reducible (first | (k_here; (with_reducible show wpAny _ _ (call (Value.builtin "isinstance") [_, Value.type "bool"]) _ _ _); k_dflt (refine' say_isb ?h1 ?_; (case h1 => with_reducible assumption); k_whole); intro tk9q))) | (k_here; (with_reducible show wpAny _ _ (call (Value.builtin "isinstance") [_, Value.type "bool"]) _ _ _); k_dflt (refine' say_isb ?h1 ?_; (case h1 => with_reducible assumption); k_whole); intro tk9q)); (try walk_say "OWN call builtin:isinstance")))) | ((fail_if_success (goal_lacks getMethod)); (with_reducible show wpAny _ _ (getMethod _ _ _) _ _ _); ((first | (with_reducible (first | (k_here; (with_reducible show wpAny _ _ (getMethod (Value.ref _) (Str.ofString "allowance") _) _ _ _); k_dflt (refine' book_method _ _ _ _ _ _ ?hB ?k1 ?k2 ?k3 ?k4 ?_; (case hB => with_reducible assumption); (case k1 => k_asm); (case k2 => k_asm); (case k3 => k_asm); (case k4 => exact fun q hq => by simp only [List.mem_cons]; grind); k_whole); (try dsimp only)))) | (k_here; (with_reducible show wpAny _ _ (getMethod (Value.ref _) (Str.ofString "allowance") _) _ _ _); k_dflt (refine' book_method _ _ _ _ _ _ ?hB ?k1 ?k2 ?k3 ?k4 ?_; (case hB => with_reducible assumption); (case k1 => k_asm); (case k2 => k_asm); (case k3 => k_asm); (case k4 => exact fun q hq => by simp only [List.mem_cons]; grind); k_whole); (try dsimp only))); (try walk_say "OWN getMethod ref"))) | ((fail_if_success (goal_lacks InvEndN)); (with_reducible show InvEndN ..); (repeat clear qk); (repeat clear ek); ((first | (with_reducible (first | k_dflt kst_close)) | k_dflt kst_close); (try walk_say "OWN InvEndN"))) | ((fail_if_success (goal_lacks LCg.CompEnd)); (with_reducible show LCg.CompEnd ..); ((first | (with_reducible (first | first | (k_dflt (refine' ce_int ?a1 ?a2 ?a3 ?a4 ?_; (case a1 => k_asm); (case a2 => k_asm); (case a3 => with_reducible assumption); (case a4 => first | exact True.intro | lcg_src)); intro z9q hz9q) | (k_dflt (refine' ce_same ?a1 ?a2 ?a3 ?a4 ?_; (case a1 => k_asm); (case a2 => k_asm); (case a3 => with_reducible assumption); (case a4 => first | exact True.intro | lcg_src))) | (k_dflt (refine' ce_one ?a1 ?a2 ?a3 ?a5 ?a4 ?_; (case a1 => k_asm); (case a2 => k_asm); (case a3 => with_reducible assumption); (case a5 => with_reducible assumption); (case a4 => first | exact True.intro | lcg_src))) | k_dflt lcg_end)) | first | (k_dflt (refine' ce_int ?a1 ?a2 ?a3 ?a4 ?_; (case a1 => k_asm); (case a2 => k_asm); (case a3 => with_reducible assumption); (case a4 => first | exact True.intro | lcg_src)); intro z9q hz9q) | (k_dflt (refine' ce_same ?a1 ?a2 ?a3 ?a4 ?_; (case a1 => k_asm); (case a2 => k_asm); (case a3 => with_reducible assumption); (case a4 => first | exact True.intro | lcg_src))) | (k_dflt (refine' ce_one ?a1 ?a2 ?a3 ?a5 ?a4 ?_; (case a1 => k_asm); (case a2 => k_asm); (case a3 => with_reducible assumption); (case a5 => with_reducible assumption); (case a4 => first | exact True.intro | lcg_src))) | k_dflt lcg_end); (try walk_say "OWN CompEnd"))) | ((fail_if_success (goal_lacks LCg.CompRest)); (with_reducible show LCg.CompRest ..); ((first | (with_reducible (first | (with_unfolding_all first | (refine LCg.CompRest.succ ?_; intro vpq Ipq oIpq Cpq oCpq Dpq mpq hpq tkpq Epq hvpq hCpq hxpq Fpq Npq offpq nepq; clear nepq; (first | lcg_open hvpq | (obtain ⟨t9pq, hv9pq⟩ := hvpq; subst hv9pq))) | refine LCg.CompRest.zero ?_))) | (with_unfolding_all first | (refine LCg.CompRest.succ ?_; intro vpq Ipq oIpq Cpq oCpq Dpq mpq hpq tkpq Epq hvpq hCpq hxpq Fpq Npq offpq nepq; clear nepq; (first | lcg_open hvpq | (obtain ⟨t9pq, hv9pq⟩ := hvpq; subst hv9pq))) | refine LCg.CompRest.zero ?_)); (try walk_say "OWN CompRest"))) | ((fail_if_success (goal_lacks LCg.FinE)); (with_reducible show LCg.FinE ..); ((first | (with_reducible (first | ((unfold LCg.FinE); intro Dpq hpq tkpq Fpq Npq o1pq; (try simp only [List.nil_append, List.cons_append] at Npq); (try dsimp only)))) | ((unfold LCg.FinE); intro Dpq hpq tkpq Fpq Npq o1pq; (try simp only [List.nil_append, List.cons_append] at Npq); (try dsimp only))); (try walk_say "OWN FinE"))) | ((fail_if_success (goal_lacks CRestC)); (with_reducible show CRestC ..); ((first | (with_reducible (first | (with_unfolding_all first | (refine CRestC.succ ?_; intro vpq Ipq oIpq Cpq oCpq cpq ocpq Dpq hpq tkpq Epq hvpq hdpq Fpq Npq offpq nepq offcpq; clear nepq; lcg_open hvpq) | refine CRestC.zero ?_))) | (with_unfolding_all first | (refine CRestC.succ ?_; intro vpq Ipq oIpq Cpq oCpq cpq ocpq Dpq hpq tkpq Epq hvpq hdpq Fpq Npq offpq nepq offcpq; clear nepq; lcg_open hvpq) | refine CRestC.zero ?_)); (try walk_say "OWN CRestC"))) | ((fail_if_success (goal_lacks RestC)); (with_reducible show RestC ..); ((first | (with_reducible (first | (k_dflt (refine restC_one (by with_reducible assumption) (by with_reducible assumption) ?_)))) | (k_dflt (refine restC_one (by with_reducible assumption) (by with_reducible assumption) ?_))); (try walk_say "OWN RestC"))) | walk1 | (dsimp only; walk1) | (dsimp only [List.cons_append, List.nil_append]; walk1)); (try (goal_lacks LoopAtV TurnsAt; (first | (fail_if_success k_fold; skip) | (refine foldQ ?_; intro qk))))) | ((with_reducible show wpAny _ _ _ _ _ _); dsimp only) | (leave1; walk_say "STEP leave1"; try dsimp only) | fail "no step"))
    rename Fr _ _ _ _ => eF; rename News _ _ _ ((_, LCg.lst _) :: _) => eN
    k_dflt (refine' law1_end eF eN ?hs ?d (off0 := []) off)
    case hs => exact fun p hp => List.mem_cons_of_mem _ hp
    case d => with_reducible assumption
  case done =>
    intro on vn h tk d1 F' N'
    (repeat' (first | (k_unfold; (try dsimp only)) | (k_end; wrow_close) | ((first | ((fail_if_success (goal_lacks subscriptTail)); (with_reducible show wpAny _ _ (subscriptTail _ _ _ _) _ _ _); (first | ((with_reducible show wpAny _ _ (subscriptTail (Expr.Subscript (Expr.Name ..) (Expr.Constant ..) _) (Expr.Constant ..) (Value.ref _) (Value.int _ _)) _ _ _); (first | (with_reducible (first | (k_here; (with_reducible show wpAny _ _ (subscriptTail _ _ (Value.ref _) (Value.int _ _)) _ _ _); k_dflt (refine' ksa_sub ?k1 ?k2 ?k3 ?k4 ?k5 ?k6 ?_ ?k7; (case k1 => k_asm); (case k2 => with_reducible assumption); (case k3 => with_reducible assumption); (case k4 => decide); (case k5 => exact LawP.lt4 (by with_reducible assumption)); (case k6 => decide); (case k7 => with_unfolding_all rfl); k_whole); intro _))) | (k_here; (with_reducible show wpAny _ _ (subscriptTail _ _ (Value.ref _) (Value.int _ _)) _ _ _); k_dflt (refine' ksa_sub ?k1 ?k2 ?k3 ?k4 ?k5 ?k6 ?_ ?k7; (case k1 => k_asm); (case k2 => with_reducible assumption); (case k3 => with_reducible assumption); (case k4 => decide); (case k5 => exact LawP.lt4 (by with_reducible assumption)); (case k6 => decide); (case k7 => with_unfolding_all rfl); k_whole); intro _)); (try walk_say "OWN subscriptTail Subscript Name Constant Constant ref int")) | ((with_reducible show wpAny _ _ (subscriptTail (Expr.Name ..) (Expr.Name ..) (Value.ref _) (Value.int _ _)) _ _ _); (first | (with_reducible (first | (k_here; (with_reducible show wpAny _ _ (subscriptTail _ _ (Value.ref _) (Value.int _ _)) _ _ _); k_dflt (refine' ksa_sub ?k1 ?k2 ints8_of ?k4 ?k5 ?k6 ?_ ?k7; (case k1 => k_asm); (case k2 => k_mem); (case k4 => omega); (case k5 => (show (_ : Int) < 8; omega)); (case k6 => omega); (case k7 => with_unfolding_all rfl); k_whole); intro _) | (k_here; (with_reducible show wpAny _ _ (subscriptTail _ _ (Value.ref _) (Value.int _ _)) _ _ _); k_dflt (refine' sub_rows ?k1 ?k2 ?k3 ?k4 ?k5 ?k6 ?_ ?k7; (case k1 => k_asm); (case k3 => with_reducible assumption); (case k2 => k_mem); (case k4 => exact fun p hp => by simp only [List.mem_cons]; grind); (case k5 => omega); (case k6 => omega); (case k7 => with_unfolding_all rfl); k_whole); intro b9q ws9q n9q hm9q hi9q) | (k_here; (with_reducible show wpAny _ _ (subscriptTail _ _ (Value.ref _) (Value.int _ _)) _ _ _); k_dflt (first | (refine' sub_at ?k1 ?k2 ?k4 ?k5 ?k3 ?_ ?k6; (case k1 => k_asm); (case k2 => k_mem); (case k4 => decide); (case k5 => decide); (case k3 => rfl); (case k6 => with_unfolding_all rfl); k_whole) | (refine' ksa_sub ?k1 ?k2 ?k3 ?k4 ?k5 ?k6 ?_ ?k7; (case k1 => k_asm); (case k2 => k_mem); (case k3 => with_reducible assumption); (case k4 => omega); (case k5 => (refine Int.lt_of_lt_of_eq ?_ (congrArg Nat.cast (by with_reducible assumption)).symm; omega)); (case k6 => omega); (case k7 => with_unfolding_all rfl); k_whole; intro _))))) | (k_here; (with_reducible show wpAny _ _ (subscriptTail _ _ (Value.ref _) (Value.int _ _)) _ _ _); k_dflt (refine' ksa_sub ?k1 ?k2 ints8_of ?k4 ?k5 ?k6 ?_ ?k7; (case k1 => k_asm); (case k2 => k_mem); (case k4 => omega); (case k5 => (show (_ : Int) < 8; omega)); (case k6 => omega); (case k7 => with_unfolding_all rfl); k_whole); intro _) | (k_here; (with_reducible show wpAny _ _ (subscriptTail _ _ (Value.ref _) (Value.int _ _)) _ _ _); k_dflt (refine' sub_rows ?k1 ?k2 ?k3 ?k4 ?k5 ?k6 ?_ ?k7; (case k1 => k_asm); (case k3 => with_reducible assumption); (case k2 => k_mem); (case k4 => exact fun p hp => by simp only [List.mem_cons]; grind); (case k5 => omega); (case k6 => omega); (case k7 => with_unfolding_all rfl); k_whole); intro b9q ws9q n9q hm9q hi9q) | (k_here; (with_reducible show wpAny _ _ (subscriptTail _ _ (Value.ref _) (Value.int _ _)) _ _ _); k_dflt (first | (refine' sub_at ?k1 ?k2 ?k4 ?k5 ?k3 ?_ ?k6; (case k1 => k_asm); (case k2 => k_mem); (case k4 => decide); (case k5 => decide); (case k3 => rfl); (case k6 => with_unfolding_all rfl); k_whole) | (refine' ksa_sub ?k1 ?k2 ?k3 ?k4 ?k5 ?k6 ?_ ?k7; (case k1 => k_asm); (case k2 => k_mem); (case k3 => with_reducible assumption); (case k4 => omega); (case k5 => (refine Int.lt_of_lt_of_eq ?_ (congrArg Nat.cast (by with_reducible assumption)).symm; omega)); (case k6 => omega); (case k7 => with_unfolding_all rfl); k_whole; intro _)))); (try walk_say "OWN subscriptTail Name Name ref int")) | ((with_reducible show wpAny _ _ (subscriptTail (Expr.Name ..) (Expr.Constant ..) (Value.ref _) (Value.int _ _)) _ _ _); (first | (with_reducible (first | (k_here; (with_reducible show wpAny _ _ (subscriptTail _ _ (Value.ref _) (Value.int _ _)) _ _ _); k_dflt (refine' sub_rows ?k1 ?k2 ?k3 ?k4 ?k5 ?k6 ?_ ?k7; (case k1 => k_asm); (case k3 => with_reducible assumption); (case k2 => k_mem); (case k4 => exact fun p hp => by simp only [List.mem_cons, List.mem_append]; grind); (case k5 => omega); (case k6 => omega); (case k7 => with_unfolding_all rfl); k_whole); intro b9q ws9q n9q hm9q hi9q))) | (k_here; (with_reducible show wpAny _ _ (subscriptTail _ _ (Value.ref _) (Value.int _ _)) _ _ _); k_dflt (refine' sub_rows ?k1 ?k2 ?k3 ?k4 ?k5 ?k6 ?_ ?k7; (case k1 => k_asm); (case k3 => with_reducible assumption); (case k2 => k_mem); (case k4 => exact fun p hp => by simp only [List.mem_cons, List.mem_append]; grind); (case k5 => omega); (case k6 => omega); (case k7 => with_unfolding_all rfl); k_whole); intro b9q ws9q n9q hm9q hi9q)); (try walk_say "OWN subscriptTail Name Constant ref int")) | ((with_reducible show wpAny _ _ (subscriptTail (Expr.Name ..) (Expr.BinOp ..) (Value.ref _) (Value.int _ _)) _ _ _); (first | (with_reducible (first | (k_here; k_dflt (refine' sub_book2 ?N ?hm ?hk ?h1 ?h2 ?_ ?hs; (case N => k_asm); (case hm => k_mem); (case hk => exact fmod2 _); (case h1 => with_reducible assumption); (case h2 => with_reducible assumption); (case hs => with_unfolding_all rfl); k_whole); intro y9q hB9q))) | (k_here; k_dflt (refine' sub_book2 ?N ?hm ?hk ?h1 ?h2 ?_ ?hs; (case N => k_asm); (case hm => k_mem); (case hk => exact fmod2 _); (case h1 => with_reducible assumption); (case h2 => with_reducible assumption); (case hs => with_unfolding_all rfl); k_whole); intro y9q hB9q)); (try walk_say "OWN subscriptTail Name BinOp ref int")) | ((first | (with_reducible (first | (k_here; (with_reducible show wpAny _ _ (subscriptTail (Expr.Tuple ..) _ (Value.ref _) (Value.int _ _)) _ _ _); k_dflt (refine' sub_sfx ?N ?hm ?hk ?_ ?hs; (case N => k_asm); (case hm => k_mem); (case hk => exact fmod2 _); (case hs => with_unfolding_all rfl); k_whole); intro sfx9q t9q hs9q) | (k_here; (with_reducible show wpAny _ _ (subscriptTail _ _ (Value.ref _) (Value.int _ _)) _ _ _); k_dflt (first | (refine' sub_at ?k1 ?k2 ?k4 ?k5 ?k3 ?_ ?k6; (case k1 => k_asm); (case k2 => k_mem); (case k4 => decide); (case k5 => decide); (case k3 => rfl); (case k6 => with_unfolding_all rfl); k_whole))))) | (k_here; (with_reducible show wpAny _ _ (subscriptTail (Expr.Tuple ..) _ (Value.ref _) (Value.int _ _)) _ _ _); k_dflt (refine' sub_sfx ?N ?hm ?hk ?_ ?hs; (case N => k_asm); (case hm => k_mem); (case hk => exact fmod2 _); (case hs => with_unfolding_all rfl); k_whole); intro sfx9q t9q hs9q) | (k_here; (with_reducible show wpAny _ _ (subscriptTail _ _ (Value.ref _) (Value.int _ _)) _ _ _); k_dflt (first | (refine' sub_at ?k1 ?k2 ?k4 ?k5 ?k3 ?_ ?k6; (case k1 => k_asm); (case k2 => k_mem); (case k4 => decide); (case k5 => decide); (case k3 => rfl); (case k6 => with_unfolding_all rfl); k_whole)))); (try walk_say "OWN subscriptTail")))) | ((fail_if_success (goal_lacks exec)); (with_reducible show wpAny _ _ (exec _ _) _ _ _); ((with_reducible show wpAny _ _ (exec (Stmt.For (Expr.Name ..) (Expr.Call ..) (_ :: _) [] _) _) _ _ _); (first | (with_reducible (first | (k_here; (rename Fr _ _ _ _ => lFpq); (with_unfolding_all refine' For_turns lFpq ?_; k_whole)))) | (k_here; (rename Fr _ _ _ _ => lFpq); (with_unfolding_all refine' For_turns lFpq ?_; k_whole))); (try walk_say "OWN exec For Name Call cons nil"))) | ((fail_if_success (goal_lacks binaryOp)); (with_reducible show wpAny _ _ (binaryOp _ _ _) _ _ _); (first | ((with_reducible show wpAny _ _ (binaryOp Operator.Mult (Value.int _ _) (Value.int _ _)) _ _ _); (first | (with_reducible (first | (k_here; with_reducible refine mul_int ?_ (IntMulOk.of_left (by decide))))) | (k_here; with_reducible refine mul_int ?_ (IntMulOk.of_left (by decide)))); (try walk_say "OWN binaryOp Mult int int")) | ((with_reducible show wpAny _ _ (binaryOp Operator.Add (Value.str _ _) (Value.str _ _)) _ _ _); (first | (with_reducible (first | (k_here; (with_reducible show wpAny _ _ (binaryOp Operator.Add (Value.str _ _) (Value.str _ _)) _ _ _); k_dflt (refine add_str (hsz := ?hz) ?_; (case hz => exact Nat.le_trans (name_fits hi (by with_reducible assumption)) (by rw [sizeLine_eq]; decide)); intro t9q tk9q)))) | (k_here; (with_reducible show wpAny _ _ (binaryOp Operator.Add (Value.str _ _) (Value.str _ _)) _ _ _); k_dflt (refine add_str (hsz := ?hz) ?_; (case hz => exact Nat.le_trans (name_fits hi (by with_reducible assumption)) (by rw [sizeLine_eq]; decide)); intro t9q tk9q))); (try walk_say "OWN binaryOp Add str str")))) | ((fail_if_success (goal_lacks compareOp)); (with_reducible show wpAny _ _ (compareOp _ _ _) _ _ _); (first | ((with_reducible show wpAny _ _ (compareOp CmpOp.NotEq (Value.int _ _) (Value.int _ _)) _ _ _); (first | (with_reducible (first | (k_here; (with_reducible show wpAny _ _ (compareOp CmpOp.NotEq (Value.int _ _) (Value.int _ _)) _ _ _); k_dflt (refine' ne_int_same ?k1 ?_; (case k1 => exact law_len (by with_reducible assumption) (by with_reducible assumption) (fmod4 _)))))) | (k_here; (with_reducible show wpAny _ _ (compareOp CmpOp.NotEq (Value.int _ _) (Value.int _ _)) _ _ _); k_dflt (refine' ne_int_same ?k1 ?_; (case k1 => exact law_len (by with_reducible assumption) (by with_reducible assumption) (fmod4 _))))); (try walk_say "OWN compareOp NotEq int int")) | ((with_reducible show wpAny _ _ (compareOp CmpOp.NotEq (Value.bool _) (Value.bool _)) _ _ _); (first | (with_reducible (first | (k_here; k_dflt (refine ne_bool_same ?_)))) | (k_here; k_dflt (refine ne_bool_same ?_))); (try walk_say "OWN compareOp NotEq bool bool")) | ((with_reducible show wpAny _ _ (compareOp CmpOp.NotEq _ _) _ _ _); (first | (with_reducible (first | (k_here; k_dflt (first | refine say_ne (by with_reducible assumption) (by assumption) ?_ | refine ne_bool_same ?_)))) | (k_here; k_dflt (first | refine say_ne (by with_reducible assumption) (by assumption) ?_ | refine ne_bool_same ?_))); (try walk_say "OWN compareOp NotEq")))) | ((fail_if_success (goal_lacks eval)); (with_reducible show wpAny _ _ (eval _ _) _ _ _); (first | ((with_reducible show wpAny _ _ (eval (Expr.ListComp ..) _) _ _ _); (first | (with_reducible (first | ((with_reducible show wpAny _ _ (eval _ _) _ _ _); k_here; lcg_look; lcg_calm; k_dflt (refine LCg.ListComp_U (F₀ := by k_asm) (by rfl) (by decide) (by rfl) (by decide) (by rfl) ?_); k_dflt lcg_toSrc))) | ((with_reducible show wpAny _ _ (eval _ _) _ _ _); k_here; lcg_look; lcg_calm; k_dflt (refine LCg.ListComp_U (F₀ := by k_asm) (by rfl) (by decide) (by rfl) (by decide) (by rfl) ?_); k_dflt lcg_toSrc)); (try walk_say "OWN eval ListComp")) | ((with_reducible show wpAny _ _ (eval (Expr.Name ..) _) _ _ _); (first | (with_reducible (first | (k_here; (with_reducible show wpAny _ _ (eval (Expr.Name _ _) (compEnvC _ _ _ _)) _ _ _); k_dflt (refine' lcf_cell ?N ?c ?m ?d ?_ ?a ?b; (case a => rfl); (case b => rfl); (case N => k_asm); (case c => rfl); (case m => k_mem); (case d => with_reducible assumption); k_whole)) | (k_here; (with_reducible show wpAny _ _ (eval (Expr.Name _ _) (compEnvC _ _ _ _)) _ _ _); k_dflt (refine' LCgL.ld_own ?N ?m ?d ?x ?_ ?a ?b; (case a => rfl); (case b => rfl); (case N => k_asm); (case m => k_mem); (case d => with_reducible assumption); (case x => with_reducible assumption); k_whole)))) | (k_here; (with_reducible show wpAny _ _ (eval (Expr.Name _ _) (compEnvC _ _ _ _)) _ _ _); k_dflt (refine' lcf_cell ?N ?c ?m ?d ?_ ?a ?b; (case a => rfl); (case b => rfl); (case N => k_asm); (case c => rfl); (case m => k_mem); (case d => with_reducible assumption); k_whole)) | (k_here; (with_reducible show wpAny _ _ (eval (Expr.Name _ _) (compEnvC _ _ _ _)) _ _ _); k_dflt (refine' LCgL.ld_own ?N ?m ?d ?x ?_ ?a ?b; (case a => rfl); (case b => rfl); (case N => k_asm); (case m => k_mem); (case d => with_reducible assumption); (case x => with_reducible assumption); k_whole))); (try walk_say "OWN eval Name")))) | ((fail_if_success (goal_lacks call)); (with_reducible show wpAny _ _ (call _ _) _ _ _); (first | ((first | (with_reducible (first | (k_here; (with_reducible show wpAny _ _ (call (Value.ref 192) _) _ _ _); k_dflt (refine' merges_spec _ _ _ _ _ _ (rest := [(_, W.listOf (List.toArray [.int _ _, .int _ _, .int _ _, .int _ _, .int _ _, .int _ _, .int _ _, .int _ _]) _)]) ?k1 ?k2 ?k3 ?k4 ?k5 ?kK ?hm ?hb ?hps ?hlen ?hrest ?hrg ?kd ?ku ?_; (case k1 => k_asm); (case k2 => k_asm); (case k3 => k_asm); (case k4 => k_asm); (case k5 => k_asm); (case kK => exact rfl); (case kd => decide); (case ku => decide); (case hm => k_mem); (case hb => k_mem); (case hps => exact PairsAre.mono (by with_reducible assumption) fun q hq => List.mem_cons_of_mem _ hq); (case hlen => with_reducible assumption); (case hrg => exact LawP.rng (by with_reducible assumption) _ (fmod4 _)); (case hrest => exact List.forall_mem_cons.mpr ⟨⟨by k_mem, tab_ne_seq (by k_asm) (by k_mem) (by k_mem) rfl⟩, List.forall_mem_nil _⟩)); intro D9q y1q y2q nd9q nw9q hpq tkpq Fpq Npq hD9q hB1q hB2q hT9q; obtain ⟨pt9q, hT9q⟩ := hT9q; (have N9pq := law_pick Npq hD9q hT9q)) | (k_here; (with_reducible show wpAny _ _ (call (Value.ref 171) _) _ _ _); k_dflt (refine' front_spec _ _ _ _ _ _ ?k1 ?k2 ?k3 ?k4 ?k5 ?kK ?hb ?kd ?ku ?_; (case k1 => k_asm); (case k2 => k_asm); (case k3 => k_asm); (case k4 => k_asm); (case k5 => k_asm); (case kK => exact rfl); (case kd => decide); (case ku => decide); (case hb => omega)); intro t9q hpq tkpq Fpq Npq) | (k_here; (with_reducible show wpAny _ _ (call (Value.ref 178) _) _ _ _); k_dflt (refine' saying_spec _ _ _ _ _ _ ?k1 ?k2 ?k3 ?k4 ?k5 ?kK ?hb ?kd ?ku ?_; (case k1 => k_asm); (case k2 => k_asm); (case k3 => k_asm); (case k4 => k_asm); (case k5 => k_asm); (case kK => exact rfl); (case kd => decide); (case ku => decide); (case hb => exact LawP.b (by with_reducible assumption) i hi)); intro v9q hpq tkpq hS9q Fpq Npq; (replace hS9q : SayIs (List.getD _ i 0) v9q := hS9q)) | (k_here; (with_reducible show wpAny _ _ (call (Value.ref 164) _) _ _ _); k_dflt (refine' lay_spec _ _ _ _ _ _ 4 ?k1 ?k2 ?k3 ?k4 ?k5 ?kK ?hm ?hi ?hl ?n1 ?n2 ?s1 ?s2 ?t1 ?t2 ?hf ?hg ?kd ?ku ?_; (case k1 => k_asm); (case k2 => k_asm); (case k3 => k_asm); (case k4 => k_asm); (case k5 => k_asm); (case kK => exact rfl); (case kd => decide); (case ku => decide); (case hm => k_mem); (case hi => with_reducible assumption); (case hl => with_reducible assumption); (case n1 => decide); (case n2 => decide); (case s1 => decide); (case s2 => decide); (case t1 => exact (fmod4 _).1); (case t2 => exact (fmod4 _).2); (case hf => decide); (case hg => decide)); intro b9q vs9q n9q tl9q hpq tkpq Fpq Npq hp9q hv9q; (try simp only [List.cons_append, List.nil_append] at Npq hp9q)) | (k_here; (with_reducible show wpAny _ _ (call (Value.ref 157) _) _ _ _); k_dflt (refine' few_spec _ _ _ _ _ _ ?k1 ?k2 ?k3 ?k4 ?k5 ?kK ?hm ?kd ?ku ?_; (case k1 => k_asm); (case k2 => k_asm); (case k3 => k_asm); (case k4 => k_asm); (case k5 => k_asm); (case kK => exact rfl); (case kd => decide); (case ku => decide); (case hm => k_mem)); intro RAq rvsq n3q rsq tl3q hpq tkpq Fpq Npq hR9q hrs9q hrl9q) | (k_here; (with_reducible show wpAny _ _ (call (Value.ref 152) _) _ _ _); k_dflt (refine' masks_spec _ _ _ _ _ _ ?k1 ?k2 ?k3 ?k4 ?k5 ?kK ?hm ?b0 ?b1 ?b2 ?b3 ?b4 ?b5 ?b6 ?b7 ?kd ?ku ?_; (case k1 => k_asm); (case k2 => k_asm); (case k3 => k_asm); (case k4 => k_asm); (case k5 => k_asm); (case kK => exact rfl); (case kd => decide); (case ku => decide); (case hm => k_mem); (case b0 => exact in4_of (by with_reducible assumption)); (case b1 => exact in4_of (by with_reducible assumption)); (case b2 => exact in4_of (by with_reducible assumption)); (case b3 => exact in4_of (by with_reducible assumption)); (case b4 => exact in4_of (by with_reducible assumption)); (case b5 => exact in4_of (by with_reducible assumption)); (case b6 => exact in4_of (by with_reducible assumption)); (case b7 => exact in4_of (by with_reducible assumption))); intro raq maq mcq mvsq cvsq n1q n2q msq csq hpq tkpq Fpq Npq iMq iCq lMq lCq hfoldq) | (k_here; (with_reducible show wpAny _ _ (call (Value.ref 147) _) _ _ _); k_dflt (refine' cells_spec _ _ _ _ _ _ ?k1 ?k2 ?k3 ?k4 ?k5 ?kK ?hl ?hi ?hlen ?kd ?ku ?_; (case k1 => k_asm); (case k2 => k_asm); (case k3 => k_asm); (case k4 => k_asm); (case k5 => k_asm); (case kK => exact rfl); (case kd => decide); (case ku => decide); (case hl => assumption); (case hi => assumption); (case hlen => omega)); intro caq cvsq n0q xsq hpq tkpq Fpq Npq hIpq hlenpq; obtain ⟨c0q, c1q, c2q, c3q, c4q, c5q, c6q, c7q, u0q, u1q, u2q, u3q, u4q, u5q, u6q, u7q, hc9q⟩ := ints8 hIpq hlenpq; subst hc9q; clear hIpq hlenpq) | (k_here; k_dflt (show wpAny _ _ (call (Value.ref 49) [Value.ref _, Value.str _ _]) _ _ _); k_dflt (refine' book_allow _ _ _ _ _ _ ?k1 ?k2 ?k3 ?k4 ?k5 ?kK ?hB ?hs ?hnm ?hp ?kd ?ku ?_; (case k1 => k_asm); (case k2 => k_asm); (case k3 => k_asm); (case k4 => k_asm); (case k5 => k_asm); (case kK => exact rfl); (case hB => with_reducible assumption); (case hs => exact fun q hq => by simp only [List.mem_cons]; grind); (case hnm => exact name_len hi (by with_reducible assumption)); (case kd => decide); (case ku => decide); (case hp => exact say_of (by with_reducible assumption) i hi _ (by with_reducible assumption) (congrArg (fun k => frontS k ++ _) (show (8 : Int) + (i : Int) = ((8 + i : Nat) : Int) by omega)))); intro v9q hpq tkpq hS9q Fpq Npq))) | (k_here; (with_reducible show wpAny _ _ (call (Value.ref 192) _) _ _ _); k_dflt (refine' merges_spec _ _ _ _ _ _ (rest := [(_, W.listOf (List.toArray [.int _ _, .int _ _, .int _ _, .int _ _, .int _ _, .int _ _, .int _ _, .int _ _]) _)]) ?k1 ?k2 ?k3 ?k4 ?k5 ?kK ?hm ?hb ?hps ?hlen ?hrest ?hrg ?kd ?ku ?_; (case k1 => k_asm); (case k2 => k_asm); (case k3 => k_asm); (case k4 => k_asm); (case k5 => k_asm); (case kK => exact rfl); (case kd => decide); (case ku => decide); (case hm => k_mem); (case hb => k_mem); (case hps => exact PairsAre.mono (by with_reducible assumption) fun q hq => List.mem_cons_of_mem _ hq); (case hlen => with_reducible assumption); (case hrg => exact LawP.rng (by with_reducible assumption) _ (fmod4 _)); (case hrest => exact List.forall_mem_cons.mpr ⟨⟨by k_mem, tab_ne_seq (by k_asm) (by k_mem) (by k_mem) rfl⟩, List.forall_mem_nil _⟩)); intro D9q y1q y2q nd9q nw9q hpq tkpq Fpq Npq hD9q hB1q hB2q hT9q; obtain ⟨pt9q, hT9q⟩ := hT9q; (have N9pq := law_pick Npq hD9q hT9q)) | (k_here; (with_reducible show wpAny _ _ (call (Value.ref 171) _) _ _ _); k_dflt (refine' front_spec _ _ _ _ _ _ ?k1 ?k2 ?k3 ?k4 ?k5 ?kK ?hb ?kd ?ku ?_; (case k1 => k_asm); (case k2 => k_asm); (case k3 => k_asm); (case k4 => k_asm); (case k5 => k_asm); (case kK => exact rfl); (case kd => decide); (case ku => decide); (case hb => omega)); intro t9q hpq tkpq Fpq Npq) | (k_here; (with_reducible show wpAny _ _ (call (Value.ref 178) _) _ _ _); k_dflt (refine' saying_spec _ _ _ _ _ _ ?k1 ?k2 ?k3 ?k4 ?k5 ?kK ?hb ?kd ?ku ?_; (case k1 => k_asm); (case k2 => k_asm); (case k3 => k_asm); (case k4 => k_asm); (case k5 => k_asm); (case kK => exact rfl); (case kd => decide); (case ku => decide); (case hb => exact LawP.b (by with_reducible assumption) i hi)); intro v9q hpq tkpq hS9q Fpq Npq; (replace hS9q : SayIs (List.getD _ i 0) v9q := hS9q)) | (k_here; (with_reducible show wpAny _ _ (call (Value.ref 164) _) _ _ _); k_dflt (refine' lay_spec _ _ _ _ _ _ 4 ?k1 ?k2 ?k3 ?k4 ?k5 ?kK ?hm ?hi ?hl ?n1 ?n2 ?s1 ?s2 ?t1 ?t2 ?hf ?hg ?kd ?ku ?_; (case k1 => k_asm); (case k2 => k_asm); (case k3 => k_asm); (case k4 => k_asm); (case k5 => k_asm); (case kK => exact rfl); (case kd => decide); (case ku => decide); (case hm => k_mem); (case hi => with_reducible assumption); (case hl => with_reducible assumption); (case n1 => decide); (case n2 => decide); (case s1 => decide); (case s2 => decide); (case t1 => exact (fmod4 _).1); (case t2 => exact (fmod4 _).2); (case hf => decide); (case hg => decide)); intro b9q vs9q n9q tl9q hpq tkpq Fpq Npq hp9q hv9q; (try simp only [List.cons_append, List.nil_append] at Npq hp9q)) | (k_here; (with_reducible show wpAny _ _ (call (Value.ref 157) _) _ _ _); k_dflt (refine' few_spec _ _ _ _ _ _ ?k1 ?k2 ?k3 ?k4 ?k5 ?kK ?hm ?kd ?ku ?_; (case k1 => k_asm); (case k2 => k_asm); (case k3 => k_asm); (case k4 => k_asm); (case k5 => k_asm); (case kK => exact rfl); (case kd => decide); (case ku => decide); (case hm => k_mem)); intro RAq rvsq n3q rsq tl3q hpq tkpq Fpq Npq hR9q hrs9q hrl9q) | (k_here; (with_reducible show wpAny _ _ (call (Value.ref 152) _) _ _ _); k_dflt (refine' masks_spec _ _ _ _ _ _ ?k1 ?k2 ?k3 ?k4 ?k5 ?kK ?hm ?b0 ?b1 ?b2 ?b3 ?b4 ?b5 ?b6 ?b7 ?kd ?ku ?_; (case k1 => k_asm); (case k2 => k_asm); (case k3 => k_asm); (case k4 => k_asm); (case k5 => k_asm); (case kK => exact rfl); (case kd => decide); (case ku => decide); (case hm => k_mem); (case b0 => exact in4_of (by with_reducible assumption)); (case b1 => exact in4_of (by with_reducible assumption)); (case b2 => exact in4_of (by with_reducible assumption)); (case b3 => exact in4_of (by with_reducible assumption)); (case b4 => exact in4_of (by with_reducible assumption)); (case b5 => exact in4_of (by with_reducible assumption)); (case b6 => exact in4_of (by with_reducible assumption)); (case b7 => exact in4_of (by with_reducible assumption))); intro raq maq mcq mvsq cvsq n1q n2q msq csq hpq tkpq Fpq Npq iMq iCq lMq lCq hfoldq) | (k_here; (with_reducible show wpAny _ _ (call (Value.ref 147) _) _ _ _); k_dflt (refine' cells_spec _ _ _ _ _ _ ?k1 ?k2 ?k3 ?k4 ?k5 ?kK ?hl ?hi ?hlen ?kd ?ku ?_; (case k1 => k_asm); (case k2 => k_asm); (case k3 => k_asm); (case k4 => k_asm); (case k5 => k_asm); (case kK => exact rfl); (case kd => decide); (case ku => decide); (case hl => assumption); (case hi => assumption); (case hlen => omega)); intro caq cvsq n0q xsq hpq tkpq Fpq Npq hIpq hlenpq; obtain ⟨c0q, c1q, c2q, c3q, c4q, c5q, c6q, c7q, u0q, u1q, u2q, u3q, u4q, u5q, u6q, u7q, hc9q⟩ := ints8 hIpq hlenpq; subst hc9q; clear hIpq hlenpq) | (k_here; k_dflt (show wpAny _ _ (call (Value.ref 49) [Value.ref _, Value.str _ _]) _ _ _); k_dflt (refine' book_allow _ _ _ _ _ _ ?k1 ?k2 ?k3 ?k4 ?k5 ?kK ?hB ?hs ?hnm ?hp ?kd ?ku ?_; (case k1 => k_asm); (case k2 => k_asm); (case k3 => k_asm); (case k4 => k_asm); (case k5 => k_asm); (case kK => exact rfl); (case hB => with_reducible assumption); (case hs => exact fun q hq => by simp only [List.mem_cons]; grind); (case hnm => exact name_len hi (by with_reducible assumption)); (case kd => decide); (case ku => decide); (case hp => exact say_of (by with_reducible assumption) i hi _ (by with_reducible assumption) (congrArg (fun k => frontS k ++ _) (show (8 : Int) + (i : Int) = ((8 + i : Nat) : Int) by omega)))); intro v9q hpq tkpq hS9q Fpq Npq)); (try walk_say "OWN call ref")) | ((with_reducible show wpAny _ _ (call (Value.builtin "len") _) _ _ _); (first | (with_reducible (first | (k_here; (with_reducible show wpAny _ _ (call (Value.builtin "len") [Value.ref _]) _ _ _); k_dflt (refine' len_led ?k1 ?k2 ?k3 ?_; (case k1 => k_asm); (case k2 => k_mem); (case k3 => with_reducible assumption); k_whole); intro t9q tk9q))) | (k_here; (with_reducible show wpAny _ _ (call (Value.builtin "len") [Value.ref _]) _ _ _); k_dflt (refine' len_led ?k1 ?k2 ?k3 ?_; (case k1 => k_asm); (case k2 => k_mem); (case k3 => with_reducible assumption); k_whole); intro t9q tk9q)); (try walk_say "OWN call builtin:len")) | ((with_reducible show wpAny _ _ (call (Value.builtin "isinstance") _) _ _ _); (first | (with_reducible (first | (k_here; (with_reducible show wpAny _ _ (call (Value.builtin "isinstance") [_, Value.type "bool"]) _ _ _); k_dflt (refine' say_isb ?h1 ?_; (case h1 => with_reducible assumption); k_whole); intro tk9q))) | (k_here; (with_reducible show wpAny _ _ (call (Value.builtin "isinstance") [_, Value.type "bool"]) _ _ _); k_dflt (refine' say_isb ?h1 ?_; (case h1 => with_reducible assumption); k_whole); intro tk9q)); (try walk_say "OWN call builtin:isinstance")))) | ((fail_if_success (goal_lacks getMethod)); (with_reducible show wpAny _ _ (getMethod _ _ _) _ _ _); ((first | (with_reducible (first | (k_here; (with_reducible show wpAny _ _ (getMethod (Value.ref _) (Str.ofString "allowance") _) _ _ _); k_dflt (refine' book_method _ _ _ _ _ _ ?hB ?k1 ?k2 ?k3 ?k4 ?_; (case hB => with_reducible assumption); (case k1 => k_asm); (case k2 => k_asm); (case k3 => k_asm); (case k4 => exact fun q hq => by simp only [List.mem_cons]; grind); k_whole); (try dsimp only)))) | (k_here; (with_reducible show wpAny _ _ (getMethod (Value.ref _) (Str.ofString "allowance") _) _ _ _); k_dflt (refine' book_method _ _ _ _ _ _ ?hB ?k1 ?k2 ?k3 ?k4 ?_; (case hB => with_reducible assumption); (case k1 => k_asm); (case k2 => k_asm); (case k3 => k_asm); (case k4 => exact fun q hq => by simp only [List.mem_cons]; grind); k_whole); (try dsimp only))); (try walk_say "OWN getMethod ref"))) | ((fail_if_success (goal_lacks InvEndN)); (with_reducible show InvEndN ..); (repeat clear qk); (repeat clear ek); ((first | (with_reducible (first | k_dflt kst_close)) | k_dflt kst_close); (try walk_say "OWN InvEndN"))) | ((fail_if_success (goal_lacks LCg.CompEnd)); (with_reducible show LCg.CompEnd ..); ((first | (with_reducible (first | first | (k_dflt (refine' ce_int ?a1 ?a2 ?a3 ?a4 ?_; (case a1 => k_asm); (case a2 => k_asm); (case a3 => with_reducible assumption); (case a4 => first | exact True.intro | lcg_src)); intro z9q hz9q) | (k_dflt (refine' ce_same ?a1 ?a2 ?a3 ?a4 ?_; (case a1 => k_asm); (case a2 => k_asm); (case a3 => with_reducible assumption); (case a4 => first | exact True.intro | lcg_src))) | (k_dflt (refine' ce_one ?a1 ?a2 ?a3 ?a5 ?a4 ?_; (case a1 => k_asm); (case a2 => k_asm); (case a3 => with_reducible assumption); (case a5 => with_reducible assumption); (case a4 => first | exact True.intro | lcg_src))) | k_dflt lcg_end)) | first | (k_dflt (refine' ce_int ?a1 ?a2 ?a3 ?a4 ?_; (case a1 => k_asm); (case a2 => k_asm); (case a3 => with_reducible assumption); (case a4 => first | exact True.intro | lcg_src)); intro z9q hz9q) | (k_dflt (refine' ce_same ?a1 ?a2 ?a3 ?a4 ?_; (case a1 => k_asm); (case a2 => k_asm); (case a3 => with_reducible assumption); (case a4 => first | exact True.intro | lcg_src))) | (k_dflt (refine' ce_one ?a1 ?a2 ?a3 ?a5 ?a4 ?_; (case a1 => k_asm); (case a2 => k_asm); (case a3 => with_reducible assumption); (case a5 => with_reducible assumption); (case a4 => first | exact True.intro | lcg_src))) | k_dflt lcg_end); (try walk_say "OWN CompEnd"))) | ((fail_if_success (goal_lacks LCg.CompRest)); (with_reducible show LCg.CompRest ..); ((first | (with_reducible (first | (with_unfolding_all first | (refine LCg.CompRest.succ ?_; intro vpq Ipq oIpq Cpq oCpq Dpq mpq hpq tkpq Epq hvpq hCpq hxpq Fpq Npq offpq nepq; clear nepq; (first | lcg_open hvpq | (obtain ⟨t9pq, hv9pq⟩ := hvpq; subst hv9pq))) | refine LCg.CompRest.zero ?_))) | (with_unfolding_all first | (refine LCg.CompRest.succ ?_; intro vpq Ipq oIpq Cpq oCpq Dpq mpq hpq tkpq Epq hvpq hCpq hxpq Fpq Npq offpq nepq; clear nepq; (first | lcg_open hvpq | (obtain ⟨t9pq, hv9pq⟩ := hvpq; subst hv9pq))) | refine LCg.CompRest.zero ?_)); (try walk_say "OWN CompRest"))) | ((fail_if_success (goal_lacks LCg.FinE)); (with_reducible show LCg.FinE ..); ((first | (with_reducible (first | ((unfold LCg.FinE); intro Dpq hpq tkpq Fpq Npq o1pq; (try simp only [List.nil_append, List.cons_append] at Npq); (try dsimp only)))) | ((unfold LCg.FinE); intro Dpq hpq tkpq Fpq Npq o1pq; (try simp only [List.nil_append, List.cons_append] at Npq); (try dsimp only))); (try walk_say "OWN FinE"))) | ((fail_if_success (goal_lacks CRestC)); (with_reducible show CRestC ..); ((first | (with_reducible (first | (with_unfolding_all first | (refine CRestC.succ ?_; intro vpq Ipq oIpq Cpq oCpq cpq ocpq Dpq hpq tkpq Epq hvpq hdpq Fpq Npq offpq nepq offcpq; clear nepq; lcg_open hvpq) | refine CRestC.zero ?_))) | (with_unfolding_all first | (refine CRestC.succ ?_; intro vpq Ipq oIpq Cpq oCpq cpq ocpq Dpq hpq tkpq Epq hvpq hdpq Fpq Npq offpq nepq offcpq; clear nepq; lcg_open hvpq) | refine CRestC.zero ?_)); (try walk_say "OWN CRestC"))) | ((fail_if_success (goal_lacks RestC)); (with_reducible show RestC ..); ((first | (with_reducible (first | (k_dflt (refine restC_one (by with_reducible assumption) (by with_reducible assumption) ?_)))) | (k_dflt (refine restC_one (by with_reducible assumption) (by with_reducible assumption) ?_))); (try walk_say "OWN RestC"))) | walk1 | (dsimp only; walk1) | (dsimp only [List.cons_append, List.nil_append]; walk1)); (try (goal_lacks LoopAtV TurnsAt; (first | (fail_if_success k_fold; skip) | (refine foldQ ?_; intro qk))))) | ((with_reducible show wpAny _ _ _ _ _ _); dsimp only) | (leave1; walk_say "STEP leave1"; try dsimp only) | fail "no step"))
    rename IsRange _ _ _ _ _ _ _ _ => rgY; rename Fr _ _ _ _ => lF2; rename News _ _ _ _ => lN2
    k_dflt (refine' law_loop2 rfl rgY lF2 lN2 ?turn2 ?done2)
    case turn2 =>
      intro i t u h tk I oI hi F' N' off
      (repeat' (first | (k_unfold; (try dsimp only)) | (k_end; wrow_close) | ((first | ((fail_if_success (goal_lacks subscriptTail)); (with_reducible show wpAny _ _ (subscriptTail _ _ _ _) _ _ _); (first | ((with_reducible show wpAny _ _ (subscriptTail (Expr.Subscript (Expr.Name ..) (Expr.Constant ..) _) (Expr.Constant ..) (Value.ref _) (Value.int _ _)) _ _ _); (first | (with_reducible (first | (k_here; (with_reducible show wpAny _ _ (subscriptTail _ _ (Value.ref _) (Value.int _ _)) _ _ _); k_dflt (refine' ksa_sub ?k1 ?k2 ?k3 ?k4 ?k5 ?k6 ?_ ?k7; (case k1 => k_asm); (case k2 => with_reducible assumption); (case k3 => with_reducible assumption); (case k4 => decide); (case k5 => exact LawP.lt4 (by with_reducible assumption)); (case k6 => decide); (case k7 => with_unfolding_all rfl); k_whole); intro _))) | (k_here; (with_reducible show wpAny _ _ (subscriptTail _ _ (Value.ref _) (Value.int _ _)) _ _ _); k_dflt (refine' ksa_sub ?k1 ?k2 ?k3 ?k4 ?k5 ?k6 ?_ ?k7; (case k1 => k_asm); (case k2 => with_reducible assumption); (case k3 => with_reducible assumption); (case k4 => decide); (case k5 => exact LawP.lt4 (by with_reducible assumption)); (case k6 => decide); (case k7 => with_unfolding_all rfl); k_whole); intro _)); (try walk_say "OWN subscriptTail Subscript Name Constant Constant ref int")) | ((with_reducible show wpAny _ _ (subscriptTail (Expr.Name ..) (Expr.Name ..) (Value.ref _) (Value.int _ _)) _ _ _); (first | (with_reducible (first | (k_here; (with_reducible show wpAny _ _ (subscriptTail _ _ (Value.ref _) (Value.int _ _)) _ _ _); k_dflt (refine' ksa_sub ?k1 ?k2 ints8_of ?k4 ?k5 ?k6 ?_ ?k7; (case k1 => k_asm); (case k2 => k_mem); (case k4 => omega); (case k5 => (show (_ : Int) < 8; omega)); (case k6 => omega); (case k7 => with_unfolding_all rfl); k_whole); intro _) | (k_here; (with_reducible show wpAny _ _ (subscriptTail _ _ (Value.ref _) (Value.int _ _)) _ _ _); k_dflt (refine' sub_rows ?k1 ?k2 ?k3 ?k4 ?k5 ?k6 ?_ ?k7; (case k1 => k_asm); (case k3 => with_reducible assumption); (case k2 => k_mem); (case k4 => exact fun p hp => by simp only [List.mem_cons]; grind); (case k5 => omega); (case k6 => omega); (case k7 => with_unfolding_all rfl); k_whole); intro b9q ws9q n9q hm9q hi9q) | (k_here; (with_reducible show wpAny _ _ (subscriptTail _ _ (Value.ref _) (Value.int _ _)) _ _ _); k_dflt (first | (refine' sub_at ?k1 ?k2 ?k4 ?k5 ?k3 ?_ ?k6; (case k1 => k_asm); (case k2 => k_mem); (case k4 => decide); (case k5 => decide); (case k3 => rfl); (case k6 => with_unfolding_all rfl); k_whole) | (refine' ksa_sub ?k1 ?k2 ?k3 ?k4 ?k5 ?k6 ?_ ?k7; (case k1 => k_asm); (case k2 => k_mem); (case k3 => with_reducible assumption); (case k4 => omega); (case k5 => (refine Int.lt_of_lt_of_eq ?_ (congrArg Nat.cast (by with_reducible assumption)).symm; omega)); (case k6 => omega); (case k7 => with_unfolding_all rfl); k_whole; intro _))))) | (k_here; (with_reducible show wpAny _ _ (subscriptTail _ _ (Value.ref _) (Value.int _ _)) _ _ _); k_dflt (refine' ksa_sub ?k1 ?k2 ints8_of ?k4 ?k5 ?k6 ?_ ?k7; (case k1 => k_asm); (case k2 => k_mem); (case k4 => omega); (case k5 => (show (_ : Int) < 8; omega)); (case k6 => omega); (case k7 => with_unfolding_all rfl); k_whole); intro _) | (k_here; (with_reducible show wpAny _ _ (subscriptTail _ _ (Value.ref _) (Value.int _ _)) _ _ _); k_dflt (refine' sub_rows ?k1 ?k2 ?k3 ?k4 ?k5 ?k6 ?_ ?k7; (case k1 => k_asm); (case k3 => with_reducible assumption); (case k2 => k_mem); (case k4 => exact fun p hp => by simp only [List.mem_cons]; grind); (case k5 => omega); (case k6 => omega); (case k7 => with_unfolding_all rfl); k_whole); intro b9q ws9q n9q hm9q hi9q) | (k_here; (with_reducible show wpAny _ _ (subscriptTail _ _ (Value.ref _) (Value.int _ _)) _ _ _); k_dflt (first | (refine' sub_at ?k1 ?k2 ?k4 ?k5 ?k3 ?_ ?k6; (case k1 => k_asm); (case k2 => k_mem); (case k4 => decide); (case k5 => decide); (case k3 => rfl); (case k6 => with_unfolding_all rfl); k_whole) | (refine' ksa_sub ?k1 ?k2 ?k3 ?k4 ?k5 ?k6 ?_ ?k7; (case k1 => k_asm); (case k2 => k_mem); (case k3 => with_reducible assumption); (case k4 => omega); (case k5 => (refine Int.lt_of_lt_of_eq ?_ (congrArg Nat.cast (by with_reducible assumption)).symm; omega)); (case k6 => omega); (case k7 => with_unfolding_all rfl); k_whole; intro _)))); (try walk_say "OWN subscriptTail Name Name ref int")) | ((with_reducible show wpAny _ _ (subscriptTail (Expr.Name ..) (Expr.Constant ..) (Value.ref _) (Value.int _ _)) _ _ _); (first | (with_reducible (first | (k_here; (with_reducible show wpAny _ _ (subscriptTail _ _ (Value.ref _) (Value.int _ _)) _ _ _); k_dflt (refine' sub_rows ?k1 ?k2 ?k3 ?k4 ?k5 ?k6 ?_ ?k7; (case k1 => k_asm); (case k3 => with_reducible assumption); (case k2 => k_mem); (case k4 => exact fun p hp => by simp only [List.mem_cons, List.mem_append]; grind); (case k5 => omega); (case k6 => omega); (case k7 => with_unfolding_all rfl); k_whole); intro b9q ws9q n9q hm9q hi9q))) | (k_here; (with_reducible show wpAny _ _ (subscriptTail _ _ (Value.ref _) (Value.int _ _)) _ _ _); k_dflt (refine' sub_rows ?k1 ?k2 ?k3 ?k4 ?k5 ?k6 ?_ ?k7; (case k1 => k_asm); (case k3 => with_reducible assumption); (case k2 => k_mem); (case k4 => exact fun p hp => by simp only [List.mem_cons, List.mem_append]; grind); (case k5 => omega); (case k6 => omega); (case k7 => with_unfolding_all rfl); k_whole); intro b9q ws9q n9q hm9q hi9q)); (try walk_say "OWN subscriptTail Name Constant ref int")) | ((with_reducible show wpAny _ _ (subscriptTail (Expr.Name ..) (Expr.BinOp ..) (Value.ref _) (Value.int _ _)) _ _ _); (first | (with_reducible (first | (k_here; k_dflt (refine' sub_book2 ?N ?hm ?hk ?h1 ?h2 ?_ ?hs; (case N => k_asm); (case hm => k_mem); (case hk => exact fmod2 _); (case h1 => with_reducible assumption); (case h2 => with_reducible assumption); (case hs => with_unfolding_all rfl); k_whole); intro y9q hB9q))) | (k_here; k_dflt (refine' sub_book2 ?N ?hm ?hk ?h1 ?h2 ?_ ?hs; (case N => k_asm); (case hm => k_mem); (case hk => exact fmod2 _); (case h1 => with_reducible assumption); (case h2 => with_reducible assumption); (case hs => with_unfolding_all rfl); k_whole); intro y9q hB9q)); (try walk_say "OWN subscriptTail Name BinOp ref int")) | ((first | (with_reducible (first | (k_here; (with_reducible show wpAny _ _ (subscriptTail (Expr.Tuple ..) _ (Value.ref _) (Value.int _ _)) _ _ _); k_dflt (refine' sub_sfx ?N ?hm ?hk ?_ ?hs; (case N => k_asm); (case hm => k_mem); (case hk => exact fmod2 _); (case hs => with_unfolding_all rfl); k_whole); intro sfx9q t9q hs9q) | (k_here; (with_reducible show wpAny _ _ (subscriptTail _ _ (Value.ref _) (Value.int _ _)) _ _ _); k_dflt (first | (refine' sub_at ?k1 ?k2 ?k4 ?k5 ?k3 ?_ ?k6; (case k1 => k_asm); (case k2 => k_mem); (case k4 => decide); (case k5 => decide); (case k3 => rfl); (case k6 => with_unfolding_all rfl); k_whole))))) | (k_here; (with_reducible show wpAny _ _ (subscriptTail (Expr.Tuple ..) _ (Value.ref _) (Value.int _ _)) _ _ _); k_dflt (refine' sub_sfx ?N ?hm ?hk ?_ ?hs; (case N => k_asm); (case hm => k_mem); (case hk => exact fmod2 _); (case hs => with_unfolding_all rfl); k_whole); intro sfx9q t9q hs9q) | (k_here; (with_reducible show wpAny _ _ (subscriptTail _ _ (Value.ref _) (Value.int _ _)) _ _ _); k_dflt (first | (refine' sub_at ?k1 ?k2 ?k4 ?k5 ?k3 ?_ ?k6; (case k1 => k_asm); (case k2 => k_mem); (case k4 => decide); (case k5 => decide); (case k3 => rfl); (case k6 => with_unfolding_all rfl); k_whole)))); (try walk_say "OWN subscriptTail")))) | ((fail_if_success (goal_lacks exec)); (with_reducible show wpAny _ _ (exec _ _) _ _ _); ((with_reducible show wpAny _ _ (exec (Stmt.For (Expr.Name ..) (Expr.Call ..) (_ :: _) [] _) _) _ _ _); (first | (with_reducible (first | (k_here; (rename Fr _ _ _ _ => lFpq); (with_unfolding_all refine' For_turns lFpq ?_; k_whole)))) | (k_here; (rename Fr _ _ _ _ => lFpq); (with_unfolding_all refine' For_turns lFpq ?_; k_whole))); (try walk_say "OWN exec For Name Call cons nil"))) | ((fail_if_success (goal_lacks binaryOp)); (with_reducible show wpAny _ _ (binaryOp _ _ _) _ _ _); (first | ((with_reducible show wpAny _ _ (binaryOp Operator.Mult (Value.int _ _) (Value.int _ _)) _ _ _); (first | (with_reducible (first | (k_here; with_reducible refine mul_int ?_ (IntMulOk.of_left (by decide))))) | (k_here; with_reducible refine mul_int ?_ (IntMulOk.of_left (by decide)))); (try walk_say "OWN binaryOp Mult int int")) | ((with_reducible show wpAny _ _ (binaryOp Operator.Add (Value.str _ _) (Value.str _ _)) _ _ _); (first | (with_reducible (first | (k_here; (with_reducible show wpAny _ _ (binaryOp Operator.Add (Value.str _ _) (Value.str _ _)) _ _ _); k_dflt (refine add_str (hsz := ?hz) ?_; (case hz => exact Nat.le_trans (name_fits hi (by with_reducible assumption)) (by rw [sizeLine_eq]; decide)); intro t9q tk9q)))) | (k_here; (with_reducible show wpAny _ _ (binaryOp Operator.Add (Value.str _ _) (Value.str _ _)) _ _ _); k_dflt (refine add_str (hsz := ?hz) ?_; (case hz => exact Nat.le_trans (name_fits hi (by with_reducible assumption)) (by rw [sizeLine_eq]; decide)); intro t9q tk9q))); (try walk_say "OWN binaryOp Add str str")))) | ((fail_if_success (goal_lacks compareOp)); (with_reducible show wpAny _ _ (compareOp _ _ _) _ _ _); (first | ((with_reducible show wpAny _ _ (compareOp CmpOp.NotEq (Value.int _ _) (Value.int _ _)) _ _ _); (first | (with_reducible (first | (k_here; (with_reducible show wpAny _ _ (compareOp CmpOp.NotEq (Value.int _ _) (Value.int _ _)) _ _ _); k_dflt (refine' ne_int_same ?k1 ?_; (case k1 => exact law_len (by with_reducible assumption) (by with_reducible assumption) (fmod4 _)))))) | (k_here; (with_reducible show wpAny _ _ (compareOp CmpOp.NotEq (Value.int _ _) (Value.int _ _)) _ _ _); k_dflt (refine' ne_int_same ?k1 ?_; (case k1 => exact law_len (by with_reducible assumption) (by with_reducible assumption) (fmod4 _))))); (try walk_say "OWN compareOp NotEq int int")) | ((with_reducible show wpAny _ _ (compareOp CmpOp.NotEq (Value.bool _) (Value.bool _)) _ _ _); (first | (with_reducible (first | (k_here; k_dflt (refine ne_bool_same ?_)))) | (k_here; k_dflt (refine ne_bool_same ?_))); (try walk_say "OWN compareOp NotEq bool bool")) | ((with_reducible show wpAny _ _ (compareOp CmpOp.NotEq _ _) _ _ _); (first | (with_reducible (first | (k_here; k_dflt (first | refine say_ne (by with_reducible assumption) (by assumption) ?_ | refine ne_bool_same ?_)))) | (k_here; k_dflt (first | refine say_ne (by with_reducible assumption) (by assumption) ?_ | refine ne_bool_same ?_))); (try walk_say "OWN compareOp NotEq")))) | ((fail_if_success (goal_lacks eval)); (with_reducible show wpAny _ _ (eval _ _) _ _ _); (first | ((with_reducible show wpAny _ _ (eval (Expr.ListComp ..) _) _ _ _); (first | (with_reducible (first | ((with_reducible show wpAny _ _ (eval _ _) _ _ _); k_here; lcg_look; lcg_calm; k_dflt (refine LCg.ListComp_U (F₀ := by k_asm) (by rfl) (by decide) (by rfl) (by decide) (by rfl) ?_); k_dflt lcg_toSrc))) | ((with_reducible show wpAny _ _ (eval _ _) _ _ _); k_here; lcg_look; lcg_calm; k_dflt (refine LCg.ListComp_U (F₀ := by k_asm) (by rfl) (by decide) (by rfl) (by decide) (by rfl) ?_); k_dflt lcg_toSrc)); (try walk_say "OWN eval ListComp")) | ((with_reducible show wpAny _ _ (eval (Expr.Name ..) _) _ _ _); (first | (with_reducible (first | (k_here; (with_reducible show wpAny _ _ (eval (Expr.Name _ _) (compEnvC _ _ _ _)) _ _ _); k_dflt (refine' lcf_cell ?N ?c ?m ?d ?_ ?a ?b; (case a => rfl); (case b => rfl); (case N => k_asm); (case c => rfl); (case m => k_mem); (case d => with_reducible assumption); k_whole)) | (k_here; (with_reducible show wpAny _ _ (eval (Expr.Name _ _) (compEnvC _ _ _ _)) _ _ _); k_dflt (refine' LCgL.ld_own ?N ?m ?d ?x ?_ ?a ?b; (case a => rfl); (case b => rfl); (case N => k_asm); (case m => k_mem); (case d => with_reducible assumption); (case x => with_reducible assumption); k_whole)))) | (k_here; (with_reducible show wpAny _ _ (eval (Expr.Name _ _) (compEnvC _ _ _ _)) _ _ _); k_dflt (refine' lcf_cell ?N ?c ?m ?d ?_ ?a ?b; (case a => rfl); (case b => rfl); (case N => k_asm); (case c => rfl); (case m => k_mem); (case d => with_reducible assumption); k_whole)) | (k_here; (with_reducible show wpAny _ _ (eval (Expr.Name _ _) (compEnvC _ _ _ _)) _ _ _); k_dflt (refine' LCgL.ld_own ?N ?m ?d ?x ?_ ?a ?b; (case a => rfl); (case b => rfl); (case N => k_asm); (case m => k_mem); (case d => with_reducible assumption); (case x => with_reducible assumption); k_whole))); (try walk_say "OWN eval Name")))) | ((fail_if_success (goal_lacks call)); (with_reducible show wpAny _ _ (call _ _) _ _ _); (first | ((first | (with_reducible (first | (k_here; (with_reducible show wpAny _ _ (call (Value.ref 192) _) _ _ _); k_dflt (refine' merges_spec _ _ _ _ _ _ (rest := [(_, W.listOf (List.toArray [.int _ _, .int _ _, .int _ _, .int _ _, .int _ _, .int _ _, .int _ _, .int _ _]) _)]) ?k1 ?k2 ?k3 ?k4 ?k5 ?kK ?hm ?hb ?hps ?hlen ?hrest ?hrg ?kd ?ku ?_; (case k1 => k_asm); (case k2 => k_asm); (case k3 => k_asm); (case k4 => k_asm); (case k5 => k_asm); (case kK => exact rfl); (case kd => decide); (case ku => decide); (case hm => k_mem); (case hb => k_mem); (case hps => exact PairsAre.mono (by with_reducible assumption) fun q hq => List.mem_cons_of_mem _ hq); (case hlen => with_reducible assumption); (case hrg => exact LawP.rng (by with_reducible assumption) _ (fmod4 _)); (case hrest => exact List.forall_mem_cons.mpr ⟨⟨by k_mem, tab_ne_seq (by k_asm) (by k_mem) (by k_mem) rfl⟩, List.forall_mem_nil _⟩)); intro D9q y1q y2q nd9q nw9q hpq tkpq Fpq Npq hD9q hB1q hB2q hT9q; obtain ⟨pt9q, hT9q⟩ := hT9q; (have N9pq := law_pick Npq hD9q hT9q)) | (k_here; (with_reducible show wpAny _ _ (call (Value.ref 171) _) _ _ _); k_dflt (refine' front_spec _ _ _ _ _ _ ?k1 ?k2 ?k3 ?k4 ?k5 ?kK ?hb ?kd ?ku ?_; (case k1 => k_asm); (case k2 => k_asm); (case k3 => k_asm); (case k4 => k_asm); (case k5 => k_asm); (case kK => exact rfl); (case kd => decide); (case ku => decide); (case hb => omega)); intro t9q hpq tkpq Fpq Npq) | (k_here; (with_reducible show wpAny _ _ (call (Value.ref 178) _) _ _ _); k_dflt (refine' saying_spec _ _ _ _ _ _ ?k1 ?k2 ?k3 ?k4 ?k5 ?kK ?hb ?kd ?ku ?_; (case k1 => k_asm); (case k2 => k_asm); (case k3 => k_asm); (case k4 => k_asm); (case k5 => k_asm); (case kK => exact rfl); (case kd => decide); (case ku => decide); (case hb => exact LawP.b (by with_reducible assumption) i hi)); intro v9q hpq tkpq hS9q Fpq Npq; (replace hS9q : SayIs (List.getD _ i 0) v9q := hS9q)) | (k_here; (with_reducible show wpAny _ _ (call (Value.ref 164) _) _ _ _); k_dflt (refine' lay_spec _ _ _ _ _ _ 4 ?k1 ?k2 ?k3 ?k4 ?k5 ?kK ?hm ?hi ?hl ?n1 ?n2 ?s1 ?s2 ?t1 ?t2 ?hf ?hg ?kd ?ku ?_; (case k1 => k_asm); (case k2 => k_asm); (case k3 => k_asm); (case k4 => k_asm); (case k5 => k_asm); (case kK => exact rfl); (case kd => decide); (case ku => decide); (case hm => k_mem); (case hi => with_reducible assumption); (case hl => with_reducible assumption); (case n1 => decide); (case n2 => decide); (case s1 => decide); (case s2 => decide); (case t1 => exact (fmod4 _).1); (case t2 => exact (fmod4 _).2); (case hf => decide); (case hg => decide)); intro b9q vs9q n9q tl9q hpq tkpq Fpq Npq hp9q hv9q; (try simp only [List.cons_append, List.nil_append] at Npq hp9q)) | (k_here; (with_reducible show wpAny _ _ (call (Value.ref 157) _) _ _ _); k_dflt (refine' few_spec _ _ _ _ _ _ ?k1 ?k2 ?k3 ?k4 ?k5 ?kK ?hm ?kd ?ku ?_; (case k1 => k_asm); (case k2 => k_asm); (case k3 => k_asm); (case k4 => k_asm); (case k5 => k_asm); (case kK => exact rfl); (case kd => decide); (case ku => decide); (case hm => k_mem)); intro RAq rvsq n3q rsq tl3q hpq tkpq Fpq Npq hR9q hrs9q hrl9q) | (k_here; (with_reducible show wpAny _ _ (call (Value.ref 152) _) _ _ _); k_dflt (refine' masks_spec _ _ _ _ _ _ ?k1 ?k2 ?k3 ?k4 ?k5 ?kK ?hm ?b0 ?b1 ?b2 ?b3 ?b4 ?b5 ?b6 ?b7 ?kd ?ku ?_; (case k1 => k_asm); (case k2 => k_asm); (case k3 => k_asm); (case k4 => k_asm); (case k5 => k_asm); (case kK => exact rfl); (case kd => decide); (case ku => decide); (case hm => k_mem); (case b0 => exact in4_of (by with_reducible assumption)); (case b1 => exact in4_of (by with_reducible assumption)); (case b2 => exact in4_of (by with_reducible assumption)); (case b3 => exact in4_of (by with_reducible assumption)); (case b4 => exact in4_of (by with_reducible assumption)); (case b5 => exact in4_of (by with_reducible assumption)); (case b6 => exact in4_of (by with_reducible assumption)); (case b7 => exact in4_of (by with_reducible assumption))); intro raq maq mcq mvsq cvsq n1q n2q msq csq hpq tkpq Fpq Npq iMq iCq lMq lCq hfoldq) | (k_here; (with_reducible show wpAny _ _ (call (Value.ref 147) _) _ _ _); k_dflt (refine' cells_spec _ _ _ _ _ _ ?k1 ?k2 ?k3 ?k4 ?k5 ?kK ?hl ?hi ?hlen ?kd ?ku ?_; (case k1 => k_asm); (case k2 => k_asm); (case k3 => k_asm); (case k4 => k_asm); (case k5 => k_asm); (case kK => exact rfl); (case kd => decide); (case ku => decide); (case hl => assumption); (case hi => assumption); (case hlen => omega)); intro caq cvsq n0q xsq hpq tkpq Fpq Npq hIpq hlenpq; obtain ⟨c0q, c1q, c2q, c3q, c4q, c5q, c6q, c7q, u0q, u1q, u2q, u3q, u4q, u5q, u6q, u7q, hc9q⟩ := ints8 hIpq hlenpq; subst hc9q; clear hIpq hlenpq) | (k_here; k_dflt (show wpAny _ _ (call (Value.ref 49) [Value.ref _, Value.str _ _]) _ _ _); k_dflt (refine' book_allow _ _ _ _ _ _ ?k1 ?k2 ?k3 ?k4 ?k5 ?kK ?hB ?hs ?hnm ?hp ?kd ?ku ?_; (case k1 => k_asm); (case k2 => k_asm); (case k3 => k_asm); (case k4 => k_asm); (case k5 => k_asm); (case kK => exact rfl); (case hB => with_reducible assumption); (case hs => exact fun q hq => by simp only [List.mem_cons]; grind); (case hnm => exact name_len hi (by with_reducible assumption)); (case kd => decide); (case ku => decide); (case hp => exact say_of (by with_reducible assumption) i hi _ (by with_reducible assumption) (congrArg (fun k => frontS k ++ _) (show (8 : Int) + (i : Int) = ((8 + i : Nat) : Int) by omega)))); intro v9q hpq tkpq hS9q Fpq Npq))) | (k_here; (with_reducible show wpAny _ _ (call (Value.ref 192) _) _ _ _); k_dflt (refine' merges_spec _ _ _ _ _ _ (rest := [(_, W.listOf (List.toArray [.int _ _, .int _ _, .int _ _, .int _ _, .int _ _, .int _ _, .int _ _, .int _ _]) _)]) ?k1 ?k2 ?k3 ?k4 ?k5 ?kK ?hm ?hb ?hps ?hlen ?hrest ?hrg ?kd ?ku ?_; (case k1 => k_asm); (case k2 => k_asm); (case k3 => k_asm); (case k4 => k_asm); (case k5 => k_asm); (case kK => exact rfl); (case kd => decide); (case ku => decide); (case hm => k_mem); (case hb => k_mem); (case hps => exact PairsAre.mono (by with_reducible assumption) fun q hq => List.mem_cons_of_mem _ hq); (case hlen => with_reducible assumption); (case hrg => exact LawP.rng (by with_reducible assumption) _ (fmod4 _)); (case hrest => exact List.forall_mem_cons.mpr ⟨⟨by k_mem, tab_ne_seq (by k_asm) (by k_mem) (by k_mem) rfl⟩, List.forall_mem_nil _⟩)); intro D9q y1q y2q nd9q nw9q hpq tkpq Fpq Npq hD9q hB1q hB2q hT9q; obtain ⟨pt9q, hT9q⟩ := hT9q; (have N9pq := law_pick Npq hD9q hT9q)) | (k_here; (with_reducible show wpAny _ _ (call (Value.ref 171) _) _ _ _); k_dflt (refine' front_spec _ _ _ _ _ _ ?k1 ?k2 ?k3 ?k4 ?k5 ?kK ?hb ?kd ?ku ?_; (case k1 => k_asm); (case k2 => k_asm); (case k3 => k_asm); (case k4 => k_asm); (case k5 => k_asm); (case kK => exact rfl); (case kd => decide); (case ku => decide); (case hb => omega)); intro t9q hpq tkpq Fpq Npq) | (k_here; (with_reducible show wpAny _ _ (call (Value.ref 178) _) _ _ _); k_dflt (refine' saying_spec _ _ _ _ _ _ ?k1 ?k2 ?k3 ?k4 ?k5 ?kK ?hb ?kd ?ku ?_; (case k1 => k_asm); (case k2 => k_asm); (case k3 => k_asm); (case k4 => k_asm); (case k5 => k_asm); (case kK => exact rfl); (case kd => decide); (case ku => decide); (case hb => exact LawP.b (by with_reducible assumption) i hi)); intro v9q hpq tkpq hS9q Fpq Npq; (replace hS9q : SayIs (List.getD _ i 0) v9q := hS9q)) | (k_here; (with_reducible show wpAny _ _ (call (Value.ref 164) _) _ _ _); k_dflt (refine' lay_spec _ _ _ _ _ _ 4 ?k1 ?k2 ?k3 ?k4 ?k5 ?kK ?hm ?hi ?hl ?n1 ?n2 ?s1 ?s2 ?t1 ?t2 ?hf ?hg ?kd ?ku ?_; (case k1 => k_asm); (case k2 => k_asm); (case k3 => k_asm); (case k4 => k_asm); (case k5 => k_asm); (case kK => exact rfl); (case kd => decide); (case ku => decide); (case hm => k_mem); (case hi => with_reducible assumption); (case hl => with_reducible assumption); (case n1 => decide); (case n2 => decide); (case s1 => decide); (case s2 => decide); (case t1 => exact (fmod4 _).1); (case t2 => exact (fmod4 _).2); (case hf => decide); (case hg => decide)); intro b9q vs9q n9q tl9q hpq tkpq Fpq Npq hp9q hv9q; (try simp only [List.cons_append, List.nil_append] at Npq hp9q)) | (k_here; (with_reducible show wpAny _ _ (call (Value.ref 157) _) _ _ _); k_dflt (refine' few_spec _ _ _ _ _ _ ?k1 ?k2 ?k3 ?k4 ?k5 ?kK ?hm ?kd ?ku ?_; (case k1 => k_asm); (case k2 => k_asm); (case k3 => k_asm); (case k4 => k_asm); (case k5 => k_asm); (case kK => exact rfl); (case kd => decide); (case ku => decide); (case hm => k_mem)); intro RAq rvsq n3q rsq tl3q hpq tkpq Fpq Npq hR9q hrs9q hrl9q) | (k_here; (with_reducible show wpAny _ _ (call (Value.ref 152) _) _ _ _); k_dflt (refine' masks_spec _ _ _ _ _ _ ?k1 ?k2 ?k3 ?k4 ?k5 ?kK ?hm ?b0 ?b1 ?b2 ?b3 ?b4 ?b5 ?b6 ?b7 ?kd ?ku ?_; (case k1 => k_asm); (case k2 => k_asm); (case k3 => k_asm); (case k4 => k_asm); (case k5 => k_asm); (case kK => exact rfl); (case kd => decide); (case ku => decide); (case hm => k_mem); (case b0 => exact in4_of (by with_reducible assumption)); (case b1 => exact in4_of (by with_reducible assumption)); (case b2 => exact in4_of (by with_reducible assumption)); (case b3 => exact in4_of (by with_reducible assumption)); (case b4 => exact in4_of (by with_reducible assumption)); (case b5 => exact in4_of (by with_reducible assumption)); (case b6 => exact in4_of (by with_reducible assumption)); (case b7 => exact in4_of (by with_reducible assumption))); intro raq maq mcq mvsq cvsq n1q n2q msq csq hpq tkpq Fpq Npq iMq iCq lMq lCq hfoldq) | (k_here; (with_reducible show wpAny _ _ (call (Value.ref 147) _) _ _ _); k_dflt (refine' cells_spec _ _ _ _ _ _ ?k1 ?k2 ?k3 ?k4 ?k5 ?kK ?hl ?hi ?hlen ?kd ?ku ?_; (case k1 => k_asm); (case k2 => k_asm); (case k3 => k_asm); (case k4 => k_asm); (case k5 => k_asm); (case kK => exact rfl); (case kd => decide); (case ku => decide); (case hl => assumption); (case hi => assumption); (case hlen => omega)); intro caq cvsq n0q xsq hpq tkpq Fpq Npq hIpq hlenpq; obtain ⟨c0q, c1q, c2q, c3q, c4q, c5q, c6q, c7q, u0q, u1q, u2q, u3q, u4q, u5q, u6q, u7q, hc9q⟩ := ints8 hIpq hlenpq; subst hc9q; clear hIpq hlenpq) | (k_here; k_dflt (show wpAny _ _ (call (Value.ref 49) [Value.ref _, Value.str _ _]) _ _ _); k_dflt (refine' book_allow _ _ _ _ _ _ ?k1 ?k2 ?k3 ?k4 ?k5 ?kK ?hB ?hs ?hnm ?hp ?kd ?ku ?_; (case k1 => k_asm); (case k2 => k_asm); (case k3 => k_asm); (case k4 => k_asm); (case k5 => k_asm); (case kK => exact rfl); (case hB => with_reducible assumption); (case hs => exact fun q hq => by simp only [List.mem_cons]; grind); (case hnm => exact name_len hi (by with_reducible assumption)); (case kd => decide); (case ku => decide); (case hp => exact say_of (by with_reducible assumption) i hi _ (by with_reducible assumption) (congrArg (fun k => frontS k ++ _) (show (8 : Int) + (i : Int) = ((8 + i : Nat) : Int) by omega)))); intro v9q hpq tkpq hS9q Fpq Npq)); (try walk_say "OWN call ref")) | ((with_reducible show wpAny _ _ (call (Value.builtin "len") _) _ _ _); (first | (with_reducible (first | (k_here; (with_reducible show wpAny _ _ (call (Value.builtin "len") [Value.ref _]) _ _ _); k_dflt (refine' len_led ?k1 ?k2 ?k3 ?_; (case k1 => k_asm); (case k2 => k_mem); (case k3 => with_reducible assumption); k_whole); intro t9q tk9q))) | (k_here; (with_reducible show wpAny _ _ (call (Value.builtin "len") [Value.ref _]) _ _ _); k_dflt (refine' len_led ?k1 ?k2 ?k3 ?_; (case k1 => k_asm); (case k2 => k_mem); (case k3 => with_reducible assumption); k_whole); intro t9q tk9q)); (try walk_say "OWN call builtin:len")) | ((with_reducible show wpAny _ _ (call (Value.builtin "isinstance") _) _ _ _); (first | (with_reducible (first | (k_here; (with_reducible show wpAny _ _ (call (Value.builtin "isinstance") [_, Value.type "bool"]) _ _ _); k_dflt (refine' say_isb ?h1 ?_; (case h1 => with_reducible assumption); k_whole); intro tk9q))) | (k_here; (with_reducible show wpAny _ _ (call (Value.builtin "isinstance") [_, Value.type "bool"]) _ _ _); k_dflt (refine' say_isb ?h1 ?_; (case h1 => with_reducible assumption); k_whole); intro tk9q)); (try walk_say "OWN call builtin:isinstance")))) | ((fail_if_success (goal_lacks getMethod)); (with_reducible show wpAny _ _ (getMethod _ _ _) _ _ _); ((first | (with_reducible (first | (k_here; (with_reducible show wpAny _ _ (getMethod (Value.ref _) (Str.ofString "allowance") _) _ _ _); k_dflt (refine' book_method _ _ _ _ _ _ ?hB ?k1 ?k2 ?k3 ?k4 ?_; (case hB => with_reducible assumption); (case k1 => k_asm); (case k2 => k_asm); (case k3 => k_asm); (case k4 => exact fun q hq => by simp only [List.mem_cons]; grind); k_whole); (try dsimp only)))) | (k_here; (with_reducible show wpAny _ _ (getMethod (Value.ref _) (Str.ofString "allowance") _) _ _ _); k_dflt (refine' book_method _ _ _ _ _ _ ?hB ?k1 ?k2 ?k3 ?k4 ?_; (case hB => with_reducible assumption); (case k1 => k_asm); (case k2 => k_asm); (case k3 => k_asm); (case k4 => exact fun q hq => by simp only [List.mem_cons]; grind); k_whole); (try dsimp only))); (try walk_say "OWN getMethod ref"))) | ((fail_if_success (goal_lacks InvEndN)); (with_reducible show InvEndN ..); (repeat clear qk); (repeat clear ek); ((first | (with_reducible (first | k_dflt kst_close)) | k_dflt kst_close); (try walk_say "OWN InvEndN"))) | ((fail_if_success (goal_lacks LCg.CompEnd)); (with_reducible show LCg.CompEnd ..); ((first | (with_reducible (first | first | (k_dflt (refine' ce_int ?a1 ?a2 ?a3 ?a4 ?_; (case a1 => k_asm); (case a2 => k_asm); (case a3 => with_reducible assumption); (case a4 => first | exact True.intro | lcg_src)); intro z9q hz9q) | (k_dflt (refine' ce_same ?a1 ?a2 ?a3 ?a4 ?_; (case a1 => k_asm); (case a2 => k_asm); (case a3 => with_reducible assumption); (case a4 => first | exact True.intro | lcg_src))) | (k_dflt (refine' ce_one ?a1 ?a2 ?a3 ?a5 ?a4 ?_; (case a1 => k_asm); (case a2 => k_asm); (case a3 => with_reducible assumption); (case a5 => with_reducible assumption); (case a4 => first | exact True.intro | lcg_src))) | k_dflt lcg_end)) | first | (k_dflt (refine' ce_int ?a1 ?a2 ?a3 ?a4 ?_; (case a1 => k_asm); (case a2 => k_asm); (case a3 => with_reducible assumption); (case a4 => first | exact True.intro | lcg_src)); intro z9q hz9q) | (k_dflt (refine' ce_same ?a1 ?a2 ?a3 ?a4 ?_; (case a1 => k_asm); (case a2 => k_asm); (case a3 => with_reducible assumption); (case a4 => first | exact True.intro | lcg_src))) | (k_dflt (refine' ce_one ?a1 ?a2 ?a3 ?a5 ?a4 ?_; (case a1 => k_asm); (case a2 => k_asm); (case a3 => with_reducible assumption); (case a5 => with_reducible assumption); (case a4 => first | exact True.intro | lcg_src))) | k_dflt lcg_end); (try walk_say "OWN CompEnd"))) | ((fail_if_success (goal_lacks LCg.CompRest)); (with_reducible show LCg.CompRest ..); ((first | (with_reducible (first | (with_unfolding_all first | (refine LCg.CompRest.succ ?_; intro vpq Ipq oIpq Cpq oCpq Dpq mpq hpq tkpq Epq hvpq hCpq hxpq Fpq Npq offpq nepq; clear nepq; (first | lcg_open hvpq | (obtain ⟨t9pq, hv9pq⟩ := hvpq; subst hv9pq))) | refine LCg.CompRest.zero ?_))) | (with_unfolding_all first | (refine LCg.CompRest.succ ?_; intro vpq Ipq oIpq Cpq oCpq Dpq mpq hpq tkpq Epq hvpq hCpq hxpq Fpq Npq offpq nepq; clear nepq; (first | lcg_open hvpq | (obtain ⟨t9pq, hv9pq⟩ := hvpq; subst hv9pq))) | refine LCg.CompRest.zero ?_)); (try walk_say "OWN CompRest"))) | ((fail_if_success (goal_lacks LCg.FinE)); (with_reducible show LCg.FinE ..); ((first | (with_reducible (first | ((unfold LCg.FinE); intro Dpq hpq tkpq Fpq Npq o1pq; (try simp only [List.nil_append, List.cons_append] at Npq); (try dsimp only)))) | ((unfold LCg.FinE); intro Dpq hpq tkpq Fpq Npq o1pq; (try simp only [List.nil_append, List.cons_append] at Npq); (try dsimp only))); (try walk_say "OWN FinE"))) | ((fail_if_success (goal_lacks CRestC)); (with_reducible show CRestC ..); ((first | (with_reducible (first | (with_unfolding_all first | (refine CRestC.succ ?_; intro vpq Ipq oIpq Cpq oCpq cpq ocpq Dpq hpq tkpq Epq hvpq hdpq Fpq Npq offpq nepq offcpq; clear nepq; lcg_open hvpq) | refine CRestC.zero ?_))) | (with_unfolding_all first | (refine CRestC.succ ?_; intro vpq Ipq oIpq Cpq oCpq cpq ocpq Dpq hpq tkpq Epq hvpq hdpq Fpq Npq offpq nepq offcpq; clear nepq; lcg_open hvpq) | refine CRestC.zero ?_)); (try walk_say "OWN CRestC"))) | ((fail_if_success (goal_lacks RestC)); (with_reducible show RestC ..); ((first | (with_reducible (first | (k_dflt (refine restC_one (by with_reducible assumption) (by with_reducible assumption) ?_)))) | (k_dflt (refine restC_one (by with_reducible assumption) (by with_reducible assumption) ?_))); (try walk_say "OWN RestC"))) | walk1 | (dsimp only; walk1) | (dsimp only [List.cons_append, List.nil_append]; walk1)); (try (goal_lacks LoopAtV TurnsAt; (first | (fail_if_success k_fold; skip) | (refine foldQ ?_; intro qk))))) | ((with_reducible show wpAny _ _ _ _ _ _); dsimp only) | (leave1; walk_say "STEP leave1"; try dsimp only) | fail "no step"))
      rename Fr _ _ _ _ => eF; rename News _ _ _ _ => eN
      k_dflt (refine' law2_end eF eN ?hI ?hn off ?hz)
      case hI => k_dflt k_mem
      case hn => (intro p hp; (repeat (first | (with_reducible exact hp) | (with_reducible refine List.mem_cons_of_mem _ ?_))))
      case hz => (intro z h1 h2 h3 h4; k_dflt (simp only [lFr, if_neg h1, if_neg h2, if_neg h3, if_neg h4]))
    case done2 =>
      intro u h tk F' N'
      (repeat' (first | (k_unfold; (try dsimp only)) | (k_end; (first | (w_end; (show GoodW _ _ _ _ _ (.ok (.ret (.bool _))) _); refine goodW_bool (by assumption) (by assumption) (raisesW_false ?_) ?_; (· wrow_none_raised); (· exact law_post _)) | wrow_close)) | ((first | ((fail_if_success (goal_lacks subscriptTail)); (with_reducible show wpAny _ _ (subscriptTail _ _ _ _) _ _ _); (first | ((with_reducible show wpAny _ _ (subscriptTail (Expr.Subscript (Expr.Name ..) (Expr.Constant ..) _) (Expr.Constant ..) (Value.ref _) (Value.int _ _)) _ _ _); (first | (with_reducible (first | (k_here; (with_reducible show wpAny _ _ (subscriptTail _ _ (Value.ref _) (Value.int _ _)) _ _ _); k_dflt (refine' ksa_sub ?k1 ?k2 ?k3 ?k4 ?k5 ?k6 ?_ ?k7; (case k1 => k_asm); (case k2 => with_reducible assumption); (case k3 => with_reducible assumption); (case k4 => decide); (case k5 => exact LawP.lt4 (by with_reducible assumption)); (case k6 => decide); (case k7 => with_unfolding_all rfl); k_whole); intro _))) | (k_here; (with_reducible show wpAny _ _ (subscriptTail _ _ (Value.ref _) (Value.int _ _)) _ _ _); k_dflt (refine' ksa_sub ?k1 ?k2 ?k3 ?k4 ?k5 ?k6 ?_ ?k7; (case k1 => k_asm); (case k2 => with_reducible assumption); (case k3 => with_reducible assumption); (case k4 => decide); (case k5 => exact LawP.lt4 (by with_reducible assumption)); (case k6 => decide); (case k7 => with_unfolding_all rfl); k_whole); intro _)); (try walk_say "OWN subscriptTail Subscript Name Constant Constant ref int")) | ((with_reducible show wpAny _ _ (subscriptTail (Expr.Name ..) (Expr.Name ..) (Value.ref _) (Value.int _ _)) _ _ _); (first | (with_reducible (first | (k_here; (with_reducible show wpAny _ _ (subscriptTail _ _ (Value.ref _) (Value.int _ _)) _ _ _); k_dflt (refine' ksa_sub ?k1 ?k2 ints8_of ?k4 ?k5 ?k6 ?_ ?k7; (case k1 => k_asm); (case k2 => k_mem); (case k4 => omega); (case k5 => (show (_ : Int) < 8; omega)); (case k6 => omega); (case k7 => with_unfolding_all rfl); k_whole); intro _) | (k_here; (with_reducible show wpAny _ _ (subscriptTail _ _ (Value.ref _) (Value.int _ _)) _ _ _); k_dflt (refine' sub_rows ?k1 ?k2 ?k3 ?k4 ?k5 ?k6 ?_ ?k7; (case k1 => k_asm); (case k3 => with_reducible assumption); (case k2 => k_mem); (case k4 => exact fun p hp => by simp only [List.mem_cons]; grind); (case k5 => omega); (case k6 => omega); (case k7 => with_unfolding_all rfl); k_whole); intro b9q ws9q n9q hm9q hi9q) | (k_here; (with_reducible show wpAny _ _ (subscriptTail _ _ (Value.ref _) (Value.int _ _)) _ _ _); k_dflt (first | (refine' sub_at ?k1 ?k2 ?k4 ?k5 ?k3 ?_ ?k6; (case k1 => k_asm); (case k2 => k_mem); (case k4 => decide); (case k5 => decide); (case k3 => rfl); (case k6 => with_unfolding_all rfl); k_whole) | (refine' ksa_sub ?k1 ?k2 ?k3 ?k4 ?k5 ?k6 ?_ ?k7; (case k1 => k_asm); (case k2 => k_mem); (case k3 => with_reducible assumption); (case k4 => omega); (case k5 => (refine Int.lt_of_lt_of_eq ?_ (congrArg Nat.cast (by with_reducible assumption)).symm; omega)); (case k6 => omega); (case k7 => with_unfolding_all rfl); k_whole; intro _))))) | (k_here; (with_reducible show wpAny _ _ (subscriptTail _ _ (Value.ref _) (Value.int _ _)) _ _ _); k_dflt (refine' ksa_sub ?k1 ?k2 ints8_of ?k4 ?k5 ?k6 ?_ ?k7; (case k1 => k_asm); (case k2 => k_mem); (case k4 => omega); (case k5 => (show (_ : Int) < 8; omega)); (case k6 => omega); (case k7 => with_unfolding_all rfl); k_whole); intro _) | (k_here; (with_reducible show wpAny _ _ (subscriptTail _ _ (Value.ref _) (Value.int _ _)) _ _ _); k_dflt (refine' sub_rows ?k1 ?k2 ?k3 ?k4 ?k5 ?k6 ?_ ?k7; (case k1 => k_asm); (case k3 => with_reducible assumption); (case k2 => k_mem); (case k4 => exact fun p hp => by simp only [List.mem_cons]; grind); (case k5 => omega); (case k6 => omega); (case k7 => with_unfolding_all rfl); k_whole); intro b9q ws9q n9q hm9q hi9q) | (k_here; (with_reducible show wpAny _ _ (subscriptTail _ _ (Value.ref _) (Value.int _ _)) _ _ _); k_dflt (first | (refine' sub_at ?k1 ?k2 ?k4 ?k5 ?k3 ?_ ?k6; (case k1 => k_asm); (case k2 => k_mem); (case k4 => decide); (case k5 => decide); (case k3 => rfl); (case k6 => with_unfolding_all rfl); k_whole) | (refine' ksa_sub ?k1 ?k2 ?k3 ?k4 ?k5 ?k6 ?_ ?k7; (case k1 => k_asm); (case k2 => k_mem); (case k3 => with_reducible assumption); (case k4 => omega); (case k5 => (refine Int.lt_of_lt_of_eq ?_ (congrArg Nat.cast (by with_reducible assumption)).symm; omega)); (case k6 => omega); (case k7 => with_unfolding_all rfl); k_whole; intro _)))); (try walk_say "OWN subscriptTail Name Name ref int")) | ((with_reducible show wpAny _ _ (subscriptTail (Expr.Name ..) (Expr.Constant ..) (Value.ref _) (Value.int _ _)) _ _ _); (first | (with_reducible (first | (k_here; (with_reducible show wpAny _ _ (subscriptTail _ _ (Value.ref _) (Value.int _ _)) _ _ _); k_dflt (refine' sub_rows ?k1 ?k2 ?k3 ?k4 ?k5 ?k6 ?_ ?k7; (case k1 => k_asm); (case k3 => with_reducible assumption); (case k2 => k_mem); (case k4 => exact fun p hp => by simp only [List.mem_cons, List.mem_append]; grind); (case k5 => omega); (case k6 => omega); (case k7 => with_unfolding_all rfl); k_whole); intro b9q ws9q n9q hm9q hi9q))) | (k_here; (with_reducible show wpAny _ _ (subscriptTail _ _ (Value.ref _) (Value.int _ _)) _ _ _); k_dflt (refine' sub_rows ?k1 ?k2 ?k3 ?k4 ?k5 ?k6 ?_ ?k7; (case k1 => k_asm); (case k3 => with_reducible assumption); (case k2 => k_mem); (case k4 => exact fun p hp => by simp only [List.mem_cons, List.mem_append]; grind); (case k5 => omega); (case k6 => omega); (case k7 => with_unfolding_all rfl); k_whole); intro b9q ws9q n9q hm9q hi9q)); (try walk_say "OWN subscriptTail Name Constant ref int")) | ((with_reducible show wpAny _ _ (subscriptTail (Expr.Name ..) (Expr.BinOp ..) (Value.ref _) (Value.int _ _)) _ _ _); (first | (with_reducible (first | (k_here; k_dflt (refine' sub_book2 ?N ?hm ?hk ?h1 ?h2 ?_ ?hs; (case N => k_asm); (case hm => k_mem); (case hk => exact fmod2 _); (case h1 => with_reducible assumption); (case h2 => with_reducible assumption); (case hs => with_unfolding_all rfl); k_whole); intro y9q hB9q))) | (k_here; k_dflt (refine' sub_book2 ?N ?hm ?hk ?h1 ?h2 ?_ ?hs; (case N => k_asm); (case hm => k_mem); (case hk => exact fmod2 _); (case h1 => with_reducible assumption); (case h2 => with_reducible assumption); (case hs => with_unfolding_all rfl); k_whole); intro y9q hB9q)); (try walk_say "OWN subscriptTail Name BinOp ref int")) | ((first | (with_reducible (first | (k_here; (with_reducible show wpAny _ _ (subscriptTail (Expr.Tuple ..) _ (Value.ref _) (Value.int _ _)) _ _ _); k_dflt (refine' sub_sfx ?N ?hm ?hk ?_ ?hs; (case N => k_asm); (case hm => k_mem); (case hk => exact fmod2 _); (case hs => with_unfolding_all rfl); k_whole); intro sfx9q t9q hs9q) | (k_here; (with_reducible show wpAny _ _ (subscriptTail _ _ (Value.ref _) (Value.int _ _)) _ _ _); k_dflt (first | (refine' sub_at ?k1 ?k2 ?k4 ?k5 ?k3 ?_ ?k6; (case k1 => k_asm); (case k2 => k_mem); (case k4 => decide); (case k5 => decide); (case k3 => rfl); (case k6 => with_unfolding_all rfl); k_whole))))) | (k_here; (with_reducible show wpAny _ _ (subscriptTail (Expr.Tuple ..) _ (Value.ref _) (Value.int _ _)) _ _ _); k_dflt (refine' sub_sfx ?N ?hm ?hk ?_ ?hs; (case N => k_asm); (case hm => k_mem); (case hk => exact fmod2 _); (case hs => with_unfolding_all rfl); k_whole); intro sfx9q t9q hs9q) | (k_here; (with_reducible show wpAny _ _ (subscriptTail _ _ (Value.ref _) (Value.int _ _)) _ _ _); k_dflt (first | (refine' sub_at ?k1 ?k2 ?k4 ?k5 ?k3 ?_ ?k6; (case k1 => k_asm); (case k2 => k_mem); (case k4 => decide); (case k5 => decide); (case k3 => rfl); (case k6 => with_unfolding_all rfl); k_whole)))); (try walk_say "OWN subscriptTail")))) | ((fail_if_success (goal_lacks exec)); (with_reducible show wpAny _ _ (exec _ _) _ _ _); ((with_reducible show wpAny _ _ (exec (Stmt.For (Expr.Name ..) (Expr.Call ..) (_ :: _) [] _) _) _ _ _); (first | (with_reducible (first | (k_here; (rename Fr _ _ _ _ => lFpq); (with_unfolding_all refine' For_turns lFpq ?_; k_whole)))) | (k_here; (rename Fr _ _ _ _ => lFpq); (with_unfolding_all refine' For_turns lFpq ?_; k_whole))); (try walk_say "OWN exec For Name Call cons nil"))) | ((fail_if_success (goal_lacks binaryOp)); (with_reducible show wpAny _ _ (binaryOp _ _ _) _ _ _); (first | ((with_reducible show wpAny _ _ (binaryOp Operator.Mult (Value.int _ _) (Value.int _ _)) _ _ _); (first | (with_reducible (first | (k_here; with_reducible refine mul_int ?_ (IntMulOk.of_left (by decide))))) | (k_here; with_reducible refine mul_int ?_ (IntMulOk.of_left (by decide)))); (try walk_say "OWN binaryOp Mult int int")) | ((with_reducible show wpAny _ _ (binaryOp Operator.Add (Value.str _ _) (Value.str _ _)) _ _ _); (first | (with_reducible (first | (k_here; (with_reducible show wpAny _ _ (binaryOp Operator.Add (Value.str _ _) (Value.str _ _)) _ _ _); k_dflt (refine add_str (hsz := ?hz) ?_; (case hz => exact Nat.le_trans (name_fits hi (by with_reducible assumption)) (by rw [sizeLine_eq]; decide)); intro t9q tk9q)))) | (k_here; (with_reducible show wpAny _ _ (binaryOp Operator.Add (Value.str _ _) (Value.str _ _)) _ _ _); k_dflt (refine add_str (hsz := ?hz) ?_; (case hz => exact Nat.le_trans (name_fits hi (by with_reducible assumption)) (by rw [sizeLine_eq]; decide)); intro t9q tk9q))); (try walk_say "OWN binaryOp Add str str")))) | ((fail_if_success (goal_lacks compareOp)); (with_reducible show wpAny _ _ (compareOp _ _ _) _ _ _); (first | ((with_reducible show wpAny _ _ (compareOp CmpOp.NotEq (Value.int _ _) (Value.int _ _)) _ _ _); (first | (with_reducible (first | (k_here; (with_reducible show wpAny _ _ (compareOp CmpOp.NotEq (Value.int _ _) (Value.int _ _)) _ _ _); k_dflt (refine' ne_int_same ?k1 ?_; (case k1 => exact law_len (by with_reducible assumption) (by with_reducible assumption) (fmod4 _)))))) | (k_here; (with_reducible show wpAny _ _ (compareOp CmpOp.NotEq (Value.int _ _) (Value.int _ _)) _ _ _); k_dflt (refine' ne_int_same ?k1 ?_; (case k1 => exact law_len (by with_reducible assumption) (by with_reducible assumption) (fmod4 _))))); (try walk_say "OWN compareOp NotEq int int")) | ((with_reducible show wpAny _ _ (compareOp CmpOp.NotEq (Value.bool _) (Value.bool _)) _ _ _); (first | (with_reducible (first | (k_here; k_dflt (refine ne_bool_same ?_)))) | (k_here; k_dflt (refine ne_bool_same ?_))); (try walk_say "OWN compareOp NotEq bool bool")) | ((with_reducible show wpAny _ _ (compareOp CmpOp.NotEq _ _) _ _ _); (first | (with_reducible (first | (k_here; k_dflt (first | refine say_ne (by with_reducible assumption) (by assumption) ?_ | refine ne_bool_same ?_)))) | (k_here; k_dflt (first | refine say_ne (by with_reducible assumption) (by assumption) ?_ | refine ne_bool_same ?_))); (try walk_say "OWN compareOp NotEq")))) | ((fail_if_success (goal_lacks eval)); (with_reducible show wpAny _ _ (eval _ _) _ _ _); (first | ((with_reducible show wpAny _ _ (eval (Expr.ListComp ..) _) _ _ _); (first | (with_reducible (first | ((with_reducible show wpAny _ _ (eval _ _) _ _ _); k_here; lcg_look; lcg_calm; k_dflt (refine LCg.ListComp_U (F₀ := by k_asm) (by rfl) (by decide) (by rfl) (by decide) (by rfl) ?_); k_dflt lcg_toSrc))) | ((with_reducible show wpAny _ _ (eval _ _) _ _ _); k_here; lcg_look; lcg_calm; k_dflt (refine LCg.ListComp_U (F₀ := by k_asm) (by rfl) (by decide) (by rfl) (by decide) (by rfl) ?_); k_dflt lcg_toSrc)); (try walk_say "OWN eval ListComp")) | ((with_reducible show wpAny _ _ (eval (Expr.Name ..) _) _ _ _); (first | (with_reducible (first | (k_here; (with_reducible show wpAny _ _ (eval (Expr.Name _ _) (compEnvC _ _ _ _)) _ _ _); k_dflt (refine' lcf_cell ?N ?c ?m ?d ?_ ?a ?b; (case a => rfl); (case b => rfl); (case N => k_asm); (case c => rfl); (case m => k_mem); (case d => with_reducible assumption); k_whole)) | (k_here; (with_reducible show wpAny _ _ (eval (Expr.Name _ _) (compEnvC _ _ _ _)) _ _ _); k_dflt (refine' LCgL.ld_own ?N ?m ?d ?x ?_ ?a ?b; (case a => rfl); (case b => rfl); (case N => k_asm); (case m => k_mem); (case d => with_reducible assumption); (case x => with_reducible assumption); k_whole)))) | (k_here; (with_reducible show wpAny _ _ (eval (Expr.Name _ _) (compEnvC _ _ _ _)) _ _ _); k_dflt (refine' lcf_cell ?N ?c ?m ?d ?_ ?a ?b; (case a => rfl); (case b => rfl); (case N => k_asm); (case c => rfl); (case m => k_mem); (case d => with_reducible assumption); k_whole)) | (k_here; (with_reducible show wpAny _ _ (eval (Expr.Name _ _) (compEnvC _ _ _ _)) _ _ _); k_dflt (refine' LCgL.ld_own ?N ?m ?d ?x ?_ ?a ?b; (case a => rfl); (case b => rfl); (case N => k_asm); (case m => k_mem); (case d => with_reducible assumption); (case x => with_reducible assumption); k_whole))); (try walk_say "OWN eval Name")))) | ((fail_if_success (goal_lacks call)); (with_reducible show wpAny _ _ (call _ _) _ _ _); (first | ((first | (with_reducible (first | (k_here; (with_reducible show wpAny _ _ (call (Value.ref 192) _) _ _ _); k_dflt (refine' merges_spec _ _ _ _ _ _ (rest := [(_, W.listOf (List.toArray [.int _ _, .int _ _, .int _ _, .int _ _, .int _ _, .int _ _, .int _ _, .int _ _]) _)]) ?k1 ?k2 ?k3 ?k4 ?k5 ?kK ?hm ?hb ?hps ?hlen ?hrest ?hrg ?kd ?ku ?_; (case k1 => k_asm); (case k2 => k_asm); (case k3 => k_asm); (case k4 => k_asm); (case k5 => k_asm); (case kK => exact rfl); (case kd => decide); (case ku => decide); (case hm => k_mem); (case hb => k_mem); (case hps => exact PairsAre.mono (by with_reducible assumption) fun q hq => List.mem_cons_of_mem _ hq); (case hlen => with_reducible assumption); (case hrg => exact LawP.rng (by with_reducible assumption) _ (fmod4 _)); (case hrest => exact List.forall_mem_cons.mpr ⟨⟨by k_mem, tab_ne_seq (by k_asm) (by k_mem) (by k_mem) rfl⟩, List.forall_mem_nil _⟩)); intro D9q y1q y2q nd9q nw9q hpq tkpq Fpq Npq hD9q hB1q hB2q hT9q; obtain ⟨pt9q, hT9q⟩ := hT9q; (have N9pq := law_pick Npq hD9q hT9q)) | (k_here; (with_reducible show wpAny _ _ (call (Value.ref 171) _) _ _ _); k_dflt (refine' front_spec _ _ _ _ _ _ ?k1 ?k2 ?k3 ?k4 ?k5 ?kK ?hb ?kd ?ku ?_; (case k1 => k_asm); (case k2 => k_asm); (case k3 => k_asm); (case k4 => k_asm); (case k5 => k_asm); (case kK => exact rfl); (case kd => decide); (case ku => decide); (case hb => omega)); intro t9q hpq tkpq Fpq Npq) | (k_here; (with_reducible show wpAny _ _ (call (Value.ref 178) _) _ _ _); k_dflt (refine' saying_spec _ _ _ _ _ _ ?k1 ?k2 ?k3 ?k4 ?k5 ?kK ?hb ?kd ?ku ?_; (case k1 => k_asm); (case k2 => k_asm); (case k3 => k_asm); (case k4 => k_asm); (case k5 => k_asm); (case kK => exact rfl); (case kd => decide); (case ku => decide); (case hb => exact LawP.b (by with_reducible assumption) i hi)); intro v9q hpq tkpq hS9q Fpq Npq; (replace hS9q : SayIs (List.getD _ i 0) v9q := hS9q)) | (k_here; (with_reducible show wpAny _ _ (call (Value.ref 164) _) _ _ _); k_dflt (refine' lay_spec _ _ _ _ _ _ 4 ?k1 ?k2 ?k3 ?k4 ?k5 ?kK ?hm ?hi ?hl ?n1 ?n2 ?s1 ?s2 ?t1 ?t2 ?hf ?hg ?kd ?ku ?_; (case k1 => k_asm); (case k2 => k_asm); (case k3 => k_asm); (case k4 => k_asm); (case k5 => k_asm); (case kK => exact rfl); (case kd => decide); (case ku => decide); (case hm => k_mem); (case hi => with_reducible assumption); (case hl => with_reducible assumption); (case n1 => decide); (case n2 => decide); (case s1 => decide); (case s2 => decide); (case t1 => exact (fmod4 _).1); (case t2 => exact (fmod4 _).2); (case hf => decide); (case hg => decide)); intro b9q vs9q n9q tl9q hpq tkpq Fpq Npq hp9q hv9q; (try simp only [List.cons_append, List.nil_append] at Npq hp9q)) | (k_here; (with_reducible show wpAny _ _ (call (Value.ref 157) _) _ _ _); k_dflt (refine' few_spec _ _ _ _ _ _ ?k1 ?k2 ?k3 ?k4 ?k5 ?kK ?hm ?kd ?ku ?_; (case k1 => k_asm); (case k2 => k_asm); (case k3 => k_asm); (case k4 => k_asm); (case k5 => k_asm); (case kK => exact rfl); (case kd => decide); (case ku => decide); (case hm => k_mem)); intro RAq rvsq n3q rsq tl3q hpq tkpq Fpq Npq hR9q hrs9q hrl9q) | (k_here; (with_reducible show wpAny _ _ (call (Value.ref 152) _) _ _ _); k_dflt (refine' masks_spec _ _ _ _ _ _ ?k1 ?k2 ?k3 ?k4 ?k5 ?kK ?hm ?b0 ?b1 ?b2 ?b3 ?b4 ?b5 ?b6 ?b7 ?kd ?ku ?_; (case k1 => k_asm); (case k2 => k_asm); (case k3 => k_asm); (case k4 => k_asm); (case k5 => k_asm); (case kK => exact rfl); (case kd => decide); (case ku => decide); (case hm => k_mem); (case b0 => exact in4_of (by with_reducible assumption)); (case b1 => exact in4_of (by with_reducible assumption)); (case b2 => exact in4_of (by with_reducible assumption)); (case b3 => exact in4_of (by with_reducible assumption)); (case b4 => exact in4_of (by with_reducible assumption)); (case b5 => exact in4_of (by with_reducible assumption)); (case b6 => exact in4_of (by with_reducible assumption)); (case b7 => exact in4_of (by with_reducible assumption))); intro raq maq mcq mvsq cvsq n1q n2q msq csq hpq tkpq Fpq Npq iMq iCq lMq lCq hfoldq) | (k_here; (with_reducible show wpAny _ _ (call (Value.ref 147) _) _ _ _); k_dflt (refine' cells_spec _ _ _ _ _ _ ?k1 ?k2 ?k3 ?k4 ?k5 ?kK ?hl ?hi ?hlen ?kd ?ku ?_; (case k1 => k_asm); (case k2 => k_asm); (case k3 => k_asm); (case k4 => k_asm); (case k5 => k_asm); (case kK => exact rfl); (case kd => decide); (case ku => decide); (case hl => assumption); (case hi => assumption); (case hlen => omega)); intro caq cvsq n0q xsq hpq tkpq Fpq Npq hIpq hlenpq; obtain ⟨c0q, c1q, c2q, c3q, c4q, c5q, c6q, c7q, u0q, u1q, u2q, u3q, u4q, u5q, u6q, u7q, hc9q⟩ := ints8 hIpq hlenpq; subst hc9q; clear hIpq hlenpq) | (k_here; k_dflt (show wpAny _ _ (call (Value.ref 49) [Value.ref _, Value.str _ _]) _ _ _); k_dflt (refine' book_allow _ _ _ _ _ _ ?k1 ?k2 ?k3 ?k4 ?k5 ?kK ?hB ?hs ?hnm ?hp ?kd ?ku ?_; (case k1 => k_asm); (case k2 => k_asm); (case k3 => k_asm); (case k4 => k_asm); (case k5 => k_asm); (case kK => exact rfl); (case hB => with_reducible assumption); (case hs => exact fun q hq => by simp only [List.mem_cons]; grind); (case hnm => exact name_len hi (by with_reducible assumption)); (case kd => decide); (case ku => decide); (case hp => exact say_of (by with_reducible assumption) i hi _ (by with_reducible assumption) (congrArg (fun k => frontS k ++ _) (show (8 : Int) + (i : Int) = ((8 + i : Nat) : Int) by omega)))); intro v9q hpq tkpq hS9q Fpq Npq))) | (k_here; (with_reducible show wpAny _ _ (call (Value.ref 192) _) _ _ _); k_dflt (refine' merges_spec _ _ _ _ _ _ (rest := [(_, W.listOf (List.toArray [.int _ _, .int _ _, .int _ _, .int _ _, .int _ _, .int _ _, .int _ _, .int _ _]) _)]) ?k1 ?k2 ?k3 ?k4 ?k5 ?kK ?hm ?hb ?hps ?hlen ?hrest ?hrg ?kd ?ku ?_; (case k1 => k_asm); (case k2 => k_asm); (case k3 => k_asm); (case k4 => k_asm); (case k5 => k_asm); (case kK => exact rfl); (case kd => decide); (case ku => decide); (case hm => k_mem); (case hb => k_mem); (case hps => exact PairsAre.mono (by with_reducible assumption) fun q hq => List.mem_cons_of_mem _ hq); (case hlen => with_reducible assumption); (case hrg => exact LawP.rng (by with_reducible assumption) _ (fmod4 _)); (case hrest => exact List.forall_mem_cons.mpr ⟨⟨by k_mem, tab_ne_seq (by k_asm) (by k_mem) (by k_mem) rfl⟩, List.forall_mem_nil _⟩)); intro D9q y1q y2q nd9q nw9q hpq tkpq Fpq Npq hD9q hB1q hB2q hT9q; obtain ⟨pt9q, hT9q⟩ := hT9q; (have N9pq := law_pick Npq hD9q hT9q)) | (k_here; (with_reducible show wpAny _ _ (call (Value.ref 171) _) _ _ _); k_dflt (refine' front_spec _ _ _ _ _ _ ?k1 ?k2 ?k3 ?k4 ?k5 ?kK ?hb ?kd ?ku ?_; (case k1 => k_asm); (case k2 => k_asm); (case k3 => k_asm); (case k4 => k_asm); (case k5 => k_asm); (case kK => exact rfl); (case kd => decide); (case ku => decide); (case hb => omega)); intro t9q hpq tkpq Fpq Npq) | (k_here; (with_reducible show wpAny _ _ (call (Value.ref 178) _) _ _ _); k_dflt (refine' saying_spec _ _ _ _ _ _ ?k1 ?k2 ?k3 ?k4 ?k5 ?kK ?hb ?kd ?ku ?_; (case k1 => k_asm); (case k2 => k_asm); (case k3 => k_asm); (case k4 => k_asm); (case k5 => k_asm); (case kK => exact rfl); (case kd => decide); (case ku => decide); (case hb => exact LawP.b (by with_reducible assumption) i hi)); intro v9q hpq tkpq hS9q Fpq Npq; (replace hS9q : SayIs (List.getD _ i 0) v9q := hS9q)) | (k_here; (with_reducible show wpAny _ _ (call (Value.ref 164) _) _ _ _); k_dflt (refine' lay_spec _ _ _ _ _ _ 4 ?k1 ?k2 ?k3 ?k4 ?k5 ?kK ?hm ?hi ?hl ?n1 ?n2 ?s1 ?s2 ?t1 ?t2 ?hf ?hg ?kd ?ku ?_; (case k1 => k_asm); (case k2 => k_asm); (case k3 => k_asm); (case k4 => k_asm); (case k5 => k_asm); (case kK => exact rfl); (case kd => decide); (case ku => decide); (case hm => k_mem); (case hi => with_reducible assumption); (case hl => with_reducible assumption); (case n1 => decide); (case n2 => decide); (case s1 => decide); (case s2 => decide); (case t1 => exact (fmod4 _).1); (case t2 => exact (fmod4 _).2); (case hf => decide); (case hg => decide)); intro b9q vs9q n9q tl9q hpq tkpq Fpq Npq hp9q hv9q; (try simp only [List.cons_append, List.nil_append] at Npq hp9q)) | (k_here; (with_reducible show wpAny _ _ (call (Value.ref 157) _) _ _ _); k_dflt (refine' few_spec _ _ _ _ _ _ ?k1 ?k2 ?k3 ?k4 ?k5 ?kK ?hm ?kd ?ku ?_; (case k1 => k_asm); (case k2 => k_asm); (case k3 => k_asm); (case k4 => k_asm); (case k5 => k_asm); (case kK => exact rfl); (case kd => decide); (case ku => decide); (case hm => k_mem)); intro RAq rvsq n3q rsq tl3q hpq tkpq Fpq Npq hR9q hrs9q hrl9q) | (k_here; (with_reducible show wpAny _ _ (call (Value.ref 152) _) _ _ _); k_dflt (refine' masks_spec _ _ _ _ _ _ ?k1 ?k2 ?k3 ?k4 ?k5 ?kK ?hm ?b0 ?b1 ?b2 ?b3 ?b4 ?b5 ?b6 ?b7 ?kd ?ku ?_; (case k1 => k_asm); (case k2 => k_asm); (case k3 => k_asm); (case k4 => k_asm); (case k5 => k_asm); (case kK => exact rfl); (case kd => decide); (case ku => decide); (case hm => k_mem); (case b0 => exact in4_of (by with_reducible assumption)); (case b1 => exact in4_of (by with_reducible assumption)); (case b2 => exact in4_of (by with_reducible assumption)); (case b3 => exact in4_of (by with_reducible assumption)); (case b4 => exact in4_of (by with_reducible assumption)); (case b5 => exact in4_of (by with_reducible assumption)); (case b6 => exact in4_of (by with_reducible assumption)); (case b7 => exact in4_of (by with_reducible assumption))); intro raq maq mcq mvsq cvsq n1q n2q msq csq hpq tkpq Fpq Npq iMq iCq lMq lCq hfoldq) | (k_here; (with_reducible show wpAny _ _ (call (Value.ref 147) _) _ _ _); k_dflt (refine' cells_spec _ _ _ _ _ _ ?k1 ?k2 ?k3 ?k4 ?k5 ?kK ?hl ?hi ?hlen ?kd ?ku ?_; (case k1 => k_asm); (case k2 => k_asm); (case k3 => k_asm); (case k4 => k_asm); (case k5 => k_asm); (case kK => exact rfl); (case kd => decide); (case ku => decide); (case hl => assumption); (case hi => assumption); (case hlen => omega)); intro caq cvsq n0q xsq hpq tkpq Fpq Npq hIpq hlenpq; obtain ⟨c0q, c1q, c2q, c3q, c4q, c5q, c6q, c7q, u0q, u1q, u2q, u3q, u4q, u5q, u6q, u7q, hc9q⟩ := ints8 hIpq hlenpq; subst hc9q; clear hIpq hlenpq) | (k_here; k_dflt (show wpAny _ _ (call (Value.ref 49) [Value.ref _, Value.str _ _]) _ _ _); k_dflt (refine' book_allow _ _ _ _ _ _ ?k1 ?k2 ?k3 ?k4 ?k5 ?kK ?hB ?hs ?hnm ?hp ?kd ?ku ?_; (case k1 => k_asm); (case k2 => k_asm); (case k3 => k_asm); (case k4 => k_asm); (case k5 => k_asm); (case kK => exact rfl); (case hB => with_reducible assumption); (case hs => exact fun q hq => by simp only [List.mem_cons]; grind); (case hnm => exact name_len hi (by with_reducible assumption)); (case kd => decide); (case ku => decide); (case hp => exact say_of (by with_reducible assumption) i hi _ (by with_reducible assumption) (congrArg (fun k => frontS k ++ _) (show (8 : Int) + (i : Int) = ((8 + i : Nat) : Int) by omega)))); intro v9q hpq tkpq hS9q Fpq Npq)); (try walk_say "OWN call ref")) | ((with_reducible show wpAny _ _ (call (Value.builtin "len") _) _ _ _); (first | (with_reducible (first | (k_here; (with_reducible show wpAny _ _ (call (Value.builtin "len") [Value.ref _]) _ _ _); k_dflt (refine' len_led ?k1 ?k2 ?k3 ?_; (case k1 => k_asm); (case k2 => k_mem); (case k3 => with_reducible assumption); k_whole); intro t9q tk9q))) | (k_here; (with_reducible show wpAny _ _ (call (Value.builtin "len") [Value.ref _]) _ _ _); k_dflt (refine' len_led ?k1 ?k2 ?k3 ?_; (case k1 => k_asm); (case k2 => k_mem); (case k3 => with_reducible assumption); k_whole); intro t9q tk9q)); (try walk_say "OWN call builtin:len")) | ((with_reducible show wpAny _ _ (call (Value.builtin "isinstance") _) _ _ _); (first | (with_reducible (first | (k_here; (with_reducible show wpAny _ _ (call (Value.builtin "isinstance") [_, Value.type "bool"]) _ _ _); k_dflt (refine' say_isb ?h1 ?_; (case h1 => with_reducible assumption); k_whole); intro tk9q))) | (k_here; (with_reducible show wpAny _ _ (call (Value.builtin "isinstance") [_, Value.type "bool"]) _ _ _); k_dflt (refine' say_isb ?h1 ?_; (case h1 => with_reducible assumption); k_whole); intro tk9q)); (try walk_say "OWN call builtin:isinstance")))) | ((fail_if_success (goal_lacks getMethod)); (with_reducible show wpAny _ _ (getMethod _ _ _) _ _ _); ((first | (with_reducible (first | (k_here; (with_reducible show wpAny _ _ (getMethod (Value.ref _) (Str.ofString "allowance") _) _ _ _); k_dflt (refine' book_method _ _ _ _ _ _ ?hB ?k1 ?k2 ?k3 ?k4 ?_; (case hB => with_reducible assumption); (case k1 => k_asm); (case k2 => k_asm); (case k3 => k_asm); (case k4 => exact fun q hq => by simp only [List.mem_cons]; grind); k_whole); (try dsimp only)))) | (k_here; (with_reducible show wpAny _ _ (getMethod (Value.ref _) (Str.ofString "allowance") _) _ _ _); k_dflt (refine' book_method _ _ _ _ _ _ ?hB ?k1 ?k2 ?k3 ?k4 ?_; (case hB => with_reducible assumption); (case k1 => k_asm); (case k2 => k_asm); (case k3 => k_asm); (case k4 => exact fun q hq => by simp only [List.mem_cons]; grind); k_whole); (try dsimp only))); (try walk_say "OWN getMethod ref"))) | ((fail_if_success (goal_lacks InvEndN)); (with_reducible show InvEndN ..); (repeat clear qk); (repeat clear ek); ((first | (with_reducible (first | k_dflt kst_close)) | k_dflt kst_close); (try walk_say "OWN InvEndN"))) | ((fail_if_success (goal_lacks LCg.CompEnd)); (with_reducible show LCg.CompEnd ..); ((first | (with_reducible (first | first | (k_dflt (refine' ce_int ?a1 ?a2 ?a3 ?a4 ?_; (case a1 => k_asm); (case a2 => k_asm); (case a3 => with_reducible assumption); (case a4 => first | exact True.intro | lcg_src)); intro z9q hz9q) | (k_dflt (refine' ce_same ?a1 ?a2 ?a3 ?a4 ?_; (case a1 => k_asm); (case a2 => k_asm); (case a3 => with_reducible assumption); (case a4 => first | exact True.intro | lcg_src))) | (k_dflt (refine' ce_one ?a1 ?a2 ?a3 ?a5 ?a4 ?_; (case a1 => k_asm); (case a2 => k_asm); (case a3 => with_reducible assumption); (case a5 => with_reducible assumption); (case a4 => first | exact True.intro | lcg_src))) | k_dflt lcg_end)) | first | (k_dflt (refine' ce_int ?a1 ?a2 ?a3 ?a4 ?_; (case a1 => k_asm); (case a2 => k_asm); (case a3 => with_reducible assumption); (case a4 => first | exact True.intro | lcg_src)); intro z9q hz9q) | (k_dflt (refine' ce_same ?a1 ?a2 ?a3 ?a4 ?_; (case a1 => k_asm); (case a2 => k_asm); (case a3 => with_reducible assumption); (case a4 => first | exact True.intro | lcg_src))) | (k_dflt (refine' ce_one ?a1 ?a2 ?a3 ?a5 ?a4 ?_; (case a1 => k_asm); (case a2 => k_asm); (case a3 => with_reducible assumption); (case a5 => with_reducible assumption); (case a4 => first | exact True.intro | lcg_src))) | k_dflt lcg_end); (try walk_say "OWN CompEnd"))) | ((fail_if_success (goal_lacks LCg.CompRest)); (with_reducible show LCg.CompRest ..); ((first | (with_reducible (first | (with_unfolding_all first | (refine LCg.CompRest.succ ?_; intro vpq Ipq oIpq Cpq oCpq Dpq mpq hpq tkpq Epq hvpq hCpq hxpq Fpq Npq offpq nepq; clear nepq; (first | lcg_open hvpq | (obtain ⟨t9pq, hv9pq⟩ := hvpq; subst hv9pq))) | refine LCg.CompRest.zero ?_))) | (with_unfolding_all first | (refine LCg.CompRest.succ ?_; intro vpq Ipq oIpq Cpq oCpq Dpq mpq hpq tkpq Epq hvpq hCpq hxpq Fpq Npq offpq nepq; clear nepq; (first | lcg_open hvpq | (obtain ⟨t9pq, hv9pq⟩ := hvpq; subst hv9pq))) | refine LCg.CompRest.zero ?_)); (try walk_say "OWN CompRest"))) | ((fail_if_success (goal_lacks LCg.FinE)); (with_reducible show LCg.FinE ..); ((first | (with_reducible (first | ((unfold LCg.FinE); intro Dpq hpq tkpq Fpq Npq o1pq; (try simp only [List.nil_append, List.cons_append] at Npq); (try dsimp only)))) | ((unfold LCg.FinE); intro Dpq hpq tkpq Fpq Npq o1pq; (try simp only [List.nil_append, List.cons_append] at Npq); (try dsimp only))); (try walk_say "OWN FinE"))) | ((fail_if_success (goal_lacks CRestC)); (with_reducible show CRestC ..); ((first | (with_reducible (first | (with_unfolding_all first | (refine CRestC.succ ?_; intro vpq Ipq oIpq Cpq oCpq cpq ocpq Dpq hpq tkpq Epq hvpq hdpq Fpq Npq offpq nepq offcpq; clear nepq; lcg_open hvpq) | refine CRestC.zero ?_))) | (with_unfolding_all first | (refine CRestC.succ ?_; intro vpq Ipq oIpq Cpq oCpq cpq ocpq Dpq hpq tkpq Epq hvpq hdpq Fpq Npq offpq nepq offcpq; clear nepq; lcg_open hvpq) | refine CRestC.zero ?_)); (try walk_say "OWN CRestC"))) | ((fail_if_success (goal_lacks RestC)); (with_reducible show RestC ..); ((first | (with_reducible (first | (k_dflt (refine restC_one (by with_reducible assumption) (by with_reducible assumption) ?_)))) | (k_dflt (refine restC_one (by with_reducible assumption) (by with_reducible assumption) ?_))); (try walk_say "OWN RestC"))) | walk1 | (dsimp only; walk1) | (dsimp only [List.cons_append, List.nil_append]; walk1)); (try (goal_lacks LoopAtV TurnsAt; (first | (fail_if_success k_fold; skip) | (refine foldQ ?_; intro qk))))) | ((with_reducible show wpAny _ _ _ _ _ _); dsimp only) | (leave1; walk_say "STEP leave1"; try dsimp only) | fail "no step")))
end Mine
end -- part Law
end
set_option maxHeartbeats 4000000 in
theorem PySem.Challenge.cw_rl0031_01_holds : PySem.Challenge.rw_rl0031_01.Holds := by
  exact Mine.law_holds
