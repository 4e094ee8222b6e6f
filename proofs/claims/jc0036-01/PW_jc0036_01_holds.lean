import PyProof.Rows.All
import Wide.All
import OpenK.AllK
import Wide.FinOn
import PySem.Challenge.RW_jc0036_01
open PySem PySem.W PyProof.Rows PySem.Spec PySem.Calls
set_option Elab.async false
namespace Mine
def hdv : Program := PySem.W.view PySem.Challenge.pw_jc0036_01 [0, 1, 2, 6, 7, 8, 10, 12, 14, 15, 16, 17, 18, 19, 20]
theorem map_both {α β γ : Type} {f : Option α} {A : α → β} {B : α → γ} {a : β} {b : γ} (h1 : f.map A = some a) (h2 : f.map B = some b) : f.map (fun x => (A x, B x)) = some (a, b) := by
  cases f with
  | none => cases h1
  | some x => exact congrArg some (Prod.ext (Option.some.inj h1) (Option.some.inj h2))
section
local macro_rules | `(tactic| o_head $H) => `(tactic| refine holds_open (q := hdv) (loose := [Str.ofString "_max_append", Str.ofString "_twin_re_1", Str.ofString "Whitespace"]) (Xt := fun s => xlAt hdv [] s && recOk (RowW.records (OpenRow.toRowW PySem.Challenge.rw_jc0036_01.row)) s) (XP := XL hdv []) (Yf := Hook.obs $H) (Ya := Hook.val $H) (YP := Hook.says $H) (N := 3076) (And.left ?hc) (Hook.of $H) (Hook.keeps $H) (fun s e => xl_of s (Bool.and_eq_true_iff.mp e).1) XL.keeps (by rfl) (by rfl) (by rfl) (fun s e => recFacts_of (Bool.and_eq_true_iff.mp e).2) (by rfl) (by first | assumption | decide +kernel) (by decide +kernel) ⟨rfl, rfl, rfl, rfl, rfl, by decide +kernel⟩ ?hw (And.right ?hc))
set_option maxRecDepth 100000 in
set_option maxHeartbeats 8000000 in
open_top hd for PySem.Challenge.rw_jc0036_01
end
theorem hd_as : ∀ P, [2, 3, 32, 34, 35, 37, 38, 39, 41, 42, 44, 45, 46, 47, 49, 50, 52, 53, 57, 58, 59, 61, 62, 64, 65, 73, 75, 76, 78, 79, 80, 82, 83, 85, 86, 87, 88, 90, 91, 93, 94, 95, 97, 98, 100, 101, 102, 104, 105, 107, 108, 109, 111, 112, 114, 115, 116, 118, 119, 121, 122, 123, 125, 126, 128, 129, 130, 132, 133, 135, 136, 137, 138, 139, 140, 141, 154, 156, 157, 159, 160, 161, 163, 164, 166, 167, 168, 170, 171, 173, 174, 175, 177, 178, 180, 181, 182, 184, 185, 187, 188, 189, 191, 192, 194, 195, 196, 198, 199, 201, 202, 203, 204, 205, 206, 207, 210, 212, 213, 215, 216, 217, 219, 220, 222, 223, 224, 226, 227, 229, 230, 231, 234, 235, 236, 238, 239, 241, 242, 243, 245, 246, 248, 249, 250, 253, 254] = (hd.heap_39 P).map (·.1) := fun _ => by kernel_rfl
noncomputable abbrev hk : Hook := kHook hd.heap_39 [2, 3, 32, 34, 35, 37, 38, 39, 41, 42, 44, 45, 46, 47, 49, 50, 52, 53, 57, 58, 59, 61, 62, 64, 65, 73, 75, 76, 78, 79, 80, 82, 83, 85, 86, 87, 88, 90, 91, 93, 94, 95, 97, 98, 100, 101, 102, 104, 105, 107, 108, 109, 111, 112, 114, 115, 116, 118, 119, 121, 122, 123, 125, 126, 128, 129, 130, 132, 133, 135, 136, 137, 138, 139, 140, 141, 154, 156, 157, 159, 160, 161, 163, 164, 166, 167, 168, 170, 171, 173, 174, 175, 177, 178, 180, 181, 182, 184, 185, 187, 188, 189, 191, 192, 194, 195, 196, 198, 199, 201, 202, 203, 204, 205, 206, 207, 210, 212, 213, 215, 216, 217, 219, 220, 222, 223, 224, 226, 227, 229, 230, 231, 234, 235, 236, 238, 239, 241, 242, 243, 245, 246, 248, 249, 250, 253, 254] hd_as
abbrev hdX (s : Shared) : Bool := xlAt hdv [] s && recOk (RowW.records (OpenRow.toRowW PySem.Challenge.rw_jc0036_01.row)) s
abbrev hdS (w : World) (b : Bool) : Prop := (fencedOpening treeTable PySem.Challenge.rw_jc0036_01.row.prog w 3076).map (fun s₀ => (topFrom treeTable PySem.Challenge.rw_jc0036_01.row.prog (w.withFollow "special-get-raises" b) 3076 s₀).map (fun s => (openSeen hdv [Str.ofString "_max_append", Str.ofString "_twin_re_1", Str.ofString "Whitespace"] (importedModules PySem.Challenge.rw_jc0036_01.row.prog.main.body) hdX true s, hk.obs s))) = some (some (openGood hdv [Str.ofString "_max_append", Str.ofString "_twin_re_1", Str.ofString "Whitespace"], hk.val (w.withFollow "special-get-raises" b)))
set_option maxRecDepth 100000 in
set_option maxHeartbeats 8000000 in
theorem hd_l0 (w : World) : hdS w false := by
  show (fencedOpening treeTable PySem.Challenge.rw_jc0036_01.row.prog w 3076).map _ = _
  kernel_rfl
set_option maxRecDepth 100000 in
set_option maxHeartbeats 8000000 in
theorem hd_l1 (w : World) : hdS w true := by
  show (fencedOpening treeTable PySem.Challenge.rw_jc0036_01.row.prog w 3076).map _ = _
  kernel_rfl
theorem hd_left : LeftO PySem.Challenge.rw_jc0036_01.row.prog hdv [Str.ofString "_max_append", Str.ofString "_twin_re_1", Str.ofString "Whitespace"] hdX hk.obs hk.val 3076 := LeftO.of_split "special-get-raises" fun w => map_both (hd_l0 w) (hd_l1 w)
end Mine
namespace Mine
/-- a def's contract: what it hands back, from any caller's frame; the ledger stands as it stood; dk frames and uk units of room -/
def Tell (w : World) (mean : ExcName → Option Value) (mg mb : Str → Option Value) (dk uk : Nat) (f : Addr) (pre : Prop) (vs : List Value) (R : Tok → Value) : Prop :=
  ∀ (news : List (Addr × Obj)) (dp un : Nat) (gd : Option (List Code)) (cn : Str) (cs : Scope) (a : Addr) (ccd : Value) (cl : List (Str × Addr)) (outer : List Env) (A₀ : Around) (base h₀ : Heap) (L : Addr) (m : Str → Option Value) (s : Shared) (Q E : Value → Shared → Prop),
    Below A₀ base outer h₀ → Fr h₀ L s.heap m → (hd.heap_39 w.params).In h₀ → News h₀ L s.heap news → Top hdv (looseW hdv [Str.ofString "_max_append", Str.ofString "_twin_re_1", Str.ofString "Whitespace"]) mean mg mb h₀ → cs.kind = .function →
    pre → dp + dk < recursionLimit → un + uk < cLine →
    (∀ (t : Tok) (h' : Heap) (tk' : Nat), Fr h₀ L h' m → News h₀ L h' news → Q (R t) { s with heap := h', toks := tk' }) →
    wpAny (model PySem.Challenge.rw_jc0036_01.row.prog w) (ktrTop dp un gd cn cs L a ccd cl outer) (call (.ref f) vs) Q E s
theorem Tell.use {w : World} {mean : ExcName → Option Value} {mg mb : Str → Option Value} {dk uk : Nat} {f : Addr} {pre : Prop} {vs : List Value} {R : Tok → Value} (C : Tell w mean mg mb dk uk f pre vs R)
    {news : List (Addr × Obj)} {dp un : Nat} {gd : Option (List Code)} {cn : Str} {cs : Scope} {a : Addr} {ccd : Value} {cl : List (Str × Addr)} {outer : List Env} {A₀ : Around} {base h₀ : Heap} {L : Addr} {m : Str → Option Value} {s : Shared} {Q E : Value → Shared → Prop}
    (k1 : Below A₀ base outer h₀) (k2 : Fr h₀ L s.heap m) (k3 : (hd.heap_39 w.params).In h₀) (k4 : News h₀ L s.heap news) (k5 : Top hdv (looseW hdv [Str.ofString "_max_append", Str.ofString "_twin_re_1", Str.ofString "Whitespace"]) mean mg mb h₀) (kK : cs.kind = .function)
    (kp : pre) (kd : dp + dk < recursionLimit) (ku : un + uk < cLine)
    (kR : ∀ (t : Tok) (h' : Heap) (tk' : Nat), Fr h₀ L h' m → News h₀ L h' news → Q (R t) { s with heap := h', toks := tk' }) :
    wpAny (model PySem.Challenge.rw_jc0036_01.row.prog w) (ktrTop dp un gd cn cs L a ccd cl outer) (call (.ref f) vs) Q E s :=
  C news dp un gd cn cs a ccd cl outer A₀ base h₀ L m s Q E k1 k2 k3 k4 k5 kK kp kd ku kR
abbrev Small (come free way : Int) : Prop := 1 ≤ come ∧ come ≤ 100 ∧ 1 ≤ free ∧ free ≤ 100 ∧ 0 ≤ way ∧ way < 12
/-- a contract whose answer is a new list of ints -/
def TellL (w : World) (mean : ExcName → Option Value) (mg mb : Str → Option Value) (dk uk : Nat) (f : Addr) (pre : Prop) (vs : List Value) (P : List Int → Prop) : Prop :=
  ∀ (news : List (Addr × Obj)) (dp un : Nat) (gd : Option (List Code)) (cn : Str) (cs : Scope) (a : Addr) (ccd : Value) (cl : List (Str × Addr)) (outer : List Env) (A₀ : Around) (base h₀ : Heap) (L : Addr) (m : Str → Option Value) (s : Shared) (Q E : Value → Shared → Prop),
    Below A₀ base outer h₀ → Fr h₀ L s.heap m → (hd.heap_39 w.params).In h₀ → News h₀ L s.heap news → Top hdv (looseW hdv [Str.ofString "_max_append", Str.ofString "_twin_re_1", Str.ofString "Whitespace"]) mean mg mb h₀ → cs.kind = .function →
    pre → dp + dk < recursionLimit → un + uk < cLine →
    (∀ (l : Addr) (us : List Value) (xs : List Int) (n : Nat) (h' : Heap) (tk' : Nat), Fr h₀ L h' m → News h₀ L h' ((l, listOf us.toArray n) :: news) → IntsAre us xs → P xs → (∀ p ∈ news, p.1 < l) → Q (.ref l) { s with heap := h', toks := tk' }) →
    wpAny (model PySem.Challenge.rw_jc0036_01.row.prog w) (ktrTop dp un gd cn cs L a ccd cl outer) (call (.ref f) vs) Q E s
theorem TellL.use {w : World} {mean : ExcName → Option Value} {mg mb : Str → Option Value} {dk uk : Nat} {f : Addr} {pre : Prop} {vs : List Value} {P : List Int → Prop} (C : TellL w mean mg mb dk uk f pre vs P)
    {news : List (Addr × Obj)} {dp un : Nat} {gd : Option (List Code)} {cn : Str} {cs : Scope} {a : Addr} {ccd : Value} {cl : List (Str × Addr)} {outer : List Env} {A₀ : Around} {base h₀ : Heap} {L : Addr} {m : Str → Option Value} {s : Shared} {Q E : Value → Shared → Prop}
    (k1 : Below A₀ base outer h₀) (k2 : Fr h₀ L s.heap m) (k3 : (hd.heap_39 w.params).In h₀) (k4 : News h₀ L s.heap news) (k5 : Top hdv (looseW hdv [Str.ofString "_max_append", Str.ofString "_twin_re_1", Str.ofString "Whitespace"]) mean mg mb h₀) (kK : cs.kind = .function)
    (kp : pre) (kd : dp + dk < recursionLimit) (ku : un + uk < cLine)
    (kR : ∀ (l : Addr) (us : List Value) (xs : List Int) (n : Nat) (h' : Heap) (tk' : Nat), Fr h₀ L h' m → News h₀ L h' ((l, listOf us.toArray n) :: news) → IntsAre us xs → P xs → (∀ p ∈ news, p.1 < l) → Q (.ref l) { s with heap := h', toks := tk' }) :
    wpAny (model PySem.Challenge.rw_jc0036_01.row.prog w) (ktrTop dp un gd cn cs L a ccd cl outer) (call (.ref f) vs) Q E s :=
  C news dp un gd cn cs a ccd cl outer A₀ base h₀ L m s Q E k1 k2 k3 k4 k5 kK kp kd ku kR
theorem ints_nil0 : IntsAre ([] : List Value) ([] : List Int) := .nil
end Mine
namespace Mine
/-- n times the sign c -/
def R (c n : Nat) : Str := ⟨(List.replicate n c).toArray⟩
def tl (x : Str) : List Nat := x.cps.toList
theorem tl_R (c n : Nat) : tl (R c n) = List.replicate n c := by simp [tl, R]
theorem tl_app (x y : Str) : tl (x ++ y) = tl x ++ tl y := by
  show (x.cps ++ y.cps).toList = _
  simp [tl]
theorem tl_ext {x y : Str} (h : tl x = tl y) : x = y := by
  cases x with | mk a => cases y with | mk b =>
  simp only [tl] at h
  exact congrArg Str.mk (Array.toList_inj.mp h)
theorem tl_mk (l : List Nat) : tl ⟨l.toArray⟩ = l := rfl
theorem len_tl (x : Str) : x.length = (tl x).length := by simp [tl, Str.length]
theorem R_len (c n : Nat) : (R c n).length = n := by simp [len_tl, tl_R]
theorem fold_reps (c : Nat) : ∀ (n : Nat) (a : Array Nat), (List.replicate n (#[c] : Array Nat)).foldl (· ++ ·) a = a ++ (List.replicate n c).toArray
  | 0, a => by simp
  | n + 1, a => by
    rw [List.replicate_succ, List.foldl_cons, fold_reps c n]
    apply Array.toList_inj.mp
    simp [List.replicate_succ]
theorem mul_R (c : Nat) {n : Int} (h : 0 ≤ n) : Txt.mul ⟨#[c]⟩ n = R c n.toNat := by
  unfold Txt.mul
  by_cases h1 : n < 1
  · rw [if_pos h1, show n.toNat = 0 by omega]; rfl
  · rw [if_neg h1]
    by_cases h2 : n = 1
    · subst h2; rfl
    · rw [if_neg (by simp [h2, Str.length]), fold_reps]
      apply tl_ext
      simp [tl, R]
section
variable {prog : Program} {w : World} {A : Around} {E : Value → Shared → Prop} {s : Shared} {x y : Str} {t u : Tok} {Q : Value → Shared → Prop}
theorem mulR {n : Int} (c : Nat) (hx : x = ⟨#[c]⟩) (h0 : 0 ≤ n) (h1 : n ≤ 1048576) (h : ∀ t' k, Q (.str (R c n.toNat) t') { s with toks := k }) : wpAny (model prog w) A (binaryOp .Mult (.str x t) (.int n u)) Q E s := by
  subst hx
  refine SB.mul (mulOk_of 16 1048576 (by show 1 ≤ 16; decide) h1 (by omega) (by decide) (by decide)) fun t' k => ?_
  rw [mul_R c h0]
  exact h t' k
theorem addR (hs : x.length + y.length ≤ 16777216) (h : ∀ t' k, Q (.str (x ++ y) t') { s with toks := k }) : wpAny (model prog w) A (binaryOp .Add (.str x t) (.str y u)) Q E s :=
  KOpn.add hs fun t' k _ => h t' k
end
theorem l_x : (Str.ofString "x").length = 1 := by decide
theorem l_t : (Str.ofString "\t").length = 1 := by decide
theorem l_b : (Str.ofString " ").length = 1 := by decide
theorem tl_x : tl (Str.ofString "x") = [120] := by decide
theorem tl_y : tl (Str.ofString "y") = [121] := by decide
theorem tl_t : tl (Str.ofString "\t") = [9] := by decide
theorem tl_b : tl (Str.ofString " ") = [32] := by decide
end Mine
namespace Mine
theorem getD_z (a b : Int) : ([a, b] : List Int).getD (Int.toNat 0) 0 = a := rfl
theorem getD_o (a b : Int) : ([a, b] : List Int).getD (Int.toNat 1) 0 = b := rfl
section
variable {prog : Program} {w : World} {A : Around} {E : Value → Shared → Prop} {s : Shared} {x y : Str} {t u : Tok} {Q : Value → Shared → Prop}
theorem mulV {v n : Int} (c : Nat) (hx : x = ⟨#[c]⟩) (e : v = n) (h0 : 0 ≤ n) (h1 : n ≤ 1048576) (h : ∀ t' k, Q (.str (R c n.toNat) t') { s with toks := k }) : wpAny (model prog w) A (binaryOp .Mult (.str x t) (.int v u)) Q E s := by
  subst e; exact mulR c hx h0 h1 h
end
end Mine
namespace Mine
theorem ret_of {h₀ h' : Heap} {L : Addr} {m : Str → Option Value} {news nx : List (Addr × Obj)} {s : Shared} {Q : Value → Shared → Prop} {tk' : Nat} {x y : Int} {t : Tok}
    (hret : ∀ (t : Tok) (h' : Heap) (tk' : Nat), Fr h₀ L h' m → News h₀ L h' news → Q (.int x t) { s with heap := h', toks := tk' })
    (F : Fr h₀ L h' m) (N : News h₀ L h' nx) (hs : ∀ p ∈ news, p ∈ nx) (e : y = x) : Q (.int y t) { s with heap := h', toks := tk' } := by
  subst e
  exact hret t h' tk' F fun p hp => N p (hs p hp)
end Mine
namespace Mine
def Hold (p : Prop) : Prop := p
/-- what both ways of an if leave: the list of two, as it stood or exchanged -/
def JQ (h₀ : Heap) (L : Addr) (m : Str → Option Value) (le : Addr) (e0 e1 : Int) (rest : List (Addr × Obj)) (s : Shared) (f : Flow) (s' : Shared) : Prop :=
  f = .next ∧ ∃ a b ta tb n h tk, s' = { s with heap := h, toks := tk } ∧ ((a = e0 ∧ b = e1) ∨ (a = e1 ∧ b = e0)) ∧ Fr h₀ L h m ∧ News h₀ L h ((le, listOf #[.int a ta, .int b tb] n) :: rest)
theorem if_join {M : Model} {A : Around} {E : Value → Shared → Prop} {s : Shared} {t : Sem Flow} {Q : Flow → Shared → Prop} {h₀ : Heap} {L le : Addr} {m : Str → Option Value} {e0 e1 : Int} {t0 t1 : Tok} {n : Nat} {rest : List (Addr × Obj)}
    (F : Fr h₀ L s.heap m) (N : News h₀ L s.heap ((le, listOf #[.int e0 t0, .int e1 t1] n) :: rest)) (h1 : wpAny M A t (JQ h₀ L m le e0 e1 rest s) E s)
    (h2 : Hold (∀ a b ta tb n' h tk, ((a = e0 ∧ b = e1) ∨ (a = e1 ∧ b = e0)) → Fr h₀ L h m → News h₀ L h ((le, listOf #[.int a ta, .int b tb] n') :: rest) → Q .next { s with heap := h, toks := tk })) : wpAny M A t Q E s :=
  wpAny_mono h1 (fun f s' q => by
    obtain ⟨rfl, a, b, ta, tb, n', h, tk, rfl, h3, h4, h5⟩ := q
    exact h2 a b ta tb n' h tk h3 h4 h5) fun _ _ e => e
theorem jq_a {s : Shared} {h₀ h : Heap} {L le : Addr} {m : Str → Option Value} {e0 e1 : Int} {t0 t1 : Tok} {n tk : Nat} {rest : List (Addr × Obj)} (F : Fr h₀ L h m) (N : News h₀ L h ((le, listOf #[.int e0 t0, .int e1 t1] n) :: rest)) : JQ h₀ L m le e0 e1 rest s .next { s with heap := h, toks := tk } :=
  ⟨rfl, e0, e1, t0, t1, n, h, tk, rfl, .inl ⟨rfl, rfl⟩, F, N⟩
theorem jq_b {s : Shared} {h₀ h : Heap} {L le : Addr} {m : Str → Option Value} {e0 e1 : Int} {t0 t1 : Tok} {n tk : Nat} {rest : List (Addr × Obj)} (F : Fr h₀ L h m) (N : News h₀ L h ((le, listOf #[.int e1 t1, .int e0 t0] n) :: rest)) : JQ h₀ L m le e0 e1 rest s .next { s with heap := h, toks := tk } :=
  ⟨rfl, e1, e0, t1, t0, n, h, tk, rfl, .inr ⟨rfl, rfl⟩, F, N⟩
end Mine
namespace Mine
theorem my_cut_total : ∀ (us : List Value) (k : Nat), k < us.length → ∃ p y q, kl_cut us k = some (p, y, q) ∧ p ++ q = us.eraseIdx k ∧ us[k]? = some y
  | [], _, h => absurd h (Nat.not_lt_zero _)
  | x :: r, 0, _ => ⟨[], x, r, rfl, rfl, rfl⟩
  | x :: r, k + 1, h => by
    obtain ⟨p, y, q, e, e2, e3⟩ := my_cut_total r k (Nat.lt_of_succ_lt_succ h)
    exact ⟨x :: p, y, q, by unfold kl_cut; rw [e], by simp [e2], by simpa using e3⟩
theorem my_ints_erase {us : List Value} {l : List Int} (hi : IntsAre us l) : ∀ k, IntsAre (us.eraseIdx k) (l.eraseIdx k) := by
  induction hi with
  | nil => intro k; exact .nil
  | cons n t r ih =>
    intro k
    cases k with
    | zero => exact r
    | succ k => exact .cons n t (ih k)
section
variable {prog : Program} {w : World} {A : Around} {E : Value → Shared → Prop} {s : Shared} {h₀ : Heap} {L D : Addr} {m : Str → Option Value} {news news' : List (Addr × Obj)} {n : Nat}
theorem my_popAt {us : List Value} {l : List Int} {i : Int} {u : Tok} {Q : Value → Shared → Prop} (F : Fr h₀ L s.heap m) (N : News h₀ L s.heap news) (U : Upd D (listOf us.toArray n) (listOf (us.eraseIdx i.toNat).toArray (n + 1)) news news') (hi : IntsAre us l)
    (h0 : 0 ≤ i) (h1 : i < (l.length : Int)) (hz : us.length ≤ 1000)
    (h : ∀ h' t, Fr h₀ L h' m → News h₀ L h' news' → IntsAre (us.eraseIdx i.toNat) (l.eraseIdx i.toNat) → Q (.int (l.getD i.toNat 0) t) { s with heap := h' }) : wpAny (model prog w) A (call (.builtin "list.pop") [.ref D, .int i u]) Q E s := by
  have hl := hi.length
  have hk : i.toNat < us.length := by omega
  obtain ⟨p, y, q, e, e2, e3⟩ := my_cut_total us i.toNat hk
  have hk2 : i.toNat < l.length := by omega
  obtain ⟨t, ht⟩ := hi.get i.toNat l[i.toNat] (by simp [hk2])
  have hy : y = .int (l.getD i.toNat 0) t := by
    rw [e3] at ht
    rw [Option.some.inj ht, List.getD_eq_getElem?_getD, List.getElem?_eq_getElem hk2]
    rfl
  subst hy
  refine kl_popAt (p := p) (q := q) (k := i.toNat) F N ?_ ?_ e (by rw [e2]; exact U) (by rw [sizeLine_eq]; exact Nat.le_trans hz (by decide)) fun h' F' N' => h h' t F' N' (my_ints_erase hi _)
  · unfold Builtin.List.listFitsIndex
    simp
    omega
  · unfold seqIndex?
    have e9 : ¬ i < 0 := by omega
    simp only [e9, if_false, List.size_toArray]
    rw [if_pos]
    simp
    omega
end
end Mine
namespace Mine
section
variable {prog : Program} {w : World} {A : Around} {E : Value → Shared → Prop} {s : Shared} {env : Env} {h₀ : Heap} {x : Str} {body : List Stmt} {Q : Flow → Shared → Prop}
/-- the end of a turn whose ledger may have grown: the loop's own iterator stands at I -/
def GrowEnd (h₀ : Heap) (L I : Addr) (oI : Obj) (J : (Str → Option Value) → List (Addr × Obj) → Prop) (s₁ s₂ : Shared) : Prop :=
  ∃ h' tk m' nx, s₂ = { s₁ with heap := h', toks := tk } ∧ Fr h₀ L h' m' ∧ News h₀ L h' ((I, oI) :: nx) ∧ (∀ p ∈ nx, p.1 ≠ I) ∧ J m' nx
def GrowPost (h₀ : Heap) (L I : Addr) (oI : Obj) (J : (Str → Option Value) → List (Addr × Obj) → Prop) (s₁ : Shared) (Q : Flow → Shared → Prop) (f : Flow) (s₂ : Shared) : Prop :=
  match f with
  | .ret v => Q (.ret v) s₂
  | .brk => Q .next s₂
  | _ => GrowEnd h₀ L I oI J s₁ s₂
theorem GrowEnd.intro {L I : Addr} {oI : Obj} {J : (Str → Option Value) → List (Addr × Obj) → Prop} {s₁ : Shared} {h' : Heap} {tk : Nat} {m' : Str → Option Value} {nx : List (Addr × Obj)}
    (F : Fr h₀ L h' m') (N : News h₀ L h' ((I, oI) :: nx)) (hn : ∀ p ∈ nx, p.1 ≠ I) (hj : J m' nx) : GrowEnd h₀ L I oI J s₁ { s₁ with heap := h', toks := tk } := ⟨h', tk, m', nx, rfl, F, N, hn, hj⟩
theorem iter_growL {l : Addr} {vs : List Value} {ns : List Int} {nn : Nat} {m₀ : Str → Option Value} {news : List (Addr × Obj)} (J : Nat → (Str → Option Value) → List (Addr × Obj) → Prop)
    (hh : A.handled = none) (hi : IntsAre vs ns) (F : Fr h₀ env.locals s.heap m₀) (N : News h₀ env.locals s.heap news) (hl : (l, listOf vs.toArray nn) ∈ news) (hj : J 0 m₀ news)
    (hJ : ∀ i m nx, J i m nx → (l, listOf vs.toArray nn) ∈ nx)
    (turn : ∀ i n t m₁ news₁ h tk I oI, ns[i]? = some n → (∀ p ∈ news₁, p.1 ≠ I) → J i m₁ news₁ → Fr h₀ env.locals h (fun y => if y = x then some (.int n t) else m₁ y) → News h₀ env.locals h ((I, oI) :: news₁) →
      wpAny (model prog w) A (execs body env) (GrowPost h₀ env.locals I oI (J (i + 1)) { s with heap := h, toks := tk } Q) E { s with heap := h, toks := tk })
    (done : ∀ m₁ news₁ h tk, J ns.length m₁ news₁ → Fr h₀ env.locals h m₁ → News h₀ env.locals h news₁ → Q .next { s with heap := h, toks := tk }) :
    wpAny (model prog w) A (pyIter (.ref l)) (fun it s₂ => LoopAtV prog w A h₀ env x body Q E it s₂) E s := by
  have hol : s.heap.get? l = some (listOf vs.toArray nn) := (N _ hl).1
  have hls : s.heap.IsList l vs.toArray := ⟨_, hol, rfl, nn, rfl⟩
  have hne : l ≠ s.heap.objs.size := Nat.ne_of_lt (Heap.lt_size hol)
  refine wpAny_pyIter_list hls ?_
  have W := Walks.list (prog := prog) (w := w) hh s.heap.objs.size l hne vs.toArray
  have hlen : vs.toArray.size = ns.length := by simp [hi.length]
  rw [hlen] at W
  refine ⟨_, _, _, ns.length, _, _, m₀, news, J, rfl, W, ?_, ?_, ?_, ⟨⟨_, Heap.get?_push_size _ rfl, rfl, rfl⟩, hls.at fun o e => Heap.get?_push_of_some _ e⟩, F.push _, (fun p hp => ⟨Heap.get?_push_of_some _ (N p hp).1, (N p hp).2⟩), hj, ?_, ?_⟩
  · intro hm
    rcases List.mem_cons.mp hm with e | hm
    · exact absurd F.ns.lt (e ▸ Nat.lt_irrefl _)
    · exact (N _ hl).2.1 ((List.mem_singleton.mp hm).symm)
  · intro b hb
    rw [List.mem_singleton.mp hb]
    exact next_is_new F
  · intro p hp hI
    exact absurd (Heap.lt_size (N p hp).1) ((List.mem_singleton.mp hI) ▸ Nat.lt_irrefl _)
  · rintro i v m₁ news₁ s₁ own ⟨hh', tk', rfl⟩ hin hP hJ₁ hoff hown hget hfp hst F₁ N₁
    have hlt' : i < ns.length := hin
    obtain ⟨t, hx⟩ := hi.get i ns[i] (by simp [hlt'])
    have hv : v = .int ns[i] t := by
      have hP' : vs[i]? = some v := by simpa using hP
      rw [hx] at hP'; exact (Option.some.inj hP').symm
    subst hv
    obtain ⟨oI, hoI, _⟩ := hst.1
    have hoI' : hh'.get? s.heap.objs.size = some oI := hoI
    have hIown : (s.heap.objs.size, oI) ∈ own := hfp _ (.head _) (next_is_new F) oI hoI'
    have hnI : ∀ p ∈ news₁, p.1 ≠ s.heap.objs.size := fun p hp e => hoff p hp (e ▸ .head _)
    have N₂ : News h₀ env.locals hh' ((s.heap.objs.size, oI) :: news₁) := fun p hp => by
      rcases List.mem_cons.mp hp with rfl | hp
      · exact N₁ _ (List.mem_append_left _ hIown)
      · exact N₁ _ (List.mem_append_right _ hp)
    refine wpAny_mono (turn i ns[i] t m₁ news₁ hh' tk' s.heap.objs.size oI (by simp [hlt']) hnI hJ₁ F₁ N₂) (fun f s₂ p => ?_) fun _ _ e => e
    have hlo : hh'.get? l = some (listOf vs.toArray nn) := (N₁ _ (List.mem_append_right _ (hJ _ _ _ hJ₁))).1
    have fin : GrowEnd h₀ env.locals s.heap.objs.size oI (J (i + 1)) { s with heap := hh', toks := tk' } s₂ → LoopStepU h₀ env.locals [s.heap.objs.size] own (J (i + 1)) { s with heap := hh', toks := tk' } .next s₂ := by
      rintro ⟨h', tk, m', nx, e, F', N', hn, hm⟩
      refine ⟨rfl, h', tk, m', nx, e, F', fun p hp => ?_, fun p hp hq => hn p hp (List.mem_singleton.mp hq), hm⟩
      rcases List.mem_append.mp hp with h | h
      · have hg : hh'.get? p.1 = some p.2 := hget p h
        rcases List.mem_cons.mp (hown p h) with h2 | h2
        · have : p = (s.heap.objs.size, oI) := by
            rw [h2, hoI'] at hg
            exact Prod.ext h2 (Option.some.inj hg).symm
          rw [this]
          exact N' _ (.head _)
        · have h3 := List.mem_singleton.mp h2
          have : p = (l, listOf vs.toArray nn) := by
            rw [h3, hlo] at hg
            exact Prod.ext h3 (Option.some.inj hg).symm
          rw [this]
          exact N' _ (.tail _ (hJ _ _ _ hm))
      · exact N' p (.tail _ h)
    cases f with
    | ret v => exact .ret p
    | brk => exact .brk p
    | next => exact .next (fin p)
    | cont => exact .cont (fin p)
  · rintro h' tk m' news' F' N' _ hJ
    exact done m' news' h' tk hJ F' N'
theorem loop_growS {xt : Str} {tx : Tok} {I : Addr} {cls : String} {m₀ : Str → Option Value} {news : List (Addr × Obj)} (J : Nat → (Str → Option Value) → List (Addr × Obj) → Prop)
    (W : Walks prog w A I [I] [I] xt.cps.size (SignAt xt) (fun i h => h.IsStrIter I cls xt tx i)) (hL : env.locals ≠ I) (hI : h₀.get? I = none) (hn : ∀ p ∈ news, p.1 ≠ I) (hst : s.heap.IsStrIter I cls xt tx 0)
    (F : Fr h₀ env.locals s.heap m₀) (N : News h₀ env.locals s.heap news) (hj : J 0 m₀ news)
    (turn : ∀ i c t m₁ news₁ h tk I oI, xt.cps[i]? = some c → (∀ p ∈ news₁, p.1 ≠ I) → J i m₁ news₁ → Fr h₀ env.locals h (fun y => if y = x then some (.str ⟨#[c]⟩ t) else m₁ y) → News h₀ env.locals h ((I, oI) :: news₁) →
      wpAny (model prog w) A (execs body env) (GrowPost h₀ env.locals I oI (J (i + 1)) { s with heap := h, toks := tk } Q) E { s with heap := h, toks := tk })
    (done : ∀ m₁ news₁ h tk, J xt.cps.size m₁ news₁ → Fr h₀ env.locals h m₁ → News h₀ env.locals h news₁ → Q .next { s with heap := h, toks := tk }) :
    LoopAtV prog w A h₀ env x body Q E (.ref I) s := by
  refine ⟨_, _, _, _, _, _, m₀, news, J, rfl, W, ?_, ?_, ?_, hst, F, N, hj, ?_, ?_⟩
  · intro hm
    exact hL (List.mem_singleton.mp hm)
  · intro b hb
    rw [List.mem_singleton.mp hb]
    exact hI
  · intro p hp hI
    exact hn p hp (List.mem_singleton.mp hI)
  · rintro i v m₁ news₁ s₁ own ⟨hh', tk', rfl⟩ hin ⟨c, u, hc, rfl⟩ hJ₁ hoff hown hget hfp hst F₁ N₁
    obtain ⟨oI, hoI, _⟩ := hst
    have hoI' : hh'.get? I = some oI := hoI
    have hIown : (I, oI) ∈ own := hfp _ (.head _) hI oI hoI'
    have hnI : ∀ p ∈ news₁, p.1 ≠ I := fun p hp e => hoff p hp (e ▸ .head _)
    have N₂ : News h₀ env.locals hh' ((I, oI) :: news₁) := fun p hp => by
      rcases List.mem_cons.mp hp with rfl | hp
      · exact N₁ _ (List.mem_append_left _ hIown)
      · exact N₁ _ (List.mem_append_right _ hp)
    refine wpAny_mono (turn i c u m₁ news₁ hh' tk' I oI hc hnI hJ₁ F₁ N₂) (fun f s₂ p => ?_) fun _ _ e => e
    have fin : GrowEnd h₀ env.locals I oI (J (i + 1)) { s with heap := hh', toks := tk' } s₂ → LoopStepU h₀ env.locals [I] own (J (i + 1)) { s with heap := hh', toks := tk' } .next s₂ := by
      rintro ⟨h', tk, m', nx, e, F', N', hn, hm⟩
      refine ⟨rfl, h', tk, m', nx, e, F', fun p hp => ?_, fun p hp hq => hn p hp (List.mem_singleton.mp hq), hm⟩
      rcases List.mem_append.mp hp with h | h
      · have hg : hh'.get? p.1 = some p.2 := hget p h
        have h2 := List.mem_singleton.mp (hown p h)
        have : p = (I, oI) := by
          rw [h2, hoI'] at hg
          exact Prod.ext h2 (Option.some.inj hg).symm
        rw [this]
        exact N' _ (.head _)
      · exact N' p (.tail _ h)
    cases f with
    | ret v => exact .ret p
    | brk => exact .brk p
    | next => exact .next (fin p)
    | cont => exact .cont (fin p)
  · rintro h' tk m' news' F' N' _ hJ
    exact done m' news' h' tk hJ F' N'
theorem iter_growS {xt : Str} {tx : Tok} {m₀ : Str → Option Value} {news : List (Addr × Obj)} (J : Nat → (Str → Option Value) → List (Addr × Obj) → Prop)
    (hh : A.handled = none) (F : Fr h₀ env.locals s.heap m₀) (N : News h₀ env.locals s.heap news) (hj : J 0 m₀ news)
    (turn : ∀ i c t m₁ news₁ h tk I oI, xt.cps[i]? = some c → (∀ p ∈ news₁, p.1 ≠ I) → J i m₁ news₁ → Fr h₀ env.locals h (fun y => if y = x then some (.str ⟨#[c]⟩ t) else m₁ y) → News h₀ env.locals h ((I, oI) :: news₁) →
      wpAny (model prog w) A (execs body env) (GrowPost h₀ env.locals I oI (J (i + 1)) { s with heap := h, toks := tk } Q) E { s with heap := h, toks := tk })
    (done : ∀ m₁ news₁ h tk, J xt.cps.size m₁ news₁ → Fr h₀ env.locals h m₁ → News h₀ env.locals h news₁ → Q .next { s with heap := h, toks := tk }) :
    wpAny (model prog w) A (pyIter (.str xt tx)) (fun it s₂ => LoopAtV prog w A h₀ env x body Q E it s₂) E s := by
  have hL : env.locals ≠ s.heap.objs.size := Nat.ne_of_lt F.ns.lt
  have hnn : ∀ p ∈ news, p.1 ≠ s.heap.objs.size := fun p hp => Nat.ne_of_lt (Heap.lt_size (N p hp).1)
  cases ha : xt.cps.all (· < 128)
  · exact wpAny_pyIter_wide ha (loop_growS (s := { s with heap := s.heap.push _ }) J (Walks.strWide hh _ xt tx) hL (next_is_new F) hnn ⟨_, Heap.get?_push_size _ rfl, rfl, rfl⟩ (F.push _) (fun p hp => ⟨Heap.get?_push_of_some _ (N p hp).1, (N p hp).2⟩) hj turn done)
  · exact wpAny_pyIter_ascii ha (loop_growS (s := { s with heap := s.heap.push _ }) J (Walks.strAscii hh _ xt tx) hL (next_is_new F) hnn ⟨_, Heap.get?_push_size _ rfl, rfl, rfl⟩ (F.push _) (fun p hp => ⟨Heap.get?_push_of_some _ (N p hp).1, (N p hp).2⟩) hj turn done)
theorem iter_growT {y : Str} {px : Pos} {r : Addr} {a₀ b₀ : Int} {t₀ u₀ v₀ : Tok} {n : Nat} {m₀ : Str → Option Value} {news : List (Addr × Obj)} (J : Nat → (Str → Option Value) → List (Addr × Obj) → Prop)
    (hh : A.handled = none) (hr : IsRange s.heap r a₀ b₀ 1 t₀ u₀ v₀) (hsmall : Builtin.Range.small a₀ b₀ 1 = true) (hn : Builtin.Range.rangeSize a₀ b₀ 1 = (n : Int)) (F : Fr h₀ env.locals s.heap m₀) (N : News h₀ env.locals s.heap news) (hj : J 0 m₀ news)
    (turn : ∀ i t m₁ news₁ h tk I oI, i < n → (∀ p ∈ news₁, p.1 ≠ I) → J i m₁ news₁ → Fr h₀ env.locals h m₁ → News h₀ env.locals h ((I, oI) :: news₁) →
      wpAny (model prog w) A (assign (.Name y px) env (.int (a₀ + (i : Int)) t)) (fun _ s₃ => wpAny (model prog w) A (execs body env) (GrowPost h₀ env.locals I oI (J (i + 1)) { s with heap := h, toks := tk } Q) E s₃) E { s with heap := h, toks := tk })
    (done : ∀ m₁ news₁ h tk, J n m₁ news₁ → Fr h₀ env.locals h m₁ → News h₀ env.locals h news₁ → Q .next { s with heap := h, toks := tk }) :
    wpAny (model prog w) A (pyIter (.ref r)) (fun it s₂ => TurnsAt prog w A h₀ env (.Name y px) body Q E it s₂) E s := by
  refine wpAny_pyIter_range hr hsmall ?_
  have W : Walks prog w A s.heap.objs.size [s.heap.objs.size] [s.heap.objs.size] n (fun i v => ∃ t, v = .int (a₀ + i * 1) t)
      (fun i h => IsRangeIter h s.heap.objs.size (a₀ + (i : Nat) * 1) ((n : Int) - (i : Nat)) 1) := Walks.range hh _ a₀ 1 n
  have K := KTurns.ofWalks (target := .Name y px) W (fun _ _ _ _ _ _ h => wpAny_pure h)
  refine ⟨_, _, _, n, _, _, _, m₀, news, J, rfl, K, ?_, ?_, ?_, (by show IsRangeIter _ _ _ _ _; rw [hn]; simpa using Heap.get?_push_size _ rfl), F.push _, (fun p hp => ⟨Heap.get?_push_of_some _ (N p hp).1, (N p hp).2⟩), hj, ?_, ?_⟩
  · intro hm
    exact absurd F.ns.lt ((List.mem_singleton.mp hm) ▸ Nat.lt_irrefl _)
  · intro b hb
    rw [List.mem_singleton.mp hb]
    exact next_is_new F
  · intro p hp hI
    exact absurd (Heap.lt_size (N p hp).1) ((List.mem_singleton.mp hI) ▸ Nat.lt_irrefl _)
  · rintro i v m₁ news₁ hh' tk' own hin ⟨t, rfl⟩ hJ₁ hoff hown hget hfp hst F₁ N₁
    obtain ⟨oI, hoI⟩ : ∃ oI, hh'.get? s.heap.objs.size = some oI := ⟨_, hst⟩
    have hIown : (s.heap.objs.size, oI) ∈ own := hfp _ (.head _) (next_is_new F) oI hoI
    have hnI : ∀ p ∈ news₁, p.1 ≠ s.heap.objs.size := fun p hp e => hoff p hp (e ▸ .head _)
    have N₂ : News h₀ env.locals hh' ((s.heap.objs.size, oI) :: news₁) := fun p hp => by
      rcases List.mem_cons.mp hp with rfl | hp
      · exact N₁ _ (List.mem_append_left _ hIown)
      · exact N₁ _ (List.mem_append_right _ hp)
    have ht := turn i t m₁ news₁ hh' tk' s.heap.objs.size oI hin hnI hJ₁ F₁ N₂
    rw [show a₀ + (i : Int) * 1 = a₀ + (i : Int) by rw [Int.mul_one]]
    refine wpAny_mono ht (fun _ s₃ h₃ => wpAny_mono h₃ (fun f s₂ p => ?_) fun _ _ e => e) fun _ _ e => e
    have fin : GrowEnd h₀ env.locals s.heap.objs.size oI (J (i + 1)) { s with heap := hh', toks := tk' } s₂ → LoopStepU h₀ env.locals [s.heap.objs.size] own (J (i + 1)) { s with heap := hh', toks := tk' } .next s₂ := by
      rintro ⟨h', tk, m', nx, e, F', N', hn, hm⟩
      refine ⟨rfl, h', tk, m', nx, e, F', fun p hp => ?_, fun p hp hq => hn p hp (List.mem_singleton.mp hq), hm⟩
      rcases List.mem_append.mp hp with h | h
      · have hg : hh'.get? p.1 = some p.2 := hget p h
        have h2 := List.mem_singleton.mp (hown p h)
        have : p = (s.heap.objs.size, oI) := by
          rw [h2, hoI] at hg
          exact Prod.ext h2 (Option.some.inj hg).symm
        rw [this]
        exact N' _ (.head _)
      · exact N' p (.tail _ h)
    cases f with
    | ret v => exact .ret p
    | brk => exact .brk p
    | next => exact .next (fin p)
    | cont => exact .cont (fin p)
  · rintro h' tk m' news' F' N' _ hJ
    exact done m' news' h' tk hJ F' N'
theorem iter_growR {r : Addr} {a₀ b₀ : Int} {t₀ u₀ v₀ : Tok} {n : Nat} {m₀ : Str → Option Value} {news : List (Addr × Obj)} (J : Nat → (Str → Option Value) → List (Addr × Obj) → Prop)
    (hh : A.handled = none) (hr : IsRange s.heap r a₀ b₀ 1 t₀ u₀ v₀) (hsmall : Builtin.Range.small a₀ b₀ 1 = true) (hn : Builtin.Range.rangeSize a₀ b₀ 1 = (n : Int)) (F : Fr h₀ env.locals s.heap m₀) (N : News h₀ env.locals s.heap news) (hj : J 0 m₀ news)
    (turn : ∀ (i : Nat) t m₁ news₁ h tk I oI, i < n → (∀ p ∈ news₁, p.1 ≠ I) → J i m₁ news₁ → Fr h₀ env.locals h (fun y => if y = x then some (.int (a₀ + (i : Int)) t) else m₁ y) → News h₀ env.locals h ((I, oI) :: news₁) →
      wpAny (model prog w) A (execs body env) (GrowPost h₀ env.locals I oI (J (i + 1)) { s with heap := h, toks := tk } Q) E { s with heap := h, toks := tk })
    (done : ∀ m₁ news₁ h tk, J n m₁ news₁ → Fr h₀ env.locals h m₁ → News h₀ env.locals h news₁ → Q .next { s with heap := h, toks := tk }) :
    wpAny (model prog w) A (pyIter (.ref r)) (fun it s₂ => LoopAtV prog w A h₀ env x body Q E it s₂) E s := by
  refine wpAny_pyIter_range hr hsmall ?_
  have W : Walks prog w A s.heap.objs.size [s.heap.objs.size] [s.heap.objs.size] n (fun i v => i < n ∧ ∃ t, v = .int (a₀ + i * 1) t)
      (fun i h => IsRangeIter h s.heap.objs.size (a₀ + (i : Nat) * 1) ((n : Int) - (i : Nat)) 1) := (Walks.range hh _ a₀ 1 n).bound
  refine ⟨_, _, _, n, _, _, m₀, news, J, rfl, W, ?_, ?_, ?_, (by show IsRangeIter _ _ _ _ _; rw [hn]; simpa using Heap.get?_push_size _ rfl), F.push _, (fun p hp => ⟨Heap.get?_push_of_some _ (N p hp).1, (N p hp).2⟩), hj, ?_, ?_⟩
  · intro hm
    exact absurd F.ns.lt ((List.mem_singleton.mp hm) ▸ Nat.lt_irrefl _)
  · intro b hb
    rw [List.mem_singleton.mp hb]
    exact next_is_new F
  · intro p hp hI
    exact absurd (Heap.lt_size (N p hp).1) ((List.mem_singleton.mp hI) ▸ Nat.lt_irrefl _)
  · rintro i v m₁ news₁ s₁ own ⟨hh', tk', rfl⟩ hin ⟨hi, t, rfl⟩ hJ₁ hoff hown hget hfp hst F₁ N₁
    obtain ⟨oI, hoI⟩ : ∃ oI, hh'.get? s.heap.objs.size = some oI := ⟨_, hst⟩
    have hIown : (s.heap.objs.size, oI) ∈ own := hfp _ (.head _) (next_is_new F) oI hoI
    have hnI : ∀ p ∈ news₁, p.1 ≠ s.heap.objs.size := fun p hp e => hoff p hp (e ▸ .head _)
    have N₂ : News h₀ env.locals hh' ((s.heap.objs.size, oI) :: news₁) := fun p hp => by
      rcases List.mem_cons.mp hp with rfl | hp
      · exact N₁ _ (List.mem_append_left _ hIown)
      · exact N₁ _ (List.mem_append_right _ hp)
    rw [show a₀ + (i : Int) * 1 = a₀ + (i : Int) by rw [Int.mul_one]] at F₁
    refine wpAny_mono (turn i t m₁ news₁ hh' tk' s.heap.objs.size oI hi hnI hJ₁ F₁ N₂) (fun f s₂ p => ?_) fun _ _ e => e
    have fin : GrowEnd h₀ env.locals s.heap.objs.size oI (J (i + 1)) { s with heap := hh', toks := tk' } s₂ → LoopStepU h₀ env.locals [s.heap.objs.size] own (J (i + 1)) { s with heap := hh', toks := tk' } .next s₂ := by
      rintro ⟨h', tk, m', nx, e, F', N', hn, hm⟩
      refine ⟨rfl, h', tk, m', nx, e, F', fun p hp => ?_, fun p hp hq => hn p hp (List.mem_singleton.mp hq), hm⟩
      rcases List.mem_append.mp hp with h | h
      · have hg : hh'.get? p.1 = some p.2 := hget p h
        have h2 := List.mem_singleton.mp (hown p h)
        have : p = (s.heap.objs.size, oI) := by
          rw [h2, hoI] at hg
          exact Prod.ext h2 (Option.some.inj hg).symm
        rw [this]
        exact N' _ (.head _)
      · exact N' p (.tail _ h)
    cases f with
    | ret v => exact .ret p
    | brk => exact .brk p
    | next => exact .next (fin p)
    | cont => exact .cont (fin p)
  · rintro h' tk m' news' F' N' _ hJ
    exact done m' news' h' tk hJ F' N'
end
end Mine
local macro_rules | `(tactic| k_ne) => `(tactic| (refine neN ?_; (try dsimp only); first | with_reducible assumption | exact Ne.symm (by with_reducible assumption) | exact And.left (by with_reducible assumption) | exact Ne.symm (And.left (by with_reducible assumption)) | exact Nat.ne_of_lt (And.left (by with_reducible assumption)) | exact Nat.ne_of_gt (And.left (by with_reducible assumption)) | exact And.left (And.right (by with_reducible assumption)) | exact Ne.symm (And.left (And.right (by with_reducible assumption))) | exact Nat.ne_of_lt (And.left (And.right (by with_reducible assumption))) | exact Nat.ne_of_gt (And.left (And.right (by with_reducible assumption))) | exact And.left (And.right (And.right (by with_reducible assumption))) | exact Ne.symm (And.left (And.right (And.right (by with_reducible assumption)))) | exact Nat.ne_of_lt (And.left (And.right (And.right (by with_reducible assumption)))) | exact Nat.ne_of_gt (And.left (And.right (And.right (by with_reducible assumption)))) | exact And.left (And.right (And.right (And.right (by with_reducible assumption)))) | exact Ne.symm (And.left (And.right (And.right (And.right (by with_reducible assumption))))) | exact Nat.ne_of_lt (And.left (And.right (And.right (And.right (by with_reducible assumption))))) | exact Nat.ne_of_gt (And.left (And.right (And.right (And.right (by with_reducible assumption))))) | exact And.left (And.right (And.right (And.right (And.right (by with_reducible assumption))))) | exact Ne.symm (And.left (And.right (And.right (And.right (And.right (by with_reducible assumption)))))) | exact Nat.ne_of_lt (And.left (And.right (And.right (And.right (And.right (by with_reducible assumption)))))) | exact Nat.ne_of_gt (And.left (And.right (And.right (And.right (And.right (by with_reducible assumption)))))) | exact And.left (And.right (And.right (And.right (And.right (And.right (by with_reducible assumption)))))) | exact Ne.symm (And.left (And.right (And.right (And.right (And.right (And.right (by with_reducible assumption))))))) | exact Nat.ne_of_lt (And.left (And.right (And.right (And.right (And.right (And.right (by with_reducible assumption))))))) | exact Nat.ne_of_gt (And.left (And.right (And.right (And.right (And.right (And.right (by with_reducible assumption))))))) | exact And.left (And.right (And.right (And.right (And.right (And.right (And.right (by with_reducible assumption))))))) | exact Ne.symm (And.left (And.right (And.right (And.right (And.right (And.right (And.right (by with_reducible assumption)))))))) | exact Nat.ne_of_lt (And.left (And.right (And.right (And.right (And.right (And.right (And.right (by with_reducible assumption)))))))) | exact Nat.ne_of_gt (And.left (And.right (And.right (And.right (And.right (And.right (And.right (by with_reducible assumption)))))))) | exact And.left (And.right (And.right (And.right (And.right (And.right (And.right (And.right (by with_reducible assumption)))))))) | exact Ne.symm (And.left (And.right (And.right (And.right (And.right (And.right (And.right (And.right (by with_reducible assumption))))))))) | exact Nat.ne_of_lt (And.left (And.right (And.right (And.right (And.right (And.right (And.right (And.right (by with_reducible assumption))))))))) | exact Nat.ne_of_gt (And.left (And.right (And.right (And.right (And.right (And.right (And.right (And.right (by with_reducible assumption))))))))) | exact And.left (And.right (And.right (And.right (And.right (And.right (And.right (And.right (And.right (by with_reducible assumption))))))))) | exact Ne.symm (And.left (And.right (And.right (And.right (And.right (And.right (And.right (And.right (And.right (by with_reducible assumption)))))))))) | exact Nat.ne_of_lt (And.left (And.right (And.right (And.right (And.right (And.right (And.right (And.right (And.right (by with_reducible assumption)))))))))) | exact Nat.ne_of_gt (And.left (And.right (And.right (And.right (And.right (And.right (And.right (And.right (And.right (by with_reducible assumption)))))))))) | exact And.left (And.right (And.right (And.right (And.right (And.right (And.right (And.right (And.right (And.right (by with_reducible assumption)))))))))) | exact Ne.symm (And.left (And.right (And.right (And.right (And.right (And.right (And.right (And.right (And.right (And.right (by with_reducible assumption))))))))))) | exact Nat.ne_of_lt (And.left (And.right (And.right (And.right (And.right (And.right (And.right (And.right (And.right (And.right (by with_reducible assumption))))))))))) | exact Nat.ne_of_gt (And.left (And.right (And.right (And.right (And.right (And.right (And.right (And.right (And.right (And.right (by with_reducible assumption)))))))))))))
namespace Mine
local macro_rules | `(tactic| k_room) => `(tactic| ktr_room)
local macro_rules | `(tactic| k_units) => `(tactic| ktr_units)
theorem not_nil_len {l : List Int} (h : decide (l = []) = false) : (l.length : Int) ≠ 0 := by
  intro e
  have : l = [] := List.length_eq_zero_iff.mp (by omega)
  rw [this] at h
  cases h
local macro_rules | `(tactic| walk_at "call builtin:list.pop") => `(tactic| (k_here; (with_reducible show wpAny _ _ (call (Value.builtin _) [Value.ref _, Value.int _ _]) _ _ _); k_dflt (refine' my_popAt ?F ?N ?U ?i ?a ?b ?z ?_; (case F => k_asm); (case N => k_asm); (case U => k_upd); (case i => with_reducible assumption); (case a => exact Int.fmod_nonneg (by omega) (by omega)); (case b => exact Int.fmod_lt_of_pos _ (by omega)); (case z => omega)); (intro h' t' F' N' hI'; (try dsimp only [List.nil_append, List.cons_append] at N'))))
abbrev OrdInv (left order : List Int) (cell : Int) : Prop := (∀ x ∈ left, 0 ≤ x ∧ x < 4) ∧ (∀ x ∈ order, 0 ≤ x ∧ x < 4) ∧ left.length + order.length = 4 ∧ 0 ≤ cell
theorem ord_start {cell : Int} (h : 0 ≤ cell) : OrdInv [0, 1, 2, 3] [] cell := by
  refine ⟨by decide, by decide, rfl, h⟩
theorem ord_turn {left order : List Int} {cell : Int} (hl : ∀ x ∈ left, 0 ≤ x ∧ x < 4) (ho : ∀ x ∈ order, 0 ≤ x ∧ x < 4) (hn : left.length + order.length = 4) (hc : 0 ≤ cell) (h0 : (left.length : Int) ≠ 0) :
    OrdInv (left.eraseIdx (cell.fmod (left.length : Int)).toNat) (order ++ [left.getD (cell.fmod (left.length : Int)).toNat 0]) (cell.fdiv (left.length : Int)) := by
  have a := Int.fmod_nonneg hc (b := (left.length : Int)) (by omega)
  have b := Int.fmod_lt_of_pos cell (b := (left.length : Int)) (by omega)
  have c : (cell.fmod (left.length : Int)).toNat < left.length := by omega
  refine ⟨fun x hx => hl x (List.mem_of_mem_eraseIdx hx), fun x hx => ?_, ?_, Int.fdiv_nonneg hc (by omega)⟩
  · rcases List.mem_append.mp hx with h | h
    · exact ho x h
    · rw [List.mem_singleton.mp h, List.getD_eq_getElem?_getD, List.getElem?_eq_getElem c]
      exact hl _ (List.getElem_mem c)
  · rw [List.length_eraseIdx, if_pos c, List.length_append]
    simp
    omega
theorem ord_less {left : List Int} {cell : Int} (hc : 0 ≤ cell) (h0 : (left.length : Int) ≠ 0) : (left.eraseIdx (cell.fmod (left.length : Int)).toNat).length < left.length := by
  have a := Int.fmod_nonneg hc (b := (left.length : Int)) (by omega)
  have b := Int.fmod_lt_of_pos cell (b := (left.length : Int)) (by omega)
  have c : (cell.fmod (left.length : Int)).toNat < left.length := by omega
  rw [List.length_eraseIdx, if_pos c]
  omega
theorem ord_ret {h₀ h' : Heap} {L l l1 l2 : Addr} {m : Str → Option Value} {news : List (Addr × Obj)} {s : Shared} {Q : Value → Shared → Prop} {o1 o2 : Obj} {us : List Value} {n tk' : Nat} {left xs : List Int}
    (hret : ∀ (l : Addr) (us : List Value) (xs : List Int) (n : Nat) (h' : Heap) (tk' : Nat), Fr h₀ L h' m → News h₀ L h' ((l, listOf us.toArray n) :: news) → IntsAre us xs → (xs.length = 4 ∧ ∀ x ∈ xs, 0 ≤ x ∧ x < 4) → (∀ p ∈ news, p.1 < l) → Q (.ref l) { s with heap := h', toks := tk' })
    (F : Fr h₀ L h' m) (N : News h₀ L h' ((l2, o2) :: (l, listOf us.toArray n) :: (l1, o1) :: news)) (hi : IntsAre us xs) (ho : ∀ x ∈ xs, 0 ≤ x ∧ x < 4) (hn : left.length + xs.length = 4) (h0 : decide (left = []) = true) (hl : l1 < l ∧ AllLt l news) :
    Q (.ref l) { s with heap := h', toks := tk' } := by
  refine hret l us xs n h' tk' F (fun p hp => N p ?_) hi ⟨?_, ho⟩ fun p hp => kst_ltOf hl.2 p hp
  · rcases List.mem_cons.mp hp with rfl | hp
    · exact .tail _ (.head _)
    · exact .tail _ (.tail _ (.tail _ hp))
  · rw [of_decide_eq_true h0] at hn
    simpa using hn
set_option maxRecDepth 100000 in
set_option maxHeartbeats 8000000 in
theorem order_c {w mean mg mb} (cell : Int) (t1 : Tok) : TellL w mean mg mb 10 80 249 (0 ≤ cell ∧ cell < 24) [.int cell t1] (fun xs => xs.length = 4 ∧ ∀ x ∈ xs, 0 ≤ x ∧ x < 4) := by
  unfold TellL
  w_top off
  k_fill
  intro news dp un gd cn cs a ccd cl outer A₀ base h₀ L m s Q E B F X N T hk hp hd hu hret
  obtain ⟨hp1, hp2⟩ := hp
  have hI0 := ints_nil0
  refine wpAny_call ?_
  k_dflt cell_enter
  k_with "exec While Compare cons nil" => k_while (fun script left order cell => (∀ x ∈ left, 0 ≤ x ∧ x < 4) ∧ (∀ x ∈ order, 0 ≤ x ∧ x < 4) ∧ left.length + order.length = 4 ∧ 0 ≤ cell) (fun script left order cell => left.length) "left" "order" "cell"
  k_with "state" => (first | exact ord_start (by assumption) | exact ord_turn (by assumption) (by assumption) (by assumption) (by assumption) (by assumption))
  k_with "measure" => exact ord_less (by assumption) (by assumption)
  k_steps
  all_goals first | (exfalso; exact not_nil_len (by assumption) (by assumption)) | exact ord_ret hret (by assumption) (by assumption) (by assumption) (by assumption) (by assumption) (by assumption) (by assumption)
end Mine
namespace Mine
/-- blanks, a tab, blanks, f tabs, an x -/
def WsText (a c f : Nat) : List Nat := List.replicate a 32 ++ (9 :: (List.replicate c 32 ++ (List.replicate f 9 ++ [120])))
def WInv (a c f i : Nat) (b : Int) (k : Nat) : Prop := (i ≤ a ∧ b = i ∧ k = 0) ∨ (a < i ∧ i ≤ a + c + 1 ∧ b = (i : Int) - a - 1 ∧ k = a + 1) ∨ (f = 1 ∧ i = a + c + 2 ∧ b = 0 ∧ k = max (a + 1) (c + 1))
theorem ws_e1 {a i : Nat} (h1 : ¬ i < a) (hd : i - a = 0) : i = a := by omega
theorem ws_e2 {a c i d : Nat} (hd : i - a = d + 1) (h2 : d < c) : a < i ∧ i < a + c + 1 := by omega
theorem ws_e3 {a c f i d : Nat} (hd : i - a = d + 1) (h2 : ¬ d < c) (h3 : d - c < f) : a + c + 1 ≤ i ∧ i < a + c + 1 + f := by omega
theorem ws_e4 {a c f i d : Nat} (hd : i - a = d + 1) (h2 : ¬ d < c) (h3 : ¬ d - c < f) (h4 : d - c - f = 0) : i = a + c + 1 + f := by omega
theorem ws_at {a c f i ch : Nat} (h : (WsText a c f)[i]? = some ch) :
    (i < a ∧ ch = 32) ∨ (i = a ∧ ch = 9) ∨ (a < i ∧ i < a + c + 1 ∧ ch = 32) ∨ (a + c + 1 ≤ i ∧ i < a + c + 1 + f ∧ ch = 9) ∨ (i = a + c + 1 + f ∧ ch = 120) := by
  unfold WsText at h
  rw [List.getElem?_append, List.length_replicate] at h
  by_cases h1 : i < a
  · rw [if_pos h1, List.getElem?_replicate, if_pos h1] at h
    exact .inl ⟨h1, (Option.some.inj h).symm⟩
  · rw [if_neg h1] at h
    cases hd : i - a with
    | zero =>
      rw [hd, List.getElem?_cons_zero] at h
      exact .inr (.inl ⟨ws_e1 h1 hd, (Option.some.inj h).symm⟩)
    | succ d =>
      rw [hd, List.getElem?_cons_succ, List.getElem?_append, List.length_replicate] at h
      by_cases h2 : d < c
      · rw [if_pos h2, List.getElem?_replicate, if_pos h2] at h
        exact .inr (.inr (.inl ⟨(ws_e2 hd h2).1, (ws_e2 hd h2).2, (Option.some.inj h).symm⟩))
      · rw [if_neg h2, List.getElem?_append, List.length_replicate] at h
        by_cases h3 : d - c < f
        · rw [if_pos h3, List.getElem?_replicate, if_pos h3] at h
          exact .inr (.inr (.inr (.inl ⟨(ws_e3 hd h2 h3).1, (ws_e3 hd h2 h3).2, (Option.some.inj h).symm⟩)))
        · rw [if_neg h3] at h
          cases hd2 : d - c - f with
          | zero =>
            rw [hd2, List.getElem?_cons_zero] at h
            exact .inr (.inr (.inr (.inr ⟨ws_e4 hd h2 h3 hd2, (Option.some.inj h).symm⟩)))
          | succ e => rw [hd2, List.getElem?_cons_succ, List.getElem?_nil] at h; cases h
def WsAt (a c f i ch : Nat) : Prop := (i < a ∧ ch = 32) ∨ (i = a ∧ ch = 9) ∨ (a < i ∧ i < a + c + 1 ∧ ch = 32) ∨ (a + c + 1 ≤ i ∧ i < a + c + 1 + f ∧ ch = 9) ∨ (i = a + c + 1 + f ∧ ch = 120)
theorem ws_S {a c f i k : Nat} {b : Int} (hf : f ≤ 1) (hw : WsAt a c f i 32) (g : WInv a c f i b k) : WInv a c f (i + 1) (b + 1) k := by
  rcases hw with ⟨h, _⟩ | ⟨_, h⟩ | ⟨h, h', _⟩ | ⟨_, _, h⟩ | ⟨_, h⟩
  · rcases g with ⟨q1, q2, q3⟩ | ⟨q1, q2, q3, q4⟩ | ⟨q1, q2, q3, q4⟩
    · exact .inl ⟨by omega, by omega, q3⟩
    · omega
    · omega
  · omega
  · rcases g with ⟨q1, q2, q3⟩ | ⟨q1, q2, q3, q4⟩ | ⟨q1, q2, q3, q4⟩
    · omega
    · exact .inr (.inl ⟨by omega, by omega, by omega, q4⟩)
    · omega
  · omega
  · omega
theorem ws_T {a c f i k : Nat} {b : Int} (hf : f ≤ 1) (hw : WsAt a c f i 9) (g : WInv a c f i b k) : 0 ≤ b ∧ b ≤ a + c ∧ k ≤ a + 1 ∧ WInv a c f (i + 1) 0 (max k (b.toNat + 1)) := by
  rcases hw with ⟨_, h⟩ | ⟨h, _⟩ | ⟨_, _, h⟩ | ⟨h, h', _⟩ | ⟨_, h⟩
  · omega
  · rcases g with ⟨q1, q2, q3⟩ | ⟨q1, q2, q3, q4⟩ | ⟨q1, q2, q3, q4⟩
    · refine ⟨by omega, by omega, by omega, .inr (.inl ⟨by omega, by omega, by omega, by omega⟩)⟩
    · omega
    · omega
  · omega
  · rcases g with ⟨q1, q2, q3⟩ | ⟨q1, q2, q3, q4⟩ | ⟨q1, q2, q3, q4⟩
    · omega
    · refine ⟨by omega, by omega, by omega, .inr (.inr ⟨by omega, by omega, rfl, by omega⟩)⟩
    · omega
  · omega
theorem ws_X {a c f i k : Nat} {b : Int} (hf : f ≤ 1) (hw : WsAt a c f i 120) (g : WInv a c f i b k) : 0 ≤ b ∧ max ((k : Int) - 1) b = max (a : Int) c ∧ k ≤ a + c + 1 ∧ 0 < k := by
  rcases hw with ⟨_, h⟩ | ⟨_, h⟩ | ⟨_, _, h⟩ | ⟨_, _, h⟩ | ⟨h, _⟩
  · omega
  · omega
  · omega
  · omega
  · rcases g with ⟨q1, q2, q3⟩ | ⟨q1, q2, q3, q4⟩ | ⟨q1, q2, q3, q4⟩
    · omega
    · refine ⟨by omega, by omega, by omega, by omega⟩
    · refine ⟨by omega, by omega, by omega, by omega⟩
def WsJ (a c f : Nat) (P : Addr → Prop) (rest : List (Addr × Obj)) (m₁ : Str → Option Value) (x xb xn xt xc : Str) (i : Nat) (m : Str → Option Value) (nx : List (Addr × Obj)) : Prop :=
  ∃ (l : Addr) (us : List Value) (xs : List Int) (n : Nat) (b kn kt : Int) (tb tn tt : Tok) (uc : Option Value), nx = (l, listOf us.toArray n) :: rest ∧ IntsAre us xs ∧ WInv a c f i b xs.length ∧ 0 ≤ kn ∧ kn ≤ i ∧ 0 ≤ kt ∧ kt ≤ i ∧ P l ∧
    m = fun y => if y = xb then some (.int b tb) else if y = xn then some (.int kn tn) else if y = xt then some (.int kt tt) else if y = xc then some (.ref l) else if y = x then uc else m₁ y
section
variable {prog : Program} {w : World} {A : Around} {E : Value → Shared → Prop} {s : Shared} {env : Env} {h₀ : Heap} {body : List Stmt} {Q : Flow → Shared → Prop}
theorem ws_loop {a c f : Nat} {X : Str} {tX : Tok} {x xb xn xt xc : Str} {m₁ : Str → Option Value} {l0 : Addr} {n0 : Nat} {tb tn tt : Tok} {rest : List (Addr × Obj)} (P : Addr → Prop)
    (hX : tl X = WsText a c f) (hf : f ≤ 1) (hh : A.handled = none) (F : Fr h₀ env.locals s.heap m₁) (N : News h₀ env.locals s.heap ((l0, listOf #[] n0) :: rest)) (hP : P l0)
    (hb : m₁ xb = some (.int 0 tb)) (hn : m₁ xn = some (.int 0 tn)) (ht : m₁ xt = some (.int 0 tt)) (hc : m₁ xc = some (.ref l0))
    (turnS : ∀ (i : Nat) t l us xs n (b kn kt : Int) tb tn tt uc h tk I oI, IntsAre us xs → WInv a c f (i + 1) (b + 1) xs.length → 0 ≤ kn → kn ≤ (i : Int) → 0 ≤ kt → kt ≤ (i : Int) → P l → @Ne Nat l I → (∀ p ∈ rest, p.1 ≠ I) →
      Fr h₀ env.locals h (fun y => if y = x then some (.str ⟨#[32]⟩ t) else if y = xb then some (.int b tb) else if y = xn then some (.int kn tn) else if y = xt then some (.int kt tt) else if y = xc then some (.ref l) else if y = x then uc else m₁ y) →
      News h₀ env.locals h ((I, oI) :: (l, listOf us.toArray n) :: rest) →
      wpAny (model prog w) A (execs body env) (GrowPost h₀ env.locals I oI (WsJ a c f P rest m₁ x xb xn xt xc (i + 1)) { s with heap := h, toks := tk } Q) E { s with heap := h, toks := tk })
    (turnT : ∀ (i : Nat) t l us xs n (b kn kt : Int) tb tn tt uc h tk I oI, IntsAre us xs → 0 ≤ b → b ≤ a + c → xs.length ≤ a + 1 → WInv a c f (i + 1) 0 (max xs.length (b.toNat + 1)) → 0 ≤ kn → kn ≤ (i : Int) → 0 ≤ kt → kt ≤ (i : Int) → P l → @Ne Nat l I → (∀ p ∈ rest, p.1 ≠ I) →
      Fr h₀ env.locals h (fun y => if y = x then some (.str ⟨#[9]⟩ t) else if y = xb then some (.int b tb) else if y = xn then some (.int kn tn) else if y = xt then some (.int kt tt) else if y = xc then some (.ref l) else if y = x then uc else m₁ y) →
      News h₀ env.locals h ((I, oI) :: (l, listOf us.toArray n) :: rest) →
      wpAny (model prog w) A (execs body env) (GrowPost h₀ env.locals I oI (WsJ a c f P rest m₁ x xb xn xt xc (i + 1)) { s with heap := h, toks := tk } Q) E { s with heap := h, toks := tk })
    (turnX : ∀ (i : Nat) t l us xs n (b kn kt : Int) tb tn tt uc h tk I oI, IntsAre us xs → 0 ≤ b → max ((xs.length : Int) - 1) b = max (a : Int) c → xs.length ≤ a + c + 1 → 0 < xs.length → 0 ≤ kn → kn ≤ (i : Int) → 0 ≤ kt → kt ≤ (i : Int) → P l → @Ne Nat l I → (∀ p ∈ rest, p.1 ≠ I) →
      Fr h₀ env.locals h (fun y => if y = x then some (.str ⟨#[120]⟩ t) else if y = xb then some (.int b tb) else if y = xn then some (.int kn tn) else if y = xt then some (.int kt tt) else if y = xc then some (.ref l) else if y = x then uc else m₁ y) →
      News h₀ env.locals h ((I, oI) :: (l, listOf us.toArray n) :: rest) →
      wpAny (model prog w) A (execs body env) (GrowPost h₀ env.locals I oI (WsJ a c f P rest m₁ x xb xn xt xc (i + 1)) { s with heap := h, toks := tk } Q) E { s with heap := h, toks := tk }) :
    wpAny (model prog w) A (pyIter (.str X tX)) (fun it s₂ => LoopAtV prog w A h₀ env x body Q E it s₂) E s := by
  have hsz : X.cps.size = a + c + 2 + f := by
    have : X.cps.size = (tl X).length := by simp [tl]
    rw [this, hX]; simp [WsText]; omega
  refine iter_growS (WsJ a c f P rest m₁ x xb xn xt xc) hh F N ⟨l0, [], [], n0, 0, 0, 0, tb, tn, tt, m₁ x, rfl, .nil, .inl ⟨Nat.zero_le _, rfl, rfl⟩, by decide, by decide, by decide, by decide, hP, ?_⟩ ?_ ?_
  · funext y
    by_cases e1 : y = xb
    · subst e1; simp [hb]
    · by_cases e2 : y = xn
      · subst e2; simp [e1, hn]
      · by_cases e3 : y = xt
        · subst e3; simp [e1, e2, ht]
        · by_cases e4 : y = xc
          · subst e4; simp [e1, e2, e3, hc]
          · by_cases e5 : y = x
            · subst e5; simp [e1, e2, e3, e4]
            · simp [e1, e2, e3, e4, e5]
  · rintro i ch t m news₁ h tk I oI hch hI ⟨l, us, xs, n, b, kn, kt, tb, tn, tt, uc, rfl, g1, g2, g3, g4, g5, g6, g7, rfl⟩ F1 N1
    have hne := hI _ (.head _)
    have hne2 : ∀ p ∈ rest, p.1 ≠ I := fun p hp => hI p (.tail _ hp)
    have hch' : (WsText a c f)[i]? = some ch := by rw [← hX]; simpa [tl] using hch
    have hw : WsAt a c f i ch := ws_at hch'
    have cS : ch = 32 → WInv a c f (i + 1) (b + 1) xs.length := by intro e; subst e; exact ws_S hf hw g2
    have cT : ch = 9 → 0 ≤ b ∧ b ≤ a + c ∧ xs.length ≤ a + 1 ∧ WInv a c f (i + 1) 0 (max xs.length (b.toNat + 1)) := by intro e; subst e; exact ws_T hf hw g2
    have cX : ch = 120 → 0 ≤ b ∧ max ((xs.length : Int) - 1) b = max (a : Int) c ∧ xs.length ≤ a + c + 1 ∧ 0 < xs.length := by intro e; subst e; exact ws_X hf hw g2
    have h3 : ch = 32 ∨ ch = 9 ∨ ch = 120 := by
      rcases hw with ⟨_, h⟩ | ⟨_, h⟩ | ⟨_, _, h⟩ | ⟨_, _, h⟩ | ⟨_, h⟩ <;> omega
    rcases h3 with e | e | e
    · have := cS e
      subst e
      exact turnS i t l us xs n b kn kt tb tn tt uc h tk I oI g1 this g3 g4 g5 g6 g7 hne hne2 F1 N1
    · obtain ⟨q1, q2, q3, q4⟩ := cT e
      subst e
      exact turnT i t l us xs n b kn kt tb tn tt uc h tk I oI g1 q1 q2 q3 q4 g3 g4 g5 g6 g7 hne hne2 F1 N1
    · obtain ⟨q1, q2, q3, q4⟩ := cX e
      subst e
      exact turnX i t l us xs n b kn kt tb tn tt uc h tk I oI g1 q1 q2 q3 q4 g3 g4 g5 g6 g7 hne hne2 F1 N1
  · rintro m news₁ h tk ⟨l, us, xs, n, b, kn, kt, tb, tn, tt, uc, rfl, g1, g2, g3, g4, g5, g6, g7, rfl⟩ F1 N1
    exfalso
    rw [hsz] at g2
    rcases g2 with ⟨q1, q2, q3⟩ | ⟨q1, q2, q3, q4⟩ | ⟨q1, q2, q3, q4⟩ <;> omega
end
/-- a turn's end -/
theorem ws_end {h₀ h' : Heap} {L I l : Addr} {oI : Obj} {a c f : Nat} {P : Addr → Prop} {rest nx : List (Addr × Obj)} {m₁ m' : Str → Option Value} {x xb xn xt xc : Str} {i tk : Nat} {s₁ : Shared} {Q : Flow → Shared → Prop} {us : List Value} {xs : List Int} {n : Nat} {b kn kt : Int} {tb tn tt : Tok}
    (F : Fr h₀ L h' m') (N : News h₀ L h' nx) (e1 : m' xb = some (.int b tb)) (e2 : m' xn = some (.int kn tn)) (e3 : m' xt = some (.int kt tt)) (e4 : m' xc = some (.ref l)) (e5 : ∀ y, y ≠ xb → y ≠ xn → y ≠ xt → y ≠ xc → y ≠ x → m' y = m₁ y)
    (hs : ∀ p ∈ (I, oI) :: (l, listOf us.toArray n) :: rest, p ∈ nx) (g1 : IntsAre us xs) (g2 : WInv a c f (i + 1) b xs.length) (g3 : 0 ≤ kn) (g4 : kn ≤ (i : Int) + 1) (g5 : 0 ≤ kt) (g6 : kt ≤ (i : Int) + 1) (g7 : P l) (hne : @Ne Nat l I) (hne2 : ∀ p ∈ rest, p.1 ≠ I) :
    GrowPost h₀ L I oI (WsJ a c f P rest m₁ x xb xn xt xc (i + 1)) s₁ Q Flow.next { s₁ with heap := h', toks := tk } := by
  refine GrowEnd.intro (nx := (l, listOf us.toArray n) :: rest) F (fun p hp => N p (hs p hp)) (fun p hp => ?_) ⟨l, us, xs, n, b, kn, kt, tb, tn, tt, m' x, rfl, g1, g2, g3, by omega, g5, by omega, g7, ?_⟩
  · rcases List.mem_cons.mp hp with rfl | hp
    · exact hne
    · exact hne2 p hp
  · funext y
    by_cases q1 : y = xb
    · subst q1; simp [e1]
    · by_cases q2 : y = xn
      · subst q2; simp [q1, e2]
      · by_cases q3 : y = xt
        · subst q3; simp [q1, q2, e3]
        · by_cases q4 : y = xc
          · subst q4; simp [q1, q2, q3, e4]
          · by_cases q5 : y = x
            · subst q5; simp [q1, q2, q3, q4]
            · simp [q1, q2, q3, q4, q5, e5 y q1 q2 q3 q4 q5]
end Mine
namespace Mine
theorem ws_text (a c f : Nat) : tl (R 32 a ++ Str.ofString "\t" ++ R 32 c ++ R 9 f ++ Str.ofString "x") = WsText a c f := by
  simp only [tl_app, tl_R, tl_t, tl_x, WsText, List.append_assoc, List.singleton_append, List.cons_append, List.nil_append]
end Mine
namespace Mine
local macro_rules | `(tactic| k_room) => `(tactic| ktr_room)
local macro_rules | `(tactic| k_units) => `(tactic| ktr_units)
local macro_rules | `(tactic| walk_at "binaryOp Mult str int") => `(tactic| (k_here; (with_reducible show wpAny _ _ (binaryOp Operator.Mult (Value.str _ _) (Value.int _ _)) _ _ _); first
  | (refine mulV 32 (by decide) (getD_z _ _) (by omega) (by omega) ?_; intro _ _)
  | (refine mulV 32 (by decide) (getD_o _ _) (by omega) (by omega) ?_; intro _ _)
  | (refine mulV 9 (by decide) rfl (by omega) (by omega) ?_; intro _ _)))
local macro_rules | `(tactic| walk_at "binaryOp Add str str") => `(tactic| (k_here; (with_reducible show wpAny _ _ (binaryOp Operator.Add (Value.str _ _) (Value.str _ _)) _ _ _); (refine addR (by simp only [PySem.Str.length_append, R_len, l_x, l_t, l_b]; omega) ?_); intro _ _))
theorem my_tupleOf {prog : Program} {w : World} {A : Around} {E : Value → Shared → Prop} {s : Shared} {h₀ : Heap} {L l : Addr} {m : Str → Option Value} {news : List (Addr × Obj)} {us : List Value} {xs : List Int} {Q : Value → Shared → Prop} (F : Fr h₀ L s.heap m) (N : News h₀ L s.heap news) (hl : s.heap.IsList l us.toArray) (hi : IntsAre us xs) (hz : xs.length ≤ 16384)
    (h : ∀ D h', Fr h₀ L h' m → News h₀ L h' ((D, ({ cls := .type "tuple", data := .seq us.toArray } : Obj)) :: news) → (∀ p ∈ news, p.1 < D) → Q (.ref D) { s with heap := h' }) : wpAny (model prog w) A (call (.type "tuple") [.ref l]) Q E s :=
  kde_tupleOf F N hl (by rw [List.size_toArray, hi.length]; exact hz) rfl h
local macro_rules | `(tactic| walk_at "call type:tuple") => `(tactic| (k_here; (with_reducible show wpAny _ _ (call (Value.type _) [Value.ref _]) _ _ _); k_dflt (refine' my_tupleOf ?k1 ?k2 ?k3 ?k4 ?k5 ?_; (case k1 => k_asm); (case k2 => k_asm); (case k3 => exact News.isList (by k_asm) (by k_mem)); (case k4 => with_reducible assumption); (case k5 => omega); k_whole); intro D' h' F' N' l1; (try k_lt l1); (try k_sweep)))
theorem my_lenT {prog : Program} {w : World} {A : Around} {E : Value → Shared → Prop} {s : Shared} {l : Addr} {us : List Value} {xs : List Int} {Q : Value → Shared → Prop} (hl : IsTup s.heap l us.toArray) (hi : IntsAre us xs) (hz : xs.length ≤ 16384)
    (h : Q (.int (xs.length : Int) (s.toks + 1)) { s with toks := s.toks + 1 + 1 }) : wpAny (model prog w) A (call (.builtin "len") [.ref l]) Q E s :=
  kun_lenT hl (by rw [List.size_toArray, hi.length]) (by omega) h
local macro_rules | `(tactic| walk_at "call builtin:len") => `(tactic| (k_here; (with_reducible show wpAny _ _ (call (Value.builtin "len") [Value.ref _]) _ _ _); k_dflt (refine' my_lenT ?k1 ?k2 ?k3 ?_; (case k1 => exact News.isTup (by k_asm) (by k_mem)); (case k2 => with_reducible assumption); (case k3 => omega); k_whole)))
theorem ws_len2 {a c f i : Nat} {xs : List Int} {b v : Int} (h : ¬ (xs.length : Int) ≤ b) (h0 : 0 ≤ b) (g : WInv a c f i 0 (max xs.length (b.toNat + 1))) : WInv a c f i 0 (xs.set b.toNat v).length := by
  rw [List.length_set, show xs.length = max xs.length (b.toNat + 1) by omega]
  exact g
theorem ws_len1 {a c f i : Nat} {xs : List Int} {b v : Int} (h : (xs.length : Int) ≤ b) (g : WInv a c f i 0 (max xs.length (b.toNat + 1))) : WInv a c f i 0 ((xs ++ (List.replicate (b - (xs.length : Int) + 1).toNat [0]).flatten).set b.toNat v).length := by
  rw [List.length_set, List.length_append, show (List.replicate (b - (xs.length : Int) + 1).toNat ([0] : List Int)).flatten.length = (b - (xs.length : Int) + 1).toNat by simp, show xs.length + (b - (xs.length : Int) + 1).toNat = max xs.length (b.toNat + 1) by omega]
  exact g
theorem sub5 {α : Type} {a b c d e : α} {r : List α} : ∀ p ∈ b :: a :: r, p ∈ a :: c :: d :: b :: e :: r := fun p hp => by
  rcases List.mem_cons.mp hp with rfl | hp
  · exact .tail _ (.tail _ (.tail _ (.head _)))
  · rcases List.mem_cons.mp hp with rfl | hp
    · exact .head _
    · exact .tail _ (.tail _ (.tail _ (.tail _ (.tail _ hp))))
theorem news_tail {h₀ h : Heap} {L : Addr} {p : Addr × Obj} {r : List (Addr × Obj)} (N : News h₀ L h (p :: r)) : News h₀ L h r := fun q hq => N q (.tail _ hq)
def P4 (d1 d2 d3 d4 : Addr) (news : List (Addr × Obj)) (l : Addr) : Prop := @LT.lt Nat _ d1 l ∧ @LT.lt Nat _ d2 l ∧ @LT.lt Nat _ d3 l ∧ @LT.lt Nat _ d4 l ∧ AllLt l news
theorem P4.of {d1 d2 d3 d4 e1 e2 I e4 l : Addr} {news : List (Addr × Obj)} (h : @LT.lt Nat _ e1 l ∧ @LT.lt Nat _ e2 l ∧ @LT.lt Nat _ I l ∧ @LT.lt Nat _ e4 l ∧ @LT.lt Nat _ d1 l ∧ @LT.lt Nat _ d2 l ∧ @LT.lt Nat _ d3 l ∧ @LT.lt Nat _ d4 l ∧ AllLt l news) : P4 d1 d2 d3 d4 news l ∧ @Ne Nat l I := by
  obtain ⟨h1, h2, h3, h4, h5, h6, h7, h8, h9⟩ := h
  exact ⟨⟨h5, h6, h7, h8, h9⟩, by omega⟩
theorem ws_fin {r0 r1 come free b n : Int} (hab : Hold ((r0 = come ∧ r1 = free) ∨ (r0 = free ∧ r1 = come))) (e0 : (r0.toNat : Int) = r0) (e1 : (r1.toNat : Int) = r1) (hm : max n b = max (r0.toNat : Int) (r1.toNat : Int)) : (if b > n then b else n) = max come free := by
  rw [e0, e1] at hm
  have q : (if b > n then b else n) = max n b := by
    split
    · rw [Int.max_eq_right (Int.le_of_lt (by assumption))]
    · rw [Int.max_eq_left (Int.not_lt.mp (by assumption))]
  rw [q, hm]
  rcases hab with ⟨rfl, rfl⟩ | ⟨rfl, rfl⟩
  · rfl
  · exact Int.max_comm _ _
theorem P4.mk {d1 d2 d3 d4 l : Addr} {news : List (Addr × Obj)} (h : @LT.lt Nat _ d1 l ∧ @LT.lt Nat _ d2 l ∧ @LT.lt Nat _ d3 l ∧ @LT.lt Nat _ d4 l ∧ AllLt l news) : P4 d1 d2 d3 d4 news l := h
local macro_rules | `(tactic| walk_at "exec If") => `(tactic| (k_here; (fail_if_success (with_reducible show wpAny _ _ _ (JQ _ _ _ _ _ _ _ _) _ _)); (rename Fr _ _ _ (fun y => if y = Str.ofString "runs" then _ else _) => jF'); (with_reducible rename News _ _ _ ((_, listOf #[Value.int _ _, Value.int _ _] _) :: _) => jN'); (with_unfolding_all refine' if_join jF' jN' ?_ ?_)))
set_option maxRecDepth 100000 in
set_option maxHeartbeats 8000000 in
theorem longest_c {w mean mg mb} (come free way : Int) (t1 t2 t3 : Tok) : Tell w mean mg mb 10 80 223 (Small come free way) [.int come t1, .int free t2, .int way t3] (fun t => .int (max come free) t) := by
  unfold Tell
  w_top off
  k_fill
  intro news dp un gd cn cs a ccd cl outer A₀ base h₀ L m s Q E B F X N T hk hp hd hu hret
  obtain ⟨hp1, hp2, hp3, hp4, hp5, hp6⟩ := hp
  have hI0 := ints_nil0
  have hf1 := Int.fmod_nonneg_of_pos free (b := 2) (by decide)
  have hf2 := Int.fmod_lt_of_pos free (b := 2) (by decide)
  refine wpAny_call ?_
  k_dflt cell_enter
  k_steps
  · exact jq_b (by assumption) (by assumption)
  · exact jq_a (by assumption) (by assumption)
  · unfold Hold
    intro r0 r1 tr0 tr1 nr hr tkr hab hFr0 hNews0
    have hb0 : 1 ≤ r0 ∧ r0 ≤ 100 := by omega
    have hb1 : 1 ≤ r1 ∧ r1 ≤ 100 := by omega
    have hr0 : (r0.toNat : Int) = r0 := Int.toNat_of_nonneg (Int.le_trans (by decide) hb0.1)
    have hr1 : (r1.toNat : Int) = r1 := Int.toNat_of_nonneg (Int.le_trans (by decide) hb1.1)
    have hab' : Hold ((r0 = come ∧ r1 = free) ∨ (r0 = free ∧ r1 = come)) := hab
    clear hab
    (try k_fold)
    k_steps
    rename Fr _ _ _ (fun y => if y = Str.ofString "nt" then _ else _) => lF'
    rename News _ _ _ ((_, listOf #[] _) :: _) => lN'
    rename _ < _ ∧ _ < _ ∧ _ < _ ∧ _ < _ ∧ AllLt _ news => l1
    with_unfolding_all refine' ws_loop (xb := Str.ofString "b") (xn := Str.ofString "n") (xt := Str.ofString "nt") (xc := Str.ofString "count") _ (ws_text _ _ _) (by omega) (by rfl) lF' lN' (P4.mk l1) (by rfl) (by rfl) (by rfl) (by rfl) ?_ ?_ ?_
    · intro i t l us xs n b kn kt tb tn tt uc h tk I oI g1 g2 g3 g4 g5 g6 g7 hne hne2 hFr hNews
      clear lF' lN'
      have g7' := g7
      unfold P4 at g7
      (try k_fold)
      k_steps
      exact ws_end (by assumption) (by assumption) (by repeat' first | exact if_pos rfl | refine (if_neg (by decide)).trans ?_ | fail) (by repeat' first | exact if_pos rfl | refine (if_neg (by decide)).trans ?_ | fail) (by repeat' first | exact if_pos rfl | refine (if_neg (by decide)).trans ?_ | fail) (by repeat' first | exact if_pos rfl | refine (if_neg (by decide)).trans ?_ | fail) (by intro y e1 e2 e3 e4 e5; simp only [e1, e2, e3, e4, e5, if_false]) (fun p hp => hp) g1 g2 (by omega) (by omega) g5 (by omega) g7' hne hne2
    · intro i t l us xs n b kn kt tb tn tt uc h tk I oI g1 v1 v2 v3 g2 g3 g4 g5 g6 g7 hne hne2 hFr hNews
      clear lF' lN'
      have hB : b ≤ 200 := by omega
      have hL : xs.length ≤ 101 := by omega
      have g7' := g7
      unfold P4 at g7
      (try k_fold)
      k_steps
      · obtain ⟨hP, hN⟩ := P4.of (d1 := _) (d2 := _) (d3 := _) (d4 := _) (e1 := _) (e2 := _) (I := I) (e4 := l) (by assumption)
        exact ws_end (by assumption) (by assumption) (by repeat' first | exact if_pos rfl | refine (if_neg (by decide)).trans ?_ | fail) (by repeat' first | exact if_pos rfl | refine (if_neg (by decide)).trans ?_ | fail) (by repeat' first | exact if_pos rfl | refine (if_neg (by decide)).trans ?_ | fail) (by repeat' first | exact if_pos rfl | refine (if_neg (by decide)).trans ?_ | fail) (by intro y e1 e2 e3 e4 e5; simp only [e1, e2, e3, e4, e5, if_false]) sub5 (by assumption) (ws_len1 (by assumption) g2) (by omega) (by omega) (by omega) (by omega) hP hN hne2
      · exact ws_end (by assumption) (by assumption) (by repeat' first | exact if_pos rfl | refine (if_neg (by decide)).trans ?_ | fail) (by repeat' first | exact if_pos rfl | refine (if_neg (by decide)).trans ?_ | fail) (by repeat' first | exact if_pos rfl | refine (if_neg (by decide)).trans ?_ | fail) (by repeat' first | exact if_pos rfl | refine (if_neg (by decide)).trans ?_ | fail) (by intro y e1 e2 e3 e4 e5; simp only [e1, e2, e3, e4, e5, if_false]) (fun p hp => hp) (by assumption) (ws_len2 (by assumption) v1 g2) (by omega) (by omega) (by omega) (by omega) g7' hne hne2
    · intro i t l us xs n b kn kt tb tn tt uc h tk I oI g1 v1 v2 v3 v4 g3 g4 g5 g6 g7 hne hne2 hFr hNews
      clear lF' lN'
      have hL : xs.length ≤ 201 := by omega
      have g7' := g7
      unfold P4 at g7
      replace hNews := news_tail hNews
      (try k_fold)
      k_steps
      show GrowPost _ _ _ _ _ _ _ Flow.brk _
      unfold GrowPost
      dsimp only
      k_steps
      exact ret_of hret (by assumption) (by assumption) (fun p hp => by repeat' first | exact hp | refine .tail _ ?_) (ws_fin hab' hr0 hr1 (by assumption))
end Mine
namespace Mine
open Builtin Builtin.Str Builtin.Int Builtin.Float
set_option maxRecDepth 100000
def specOk (c a w : Nat) (e : Except String FormatSpec) : Bool := match e with
  | .ok ⟨fill, align, none, false, false, some w', none, none, none⟩ => fill == c && (align == a && w' == w)
  | _ => false
theorem specOk_eq {c a w : Nat} {e : Except String FormatSpec} (h : specOk c a w e = true) : e = .ok { fill := c, align := a, width := some w } := by
  unfold specOk at h
  split at h
  · simp only [Bool.and_eq_true, beq_iff_eq] at h
    obtain ⟨h1, h2, h3⟩ := h
    subst h1; subst h2; subst h3; rfl
  · cases h
/-- the spec's signs -/
def spc (c a : Nat) (w : Int) : Str := (⟨#[c]⟩ ++ ⟨#[a]⟩ : Str) ++ Str.ofString (toString w)
def spcGood (c a w : Nat) : Bool :=
  let sp := spc c a (w : Int)
  specOk c a w (parseFormatSpec sp.cps.toList "str" 60) && !((sp.cps.toList.drop 1).any (· ≥ 128) || (sp.cps.getD 0 0 ≥ 128 && !([60, 62, 61, 94] : List Nat).contains (sp.cps.getD 1 0))) && sp.cps.back? != some 0 && sp.length != 0 && decide (sp.length ≤ 10)
theorem all_good : ((List.range 100).all fun w => ([46, 45, 48, 32] : List Nat).all fun c => ([60, 94, 62] : List Nat).all fun a => spcGood c a (w + 1)) = true := by decide +kernel
def lft (a pad : Nat) : Nat := if a == 62 then pad else if a == 94 then pad / 2 else 0
def fmtd (c a w : Nat) (x : Str) : Str := if w ≤ x.length then x else padded x (lft a (w - x.length)) (w - x.length - lft a (w - x.length)) c
theorem field_eq {c a w : Nat} {x : Str} (ha : a ≠ 61) (nm : String) : strField x { fill := c, align := a, width := some w } nm = .ok (if w ≤ x.length then none else some (fmtd c a w x)) := by
  unfold strField
  have h1 : (a == 61) = false := by simp [ha]
  have hs : strSub x 0 x.length = x := by
    cases x with | mk q =>
    show Str.mk (q.extract 0 q.size) = _
    rw [Array.extract_size]
  by_cases h : w ≤ x.length
  · simp [h, h1]
    rfl
  · simp [h, h1, fmtd, lft, hs]
    rfl
theorem str_format {c a w : Nat} {x : Str} {t u : Tok} (hg : spcGood c a w = true) (ha : a ≠ 61) (hx : x.length ≤ 1000) (hw : w ≤ 1000) :
    Meets («str.__format__» ⟨[.str x t, .str (spc c a (w : Int)) u], []⟩) (fun _ R s => ∀ t' k, R (.ok (.ret (.str (fmtd c a w x) t'))) { s with toks := k }) := by
  unfold spcGood at hg
  simp only [Bool.and_eq_true, Bool.not_eq_true', bne_iff_ne, ne_eq] at hg
  obtain ⟨⟨⟨⟨g1, g2⟩, g3⟩, g4⟩, g5⟩ := hg
  have e := specOk_eq g1
  apply KPc.meets_of
  intro prog w' A s Q E hQ
  unfold Builtin.«str.__format__»
  refine wpAny_bind (wpAny_of_eq (a := (_, _, _)) rfl ?_)
  refine wpAny_bind (wpAny_of_eq (a := some _) rfl ?_)
  refine wpAny_ite (KPc.ite_no (by simpa using g4) ?_)
  refine wpAny_ite (KPc.ite_no (by rw [g2]; decide) ?_)
  refine wpAny_bind (KXf.cut_str ?_)
  rw [e]
  have hb : ((spc c a (w : Int)).cps.back? == some 0) = false := by simpa using g3
  have ht : ¬ (tooLong w = true) := KPc.short (by omega)
  simp only [hb, Bool.and_false, Bool.false_eq_true, if_false]
  have hc : (do
      let f ← (Except.ok { fill := c, align := a, width := some w } : Except String FormatSpec)
      if tooLong (f.width.getD 0) = true then pure none
        else do
          let r ← strField x f "str"
          pure (some r)) = (Except.ok (some (if w ≤ x.length then none else some (fmtd c a w x))) : Except String (Option (Option Str))) := by
    show (if tooLong w = true then pure none else _) = _
    rw [if_neg ht]
    show (do let r ← strField x { fill := c, align := a, width := some w } "str"; pure (some r)) = _
    rw [field_eq ha]
    rfl
  rw [hc]
  by_cases h : w ≤ x.length
  · rw [if_pos h]
    refine wpAny_bind (wpAny_rule ?_)
    exact KXf.ret_same (by unfold fmtd; rw [if_pos h]) hQ
  · rw [if_neg h]
    refine KXf.ret_text rfl ?_ hQ
    unfold fmtd lft
    rw [if_neg h, sizeLine_eq]
    show (Array.replicate _ c ++ x.cps ++ Array.replicate _ c).size ≤ _
    have : x.cps.size = x.length := rfl
    simp only [Array.size_append, Array.size_replicate, this]
    split
    · omega
    · split <;> omega
theorem kind_format : builtinKind "format" = none := by decide +kernel
theorem plain_format : plainId "format" = true := by decide +kernel
theorem entry_format : entryFor table "format" = some Builtin.«format» := entryFor_of_tree (by kernel_rfl)
theorem args_format (a b : Value) : argsOk "format" ⟨[a, b], []⟩ := by unfold argsOk; kernel_rfl
theorem format_call {prog : Program} {w' : World} {A : Around} {E : Value → Shared → Prop} {s : Shared} {c a w : Nat} {x : Str} {t u : Tok} {Q : Value → Shared → Prop} (hg : spcGood c a w = true) (ha : a ≠ 61) (hx : x.length ≤ 1000) (hw : w ≤ 1000)
    (h : ∀ t' k, Q (.str (fmtd c a w x) t') { s with toks := k }) : wpAny (model prog w') A (call (.builtin "format") [.str x t, .str (spc c a (w : Int)) u]) Q E s := by
  have hg' := hg
  unfold spcGood at hg'
  simp only [Bool.and_eq_true, Bool.not_eq_true', bne_iff_ne, ne_eq] at hg'
  obtain ⟨⟨⟨⟨g1, g2⟩, g3⟩, g4⟩, g5⟩ := hg'
  refine call_function_entry kind_format plain_format entry_format (args_format _ _) ?_
  unfold Builtin.«format»
  refine wpAny_bind (wpAny_of_eq (a := [Value.str x t, Value.str (spc c a (w : Int)) u]) rfl ?_)
  refine wpAny_bind (wpAny_pure ?_)
  refine wpAny_bind (wpAny_typeNameOf (T := "str") (typeIs_str _ _ _) (by decide) fun _ => ?_)
  refine wpAny_bind (wpAny_of_eq (a := some _) rfl ?_)
  refine wpAny_ite (KPc.ite_no (by simpa using g4) ?_)
  refine wpAny_bind (m := callSpecial? (.str x t) (PySem.Str.ofString "__format__") [.str (spc c a (w : Int)) u]) (wpAny_callSpecial?_slot (name := PySem.Str.ofString "__format__") (typeIs_str _ _ _) F.slot_str_format
    (call_meets F.slot_str_format (typeIs_str _ _ _) F.entry_str_format (F.args_str_format_2 _ _) (str_format hg ha hx hw) fun t' k => ?_))
  exact wpAny_bind (wpAny_isInstance (T := "str") (b := true) rfl isSubtype_str_str (wpAny_ite (KPc.ite_yes rfl (wpAny_pure ⟨_, rfl, h _ _⟩))))
end Mine
namespace Mine
def ahd (r : Int) (d : Nat) : Nat := if r = 0 then 0 else if r = 1 then d / 2 else d
theorem all_good' {c a w : Nat} (hc : c = 46 ∨ c = 45 ∨ c = 48 ∨ c = 32) (ha : a = 60 ∨ a = 94 ∨ a = 62) (h1 : 1 ≤ w) (h2 : w ≤ 100) : spcGood c a w = true := by
  have h := all_good
  rw [List.all_eq_true] at h
  have h3 := h (w - 1) (List.mem_range.mpr (by omega))
  rw [List.all_eq_true] at h3
  have h4 := h3 c (by rcases hc with rfl | rfl | rfl | rfl <;> simp)
  rw [List.all_eq_true] at h4
  have h5 := h4 a (by rcases ha with rfl | rfl | rfl <;> simp)
  rwa [show w - 1 + 1 = w by omega] at h5
theorem tl_padded (x : Str) (l r c : Nat) : tl (Builtin.Str.padded x l r c) = List.replicate l c ++ tl x ++ List.replicate r c := by
  unfold tl Builtin.Str.padded
  simp
theorem fmtd_tl {c a n w : Nat} {r : Int} (ha : (r = 0 ∧ a = 60) ∨ (r = 1 ∧ a = 94) ∨ (r = 2 ∧ a = 62)) :
    tl (fmtd c a w (R 120 n)) = List.replicate (ahd r (w - n)) c ++ List.replicate n 120 ++ List.replicate (w - n - ahd r (w - n)) c := by
  unfold fmtd
  rw [R_len]
  by_cases h : w ≤ n
  · rw [if_pos h, tl_R, show w - n = 0 by omega]
    have : ahd r 0 = 0 := by unfold ahd; split <;> (try split) <;> rfl
    simp [this]
  · rw [if_neg h, tl_padded, tl_R]
    have : lft a (w - n) = ahd r (w - n) := by
      unfold lft ahd
      rcases ha with ⟨rfl, rfl⟩ | ⟨rfl, rfl⟩ | ⟨rfl, rfl⟩ <;> simp
    rw [this]
theorem ahd_le (r : Int) (d : Nat) : ahd r d ≤ d := by unfold ahd; split <;> (try split) <;> omega
theorem format_told {prog : Program} {w' : World} {A : Around} {E : Value → Shared → Prop} {s : Shared} {c a n : Nat} {r free : Int} {t u : Tok} {Q : Value → Shared → Prop} (hc : c = 46 ∨ c = 45 ∨ c = 48 ∨ c = 32) (ha : (r = 0 ∧ a = 60) ∨ (r = 1 ∧ a = 94) ∨ (r = 2 ∧ a = 62)) (hx : n ≤ 1000) (h1 : 1 ≤ free) (h2 : free ≤ 100)
    (h : ∀ T t' k, tl T = List.replicate (ahd r (free.toNat - n)) c ++ List.replicate n 120 ++ List.replicate (free.toNat - n - ahd r (free.toNat - n)) c → Hold (T.length = n + (free.toNat - n)) → n ≤ T.length → T.length ≤ 2000 → Q (.str T t') { s with toks := k }) :
    wpAny (model prog w') A (call (.builtin "format") [.str (R 120 n) t, .str ((⟨#[c]⟩ ++ ⟨#[a]⟩ : Str) ++ Str.ofString (toString free)) u]) Q E s := by
  obtain ⟨w, rfl⟩ : ∃ w : Nat, free = (w : Int) := ⟨free.toNat, by omega⟩
  refine format_call (c := c) (a := a) (w := w) (all_good' hc (by omega) (by omega) (by omega)) (by omega) (by rw [R_len]; exact hx) (by omega) fun t' k => ?_
  have e := fmtd_tl (c := c) (n := n) (w := w) ha
  have el : (fmtd c a w (R 120 n)).length = n + (w - n) := by
    rw [len_tl, e]
    have := ahd_le r (w - n)
    simp
    omega
  refine h _ t' k (by simpa using e) (by simpa [Hold] using el) (by omega) (by omega)
theorem sign_item {prog : Program} {w : World} {A : Around} {E : Value → Shared → Prop} {s : Shared} {value slice : PySem.Expr} {t u : Tok} {i : Int} {Q : Value → Shared → Prop}
    (h0 : 0 ≤ i) (h1 : i < 4) (h : ∀ c t' k, (c = 46 ∨ c = 45 ∨ c = 48 ∨ c = 32) → Q (.str ⟨#[c]⟩ t') { s with toks := k })
    (hs : subscripted slice false (.str (Str.ofString ".-0 ") t) (.int i u) = operate [.str (Str.ofString ".-0 ") t, .int i u] (getItem (.str (Str.ofString ".-0 ") t) (.int i u)) := by with_unfolding_all rfl)
    (ht : ∀ r, letTemporaryGo value (.str (Str.ofString ".-0 ") t) r = pure () := by intro _; with_unfolding_all rfl) :
    wpAny (model prog w) A (subscriptTail value slice (.str (Str.ofString ".-0 ") t) (.int i u)) Q E s := by
  refine KXi.item (n := 4) (by decide) (by omega) (by omega) (by decide) (fun _ => ?_) hs ht
  obtain e | e | e | e : i = 0 ∨ i = 1 ∨ i = 2 ∨ i = 3 := by omega
  · subst e; rw [show Txt.item (Str.ofString ".-0 ") 0 = ⟨#[46]⟩ by decide +kernel]; exact h _ _ _ (by omega)
  · subst e; rw [show Txt.item (Str.ofString ".-0 ") 1 = ⟨#[45]⟩ by decide +kernel]; exact h _ _ _ (by omega)
  · subst e; rw [show Txt.item (Str.ofString ".-0 ") 2 = ⟨#[48]⟩ by decide +kernel]; exact h _ _ _ (by omega)
  · subst e; rw [show Txt.item (Str.ofString ".-0 ") 3 = ⟨#[32]⟩ by decide +kernel]; exact h _ _ _ (by omega)
theorem align_item {prog : Program} {w : World} {A : Around} {E : Value → Shared → Prop} {s : Shared} {value slice : PySem.Expr} {t u : Tok} {i : Int} {Q : Value → Shared → Prop}
    (h0 : 0 ≤ i) (h1 : i < 3) (h : ∀ a t' k, ((i = 0 ∧ a = 60) ∨ (i = 1 ∧ a = 94) ∨ (i = 2 ∧ a = 62)) → Q (.str ⟨#[a]⟩ t') { s with toks := k })
    (hs : subscripted slice false (.str (Str.ofString "<^>") t) (.int i u) = operate [.str (Str.ofString "<^>") t, .int i u] (getItem (.str (Str.ofString "<^>") t) (.int i u)) := by with_unfolding_all rfl)
    (ht : ∀ r, letTemporaryGo value (.str (Str.ofString "<^>") t) r = pure () := by intro _; with_unfolding_all rfl) :
    wpAny (model prog w) A (subscriptTail value slice (.str (Str.ofString "<^>") t) (.int i u)) Q E s := by
  refine KXi.item (n := 3) (by decide) (by omega) (by omega) (by decide) (fun _ => ?_) hs ht
  obtain e | e | e : i = 0 ∨ i = 1 ∨ i = 2 := by omega
  · rw [e, show Txt.item (Str.ofString "<^>") 0 = ⟨#[60]⟩ by decide +kernel]; exact h _ _ _ (by omega)
  · rw [e, show Txt.item (Str.ofString "<^>") 1 = ⟨#[94]⟩ by decide +kernel]; exact h _ _ _ (by omega)
  · rw [e, show Txt.item (Str.ofString "<^>") 2 = ⟨#[62]⟩ by decide +kernel]; exact h _ _ _ (by omega)
theorem pick3 {prog : Program} {w : World} {A : Around} {E : Value → Shared → Prop} {s : Shared} {value slice : PySem.Expr} {h₀ : Heap} {L D : Addr} {news : List (Addr × Obj)} {n : Nat} {k x0 x1 x2 : Int} {t0 t1 t2 u : Tok} {Q : Value → Shared → Prop}
    (N : News h₀ L s.heap news) (hm : (D, listOf #[.int x0 t0, .int x1 t1, .int x2 t2] n) ∈ news) (h0 : 0 ≤ k) (h1 : k < 3) (h : ∀ a t, ((k = 0 ∧ a = x0) ∨ (k = 1 ∧ a = x1) ∨ (k = 2 ∧ a = x2)) → Q (.int a t) s)
    (hs : subscripted slice false (.ref D) (.int k u) = operate [.ref D, .int k u] (getItem (.ref D) (.int k u)) := by with_unfolding_all rfl) :
    wpAny (model prog w) A (subscriptTail value slice (.ref D) (.int k u)) Q E s := by
  refine ksa_sub (vs := [.int x0 t0, .int x1 t1, .int x2 t2]) (ns := [x0, x1, x2]) N hm (.cons _ _ (.cons _ _ (.cons _ _ .nil))) h0 (by simpa using h1) (by omega) (fun t => ?_) hs
  obtain e | e | e : k = 0 ∨ k = 1 ∨ k = 2 := by omega
  · subst e; exact h _ _ (.inl ⟨rfl, rfl⟩)
  · subst e; exact h _ _ (.inr (.inl ⟨rfl, rfl⟩))
  · subst e; exact h _ _ (.inr (.inr ⟨rfl, rfl⟩))
theorem pickA {prog : Program} {w : World} {A : Around} {E : Value → Shared → Prop} {s : Shared} {value slice : PySem.Expr} {h₀ : Heap} {L D : Addr} {news : List (Addr × Obj)} {n : Nat} {k M : Int} {t0 t1 t2 u : Tok} {Q : Value → Shared → Prop}
    (N : News h₀ L s.heap news) (hm : (D, listOf #[.int 0 t0, .int (M.fdiv 2) t1, .int M t2] n) ∈ news) (h0 : 0 ≤ k) (h1 : k < 3) (hM : 0 ≤ M) (h : ∀ a t, Hold ((k = 0 ∧ a = 0) ∨ (k = 1 ∧ a = M.fdiv 2) ∨ (k = 2 ∧ a = M)) → 0 ≤ a → a ≤ M → Q (.int a t) s)
    (hs : subscripted slice false (.ref D) (.int k u) = operate [.ref D, .int k u] (getItem (.ref D) (.int k u)) := by with_unfolding_all rfl) :
    wpAny (model prog w) A (subscriptTail value slice (.ref D) (.int k u)) Q E s := by
  refine pick3 N hm h0 h1 (fun a t q => ?_) hs
  have hd : M.fdiv 2 = M / 2 := Int.fdiv_eq_ediv_of_nonneg _ (by decide)
  exact h a t q (by omega) (by omega)
theorem len_free {free : Int} (h1 : 1 ≤ free) (h2 : free ≤ 100) : (Str.ofString (toString free)).length ≤ 10 := toString_length_le (by omega) (by decide) (by omega)
/-- what is told is what was asked -/
theorem told_no {T : Str} {r come free M a : Int} {c : Nat} (h1 : 1 ≤ come) (h3 : 1 ≤ free) (hM : M = (T.length : Int) - come) (hA : Hold ((r = 0 ∧ a = 0) ∨ (r = 1 ∧ a = M.fdiv 2) ∨ (r = 2 ∧ a = M)))
    (hT : tl T = List.replicate (ahd r (free.toNat - come.toNat)) c ++ List.replicate come.toNat 120 ++ List.replicate (free.toNat - come.toNat - ahd r (free.toNat - come.toNat)) c)
    (hl : Hold (T.length = come.toNat + (free.toNat - come.toNat))) (h : (T != R c a.toNat ++ R 120 come.toNat ++ R c (M - a).toNat) = true) : False := by
  unfold Hold at hA hl
  have e : T = R c a.toNat ++ R 120 come.toNat ++ R c (M - a).toNat := by
    apply tl_ext
    rw [hT, tl_app, tl_app, tl_R, tl_R, tl_R]
    have hM' : M = ((free.toNat - come.toNat : Nat) : Int) := by omega
    have hd : M.fdiv 2 = M / 2 := Int.fdiv_eq_ediv_of_nonneg _ (by decide)
    have e1 : a.toNat = ahd r (free.toNat - come.toNat) := by
      unfold ahd
      rcases hA with ⟨rfl, rfl⟩ | ⟨rfl, rfl⟩ | ⟨rfl, rfl⟩
      · simp
      · simp; omega
      · simp; omega
    have e2 : (M - a).toNat = free.toNat - come.toNat - ahd r (free.toNat - come.toNat) := by
      have := ahd_le r (free.toNat - come.toNat)
      have : 0 ≤ a := by
        rcases hA with ⟨_, rfl⟩ | ⟨_, rfl⟩ | ⟨_, rfl⟩ <;> omega
      omega
    rw [e1, e2]
  rw [← e] at h
  simp at h
theorem told_fin {n : Nat} {come free : Int} (e0 : (come.toNat : Int) = come) (e1 : (free.toNat : Int) = free) (hl : Hold (n = come.toNat + (free.toNat - come.toNat))) : (n : Int) = max come free := by
  unfold Hold at hl; omega
end Mine
namespace Mine
local macro_rules | `(tactic| k_room) => `(tactic| ktr_room)
local macro_rules | `(tactic| k_units) => `(tactic| ktr_units)
local macro_rules | `(tactic| walk_at "binaryOp Mult str int") => `(tactic| (k_here; (with_reducible show wpAny _ _ (binaryOp Operator.Mult (Value.str _ _) (Value.int _ _)) _ _ _); first
  | (refine mulV 120 (by decide) rfl (by omega) (by omega) ?_; intro _ _)
  | (refine mulV _ rfl rfl (by omega) (by omega) ?_; intro _ _)))
local macro_rules | `(tactic| walk_at "binaryOp Add str str") => `(tactic| (k_here; (with_reducible show wpAny _ _ (binaryOp Operator.Add (Value.str _ _) (Value.str _ _)) _ _ _); (refine addR (by simp only [PySem.Str.length_append, R_len, KOpn.len_one]; omega) ?_); intro _ _))
local macro_rules | `(tactic| walk_at "subscriptTail") => `(tactic| (k_here; (with_reducible show wpAny _ _ (subscriptTail _ _ _ (Value.int _ _)) _ _ _); first
  | (refine sign_item (Int.fmod_nonneg_of_pos _ (by decide)) (Int.fmod_lt_of_pos _ (by decide)) ?_; intro _ _ _ _)
  | (refine align_item (Int.fmod_nonneg_of_pos _ (by decide)) (Int.fmod_lt_of_pos _ (by decide)) ?_; intro _ _ _ _)
  | k_dflt (refine' pickA ?k1 ?k2 (Int.fmod_nonneg_of_pos _ (by decide)) (Int.fmod_lt_of_pos _ (by decide)) ?k4 ?_ ?k3; (case k1 => k_asm); (case k2 => k_mem); (case k3 => with_unfolding_all rfl); (case k4 => omega); intro _ _ _ _ _)))
local macro_rules | `(tactic| walk_at "call builtin:format") => `(tactic| (k_here; (refine format_told (by assumption) (by assumption) (by omega) (by omega) (by omega) ?_); intro _ _ _ _ _ _ _))
set_option maxRecDepth 100000 in
set_option maxHeartbeats 8000000 in
theorem filled_c {w mean mg mb} (come free way : Int) (t1 t2 t3 : Tok) : Tell w mean mg mb 10 80 216 (Small come free way) [.int come t1, .int free t2, .int way t3] (fun t => .int (max come free) t) := by
  unfold Tell
  w_top off
  k_fill
  intro news dp un gd cn cs a ccd cl outer A₀ base h₀ L m s Q E B F X N T hk hp hd hu hret
  obtain ⟨hp1, hp2, hp3, hp4, hp5, hp6⟩ := hp
  have hnc : (come.toNat : Int) = come := Int.toNat_of_nonneg (Int.le_trans (by decide) hp1)
  have hnf : (free.toNat : Int) = free := Int.toNat_of_nonneg (Int.le_trans (by decide) hp3)
  have hI0 := ints_nil0
  have hlf := len_free hp3 hp4
  refine wpAny_call ?_
  k_dflt cell_enter
  k_steps
  all_goals first
    | exact (told_no hp1 hp3 rfl (by assumption) (by assumption) (by assumption) (by assumption)).elim
    | exact ret_of hret (by assumption) (by assumption) (fun p hp => by repeat' first | exact hp | refine .tail _ ?_) (told_fin hnc hnf (by assumption))
end Mine
namespace Mine
def gs (p q j : Nat) : List Nat := (if j < p then [13] else []) ++ (if j < q then [10] else [])
/-- what k turns have added -/
def gl (p q k : Nat) : List Nat := (List.range k).flatMap (gs p q)
theorem gl_succ (p q k : Nat) : gl p q (k + 1) = gl p q k ++ gs p q k := by
  unfold gl
  rw [List.range_succ, List.flatMap_append]
  simp
theorem gs_len (p q j : Nat) : (gs p q j).length ≤ 2 := by
  unfold gs
  split <;> split <;> simp
theorem gl_len (p q : Nat) : ∀ k, (gl p q k).length ≤ 2 * k
  | 0 => by simp [gl]
  | k + 1 => by
    rw [gl_succ, List.length_append]
    have := gl_len p q k
    have := gs_len p q k
    omega
def EnJ (p q : Nat) (rest : List (Addr × Obj)) (m₁ : Str → Option Value) (x xt : Str) (k : Nat) (m : Str → Option Value) (nx : List (Addr × Obj)) : Prop :=
  ∃ (X : Str) (tX : Tok) (uk : Option Value), nx = rest ∧ tl X = 120 :: 10 :: gl p q k ∧ m = fun y => if y = xt then some (.str X tX) else if y = x then uk else m₁ y
section
variable {prog : Program} {w : World} {A : Around} {E : Value → Shared → Prop} {s : Shared} {env : Env} {h₀ : Heap} {body : List Stmt} {Q : Flow → Shared → Prop}
theorem en_loop {p q n : Nat} {r : Addr} {b : Int} {t₀ u₀ v₀ : Tok} {X₀ : Str} {tX : Tok} {x xt : Str} {m₁ : Str → Option Value} {rest : List (Addr × Obj)}
    (hh : A.handled = none) (hr : IsRange s.heap r 0 b 1 t₀ u₀ v₀) (hb : b = (n : Int)) (hn : n ≤ 1000) (F : Fr h₀ env.locals s.heap m₁) (N : News h₀ env.locals s.heap rest) (hX : m₁ xt = some (.str X₀ tX)) (hX2 : tl X₀ = [120, 10]) (hxt : xt ≠ x)
    (turn : ∀ (k : Nat) t X tX uk h tk I oI, k < n → tl X = 120 :: 10 :: gl p q k → X.length ≤ 2 + 2 * k → (∀ p ∈ rest, p.1 ≠ I) →
      Fr h₀ env.locals h (fun y => if y = x then some (.int (0 + (k : Int)) t) else if y = xt then some (.str X tX) else if y = x then uk else m₁ y) →
      News h₀ env.locals h ((I, oI) :: rest) →
      wpAny (model prog w) A (execs body env) (GrowPost h₀ env.locals I oI (EnJ p q rest m₁ x xt (k + 1)) { s with heap := h, toks := tk } Q) E { s with heap := h, toks := tk })
    (done : ∀ X tX uk h tk, tl X = 120 :: 10 :: gl p q n → X.length ≤ 2 + 2 * n →
      Fr h₀ env.locals h (fun y => if y = xt then some (.str X tX) else if y = x then uk else m₁ y) → News h₀ env.locals h rest → Q .next { s with heap := h, toks := tk }) :
    wpAny (model prog w) A (pyIter (.ref r)) (fun it s₂ => LoopAtV prog w A h₀ env x body Q E it s₂) E s := by
  subst hb
  have hlen : ∀ {X : Str} {k : Nat}, tl X = 120 :: 10 :: gl p q k → X.length ≤ 2 + 2 * k := fun {X k} h => by
    rw [len_tl, h]
    have := gl_len p q k
    simp
    omega
  refine iter_growR (n := n) (EnJ p q rest m₁ x xt) hh hr (small_one (by omega) (by omega) (by omega) (by omega)) (by rw [rangeSize_nat]; omega) F N ⟨X₀, tX, m₁ x, rfl, by rw [hX2]; rfl, ?_⟩ ?_ ?_
  · funext y
    by_cases e1 : y = xt
    · subst e1; simp [hX]
    · by_cases e5 : y = x
      · subst e5; simp [e1]
      · simp [e1, e5]
  · rintro k t m news₁ h tk I oI hk hI ⟨X, tX, uk, rfl, g, rfl⟩ F1 N1
    exact turn k t X tX uk h tk I oI hk g (hlen g) hI F1 N1
  · rintro m news₁ h tk ⟨X, tX, uk, rfl, g, rfl⟩ F1 N1
    exact done X tX uk h tk g (hlen g) F1 N1
theorem en_end {h₀ h' : Heap} {L I : Addr} {oI : Obj} {p q k tk : Nat} {X : Str} {tX : Tok} {rest nx : List (Addr × Obj)} {m₁ m' : Str → Option Value} {x xt : Str} {s₁ : Shared} {Q : Flow → Shared → Prop}
    (F : Fr h₀ L h' m') (N : News h₀ L h' nx) (hs : ∀ p ∈ (I, oI) :: rest, p ∈ nx) (e1 : m' xt = some (.str X tX)) (g : tl X = 120 :: 10 :: gl p q (k + 1)) (hne2 : ∀ p ∈ rest, p.1 ≠ I)
    (e5 : ∀ y, y ≠ xt → y ≠ x → m' y = m₁ y) : GrowPost h₀ L I oI (EnJ p q rest m₁ x xt (k + 1)) s₁ Q Flow.next { s₁ with heap := h', toks := tk } := by
  refine GrowEnd.intro (nx := rest) F (fun p hp => N p (hs p hp)) hne2 ⟨X, tX, m' x, rfl, g, ?_⟩
  funext y
  by_cases q1 : y = xt
  · subst q1; simp [e1]
  · by_cases q2 : y = x
    · subst q2; simp [q1]
    · simp [q1, q2, e5 y q1 q2]
end
theorem tl_r : tl (Str.ofString "\r") = [13] := by decide
theorem tl_n : tl (Str.ofString "\n") = [10] := by decide
theorem l_r : (Str.ofString "\r").length = 1 := by decide
theorem l_n : (Str.ofString "\n").length = 1 := by decide
theorem tl_xn : tl (Str.ofString "x\n") = [120, 10] := by decide
theorem en00 {p q k : Nat} {X : Str} (h : tl X = 120 :: 10 :: gl p q k) (a : ¬ k < p) (b : ¬ k < q) : tl X = 120 :: 10 :: gl p q (k + 1) := by
  rw [gl_succ, gs, if_neg a, if_neg b, h]; simp
theorem en10 {p q k : Nat} {X : Str} (h : tl X = 120 :: 10 :: gl p q k) (a : k < p) (b : ¬ k < q) : tl (X ++ Str.ofString "\r") = 120 :: 10 :: gl p q (k + 1) := by
  rw [gl_succ, gs, if_pos a, if_neg b, tl_app, h, tl_r]; simp
theorem en01 {p q k : Nat} {X : Str} (h : tl X = 120 :: 10 :: gl p q k) (a : ¬ k < p) (b : k < q) : tl (X ++ Str.ofString "\n") = 120 :: 10 :: gl p q (k + 1) := by
  rw [gl_succ, gs, if_neg a, if_pos b, tl_app, h, tl_n]; simp
theorem en11 {p q k : Nat} {X : Str} (h : tl X = 120 :: 10 :: gl p q k) (a : k < p) (b : k < q) : tl (X ++ Str.ofString "\r" ++ Str.ofString "\n") = 120 :: 10 :: gl p q (k + 1) := by
  rw [gl_succ, gs, if_pos a, if_pos b, tl_app, tl_app, h, tl_r, tl_n]; simp
end Mine
namespace Mine
theorem en_loopH {prog : Program} {w : World} {A : Around} {E : Value → Shared → Prop} {s : Shared} {env : Env} {h₀ : Heap} {body : List Stmt} {Q : Flow → Shared → Prop} {e0 e1 : Int} {te0 te1 : Tok} {ne : Nat} {le : Addr} {r : Addr} {b : Int} {t₀ u₀ v₀ : Tok} {X₀ : Str} {tX : Tok} {x xt : Str} {m₁ : Str → Option Value} {rest : List (Addr × Obj)}
    (hh : A.handled = none) (hr : IsRange s.heap r 0 b 1 t₀ u₀ v₀) (hb : 0 ≤ b) (hn : b ≤ 1000) (F : Fr h₀ env.locals s.heap m₁) (N : News h₀ env.locals s.heap ((le, listOf #[.int e0 te0, .int e1 te1] ne) :: rest)) (hX : m₁ xt = some (.str X₀ tX)) (hX2 : tl X₀ = [120, 10]) (hxt : xt ≠ x)
    (turn : Hold (∀ (k : Nat) t X tX uk h tk I oI, (k : Int) < b → tl X = 120 :: 10 :: gl e0.toNat e1.toNat k → X.length ≤ 2 + 2 * k → (∀ p ∈ (le, listOf #[.int e0 te0, .int e1 te1] ne) :: rest, p.1 ≠ I) →
      Fr h₀ env.locals h (fun y => if y = x then some (.int (0 + (k : Int)) t) else if y = xt then some (.str X tX) else if y = x then uk else m₁ y) →
      News h₀ env.locals h ((I, oI) :: (le, listOf #[.int e0 te0, .int e1 te1] ne) :: rest) →
      wpAny (model prog w) A (execs body env) (GrowPost h₀ env.locals I oI (EnJ e0.toNat e1.toNat ((le, listOf #[.int e0 te0, .int e1 te1] ne) :: rest) m₁ x xt (k + 1)) { s with heap := h, toks := tk } Q) E { s with heap := h, toks := tk }))
    (done : Hold (∀ X tX uk h tk, tl X = 120 :: 10 :: gl e0.toNat e1.toNat b.toNat → X.length ≤ 2 + 2 * b.toNat →
      Fr h₀ env.locals h (fun y => if y = xt then some (.str X tX) else if y = x then uk else m₁ y) → News h₀ env.locals h ((le, listOf #[.int e0 te0, .int e1 te1] ne) :: rest) → Q .next { s with heap := h, toks := tk })) :
    wpAny (model prog w) A (pyIter (.ref r)) (fun it s₂ => LoopAtV prog w A h₀ env x body Q E it s₂) E s :=
  en_loop (n := b.toNat) hh hr (by omega) (by omega) F N hX hX2 hxt (fun k t X tX uk h tk I oI hk => turn k t X tX uk h tk I oI (by omega)) done
end Mine
namespace Mine
section
variable {e0 e1 : Int} {k : Nat} {X : Str}
theorem en11' (h : tl X = 120 :: 10 :: gl e0.toNat e1.toNat k) (a : 0 + (k : Int) < [e0, e1].getD (Int.toNat 0) 0) (b : 0 + (k : Int) < [e0, e1].getD (Int.toNat 1) 0) : tl (X ++ Str.ofString "\r" ++ Str.ofString "\n") = 120 :: 10 :: gl e0.toNat e1.toNat (k + 1) := by
  rw [getD_z] at a
  rw [getD_o] at b
  exact en11 h (by omega) (by omega)
theorem en10' (h : tl X = 120 :: 10 :: gl e0.toNat e1.toNat k) (a : 0 + (k : Int) < [e0, e1].getD (Int.toNat 0) 0) (b : ¬ 0 + (k : Int) < [e0, e1].getD (Int.toNat 1) 0) : tl (X ++ Str.ofString "\r") = 120 :: 10 :: gl e0.toNat e1.toNat (k + 1) := by
  rw [getD_z] at a
  rw [getD_o] at b
  exact en10 h (by omega) (by omega)
theorem en01' (h : tl X = 120 :: 10 :: gl e0.toNat e1.toNat k) (a : ¬ 0 + (k : Int) < [e0, e1].getD (Int.toNat 0) 0) (b : 0 + (k : Int) < [e0, e1].getD (Int.toNat 1) 0) : tl (X ++ Str.ofString "\n") = 120 :: 10 :: gl e0.toNat e1.toNat (k + 1) := by
  rw [getD_z] at a
  rw [getD_o] at b
  exact en01 h (by omega) (by omega)
theorem en00' (h : tl X = 120 :: 10 :: gl e0.toNat e1.toNat k) (a : ¬ 0 + (k : Int) < [e0, e1].getD (Int.toNat 0) 0) (b : ¬ 0 + (k : Int) < [e0, e1].getD (Int.toNat 1) 0) : tl (X) = 120 :: 10 :: gl e0.toNat e1.toNat (k + 1) := by
  rw [getD_z] at a
  rw [getD_o] at b
  exact en00 h (by omega) (by omega)
end
end Mine
namespace Mine
open PySem.Sre
def cd : Array Nat := #[14, 9, 4, 1, 2, 16, 10, 16, 13, 0, 7, 7, 16, 13, 16, 10, 15, 18, 5, 16, 10, 15, 13, 11, 16, 13, 5, 5, 0, 16, 10, 1, 15, 2, 0, 1]
/-- the engine ahead of its first look -/
def mF (T : Array Nat) (lim last s : Nat) : M :=
  { code := cd, text := T, lim := lim, start := s, lastStart := last, pc := 10, pos := s, handed := s, marks := #[], seen := ({} : Sre.Seen).add 14 }
theorem search_is (T : Array Nat) (lim s : Nat) : forSearch cd T 0 s lim false = if (decide (s > lim) || decide (lim - s < 1)) = true then (mF T lim 0 s).say false else (mF T lim lim s).attemptFrom s true := by
  rfl
theorem look_lf {T : Array Nat} {lim s k : Nat} {seen : Sre.Seen} (m : M) (hm : m.code = cd) (ht : m.text = T) (hli : m.lim = lim) (h0 : T.getD s 0 = 10) (hl : s < lim) : m.admitted (k + 1) s seen = .ok (some s, seen.add 16) := by
  have hn : ¬ s ≥ m.lim := by omega
  simp [M.admitted, hn, hm, ht, h0, inSet, cd, ops]
theorem look_cr {T : Array Nat} {lim s k : Nat} {seen : Sre.Seen} (m : M) (hm : m.code = cd) (ht : m.text = T) (hli : m.lim = lim) (h0 : T.getD s 0 = 13) (hl : s < lim) : m.admitted (k + 1) s seen = .ok (some s, (seen.add 16).add 16) := by
  have hn : ¬ s ≥ m.lim := by omega
  simp [M.admitted, hn, hm, ht, h0, inSet, cd, ops]
theorem look_x {T : Array Nat} {lim s k : Nat} {seen : Sre.Seen} (m : M) (hm : m.code = cd) (ht : m.text = T) (hli : m.lim = lim) (h0 : T.getD s 0 = 120) (hl : s < lim) : m.admitted (k + 1) s seen = m.admitted k (s + 1) (((seen.add 16).add 16).add 0) := by
  have hn : ¬ s ≥ m.lim := by omega
  rw [M.admitted]
  simp [hn, hm, ht, h0, inSet, cd, ops]
theorem look_end {s k : Nat} {seen : Sre.Seen} (m : M) (hl : ¬ s < m.lim) : m.admitted k s seen = .ok (none, seen) := by
  cases k with
  | zero => rfl
  | succ k => simp [M.admitted]; omega
theorem first_set (T : Array Nat) (lim last s : Nat) : (mF T lim last s).hasFirstSet = true := rfl
def mAt (T : Array Nat) (lim a s : Nat) (seen : Sre.Seen) : M :=
  { mF T lim lim a with mustAdvance := false, start := s, pos := s, handed := s, frames := [{ wait := .nextStart, pc := 10, pos := s, outermost := true }], weight := 1, seen := seen }
theorem from_is {T : Array Nat} {lim a s : Nat} {seen : Sre.Seen} (h : (mF T lim lim a).admitted ((mF T lim lim a).lim + 1 - a) a (mF T lim lim a).seen = .ok (some s, seen)) : (mF T lim lim a).attemptFrom a true = mAt T lim a s seen := by
  unfold M.attemptFrom
  rw [first_set, if_neg (by decide), h]
  rfl
theorem from_no {T : Array Nat} {lim a : Nat} {seen : Sre.Seen} (h : (mF T lim lim a).admitted ((mF T lim lim a).lim + 1 - a) a (mF T lim lim a).seen = .ok (none, seen)) : (mF T lim lim a).attemptFrom a true = { mF T lim lim a with seen := seen, answer := some false } := by
  unfold M.attemptFrom
  rw [first_set, if_neg (by decide), h]
  rfl
def S (T : Array Nat) (lim a s pc pos handed : Nat) (out : Bool) (fr : List Sre.Frame) (w : Nat) (ans : Option Bool) (seen : Sre.Seen) : M :=
  { mF T lim lim a with start := s, pc := pc, pos := pos, handed := handed, outermost := out, frames := fr, weight := w, answer := ans, seen := seen }
def kp : Sre.Kept := { lastmark := -1, lastindex := -1, whole := false, marks := #[] }
def fNS (s : Nat) : Sre.Frame := { wait := .nextStart, pc := 10, pos := s, outermost := true }
def fB (pc s : Nat) : Sre.Frame := { wait := .nextBranch, pc := pc, pos := s, outermost := true, kept := kp }
def fLN (s : Nat) : Sre.Frame := { wait := .lookNot, pc := 26, pos := s, outermost := true, kept := kp }
theorem mAt_S (T : Array Nat) (lim a s : Nat) (seen : Sre.Seen) : mAt T lim a s seen = S T lim a s 10 s s true [fNS s] 1 none seen := rfl
theorem run_step {n : Nat} {m m' : M} (h : m.outcome = none) (e : m.step = m') : m.runFor (n + 1) = m'.runFor n := by
  rw [M.runFor, h, e]; rfl
section
variable {T : Array Nat} {lim a s pos handed w : Nat} {out : Bool} {fr : List Sre.Frame} {seen : Sre.Seen}
theorem st_branch : (S T lim a s 10 s s true [fNS s] 1 none seen).step = S T lim a s 12 s s true [fB 11 s, fNS s] 2 none (seen.add 7) := rfl
theorem st_r11 : (S T lim a s 14 pos handed true [fB 11 s, fNS s] 2 (some false) seen).step = S T lim a s 19 s s true [fB 18 s, fNS s] 2 none seen := rfl
theorem st_r11' : (S T lim a s 12 pos handed true [fB 11 s, fNS s] 2 (some false) seen).step = S T lim a s 19 s s true [fB 18 s, fNS s] 2 none seen := rfl
theorem st_r18 : (S T lim a s 19 pos handed true [fB 18 s, fNS s] 2 (some false) seen).step = S T lim a s 24 s s true [fB 23 s, fNS s] 2 none seen := rfl
theorem st_not : (S T lim a s 26 pos handed true [fB 23 s, fNS s] 2 none seen).step = S T lim a s 29 pos pos false [fLN pos, fB 23 s, fNS s] 3 none (seen.add 5) := rfl
theorem st_rLN : (S T lim a s 29 pos handed false [fLN pos, fB 23 s, fNS s] 3 (some false) seen).step = S T lim a s 32 pos handed true [fB 23 s, fNS s] 2 none seen := rfl
theorem st_j16 : (S T lim a s 16 pos handed out fr w none seen).step = S T lim a s 35 pos handed out fr w none (seen.add 15) := rfl
theorem st_j21 : (S T lim a s 21 pos handed out fr w none seen).step = S T lim a s 35 pos handed out fr w none (seen.add 15) := rfl
theorem st_j32 : (S T lim a s 32 pos handed out fr w none seen).step = S T lim a s 35 pos handed out fr w none (seen.add 15) := rfl
theorem st_succ : (S T lim a s 35 pos handed true fr w none seen).step = S T lim a s 35 pos pos true fr w (some true) (seen.add 1) := rfl
theorem st_rB {pc b : Nat} : (S T lim a s pc pos handed true [fB b s, fNS s] 2 (some true) seen).step = S T lim a s b s handed true [fNS s] 1 (some true) seen := rfl
theorem st_rNS {pc : Nat} : (S T lim a s pc pos handed true [fNS s] 1 (some true) seen).step = S T lim a s 10 s handed true [] 0 (some true) seen := rfl
theorem st_end {pc : Nat} : (S T lim a s pc pos handed true [] 0 (some true) seen).step = { S T lim a s pc pos handed true [] 0 (some true) seen with outcome := some .matched } := rfl
theorem exec_lit {m : M} (hop : ops[m.word 0]? = some .LITERAL) (hl : ¬ m.pos ≥ m.lim) : m.exec = match accepts m.code m.pc (m.text.getD m.pos 0) (m.seen.add (m.word 0)) with
    | .error why => ({ m with seen := m.seen.add (m.word 0) } : M).stick why
    | .ok (false, seen) => ({ m with seen := seen } : M).say false
    | .ok (true, seen) => { m with seen := seen, pc := m.pc + itemWidth m.code m.pc, pos := m.pos + 1 } := by
  unfold M.exec
  rw [hop]
  dsimp only
  rw [if_neg hl]
  generalize accepts m.code m.pc (m.text.getD m.pos 0) (m.seen.add (m.word 0)) = e
  rcases e with _ | ⟨_ | _, _⟩ <;> rfl
theorem st_ok {pc c : Nat} (hpc : pc = 12 ∧ c = 13 ∨ pc = 14 ∧ c = 10 ∨ pc = 19 ∧ c = 10 ∨ pc = 24 ∧ c = 13) (hl : pos < lim) (h : T.getD pos 0 = c) :
    (S T lim a s pc pos handed out fr w none seen).step = S T lim a s (pc + 2) (pos + 1) handed out fr w none (seen.add 16) := by
  have hn : ¬ pos ≥ lim := by omega
  have hs : (S T lim a s pc pos handed out fr w none seen).step = (S T lim a s pc pos handed out fr w none seen).exec := by
    rcases hpc with ⟨rfl, _⟩ | ⟨rfl, _⟩ | ⟨rfl, _⟩ | ⟨rfl, _⟩ <;> rfl
  rw [hs, exec_lit (by rcases hpc with ⟨rfl, _⟩ | ⟨rfl, _⟩ | ⟨rfl, _⟩ | ⟨rfl, _⟩ <;> rfl) hn]
  have ha : accepts (S T lim a s pc pos handed out fr w none seen).code (S T lim a s pc pos handed out fr w none seen).pc ((S T lim a s pc pos handed out fr w none seen).text.getD (S T lim a s pc pos handed out fr w none seen).pos 0) ((S T lim a s pc pos handed out fr w none seen).seen.add ((S T lim a s pc pos handed out fr w none seen).word 0)) = .ok (true, seen.add 16) := by
    show accepts cd pc (T.getD pos 0) (seen.add (cd.getD (pc + 0) 0)) = _
    rw [h]
    rcases hpc with ⟨rfl, rfl⟩ | ⟨rfl, rfl⟩ | ⟨rfl, rfl⟩ | ⟨rfl, rfl⟩ <;> rfl
  rw [ha]
  rcases hpc with ⟨rfl, rfl⟩ | ⟨rfl, rfl⟩ | ⟨rfl, rfl⟩ | ⟨rfl, rfl⟩ <;> rfl
theorem st_no {pc c : Nat} (hpc : pc = 12 ∧ c = 13 ∨ pc = 14 ∧ c = 10 ∨ pc = 19 ∧ c = 10 ∨ pc = 24 ∧ c = 13 ∨ pc = 29 ∧ c = 10) (hl : pos < lim) (h : T.getD pos 0 ≠ c) :
    (S T lim a s pc pos handed out fr w none seen).step = S T lim a s pc pos handed out fr w (some false) (seen.add 16) := by
  have hn : ¬ pos ≥ lim := by omega
  have hs : (S T lim a s pc pos handed out fr w none seen).step = (S T lim a s pc pos handed out fr w none seen).exec := by
    rcases hpc with ⟨rfl, _⟩ | ⟨rfl, _⟩ | ⟨rfl, _⟩ | ⟨rfl, _⟩ | ⟨rfl, _⟩ <;> rfl
  rw [hs, exec_lit (by rcases hpc with ⟨rfl, _⟩ | ⟨rfl, _⟩ | ⟨rfl, _⟩ | ⟨rfl, _⟩ | ⟨rfl, _⟩ <;> rfl) hn]
  have hb : (T.getD pos 0 == c) = false := by simpa using h
  have ha : accepts (S T lim a s pc pos handed out fr w none seen).code (S T lim a s pc pos handed out fr w none seen).pc ((S T lim a s pc pos handed out fr w none seen).text.getD (S T lim a s pc pos handed out fr w none seen).pos 0) ((S T lim a s pc pos handed out fr w none seen).seen.add ((S T lim a s pc pos handed out fr w none seen).word 0)) = .ok (false, seen.add 16) := by
    show accepts cd pc (T.getD pos 0) (seen.add (cd.getD (pc + 0) 0)) = _
    have : accepts cd pc (T.getD pos 0) (seen.add (cd.getD (pc + 0) 0)) = .ok (T.getD pos 0 == c, seen.add 16) := by
      rcases hpc with ⟨rfl, rfl⟩ | ⟨rfl, rfl⟩ | ⟨rfl, rfl⟩ | ⟨rfl, rfl⟩ | ⟨rfl, rfl⟩ <;> rfl
    rw [this, hb]
  rw [ha]
  rfl
end
def Res (b e : Nat) (m : M) : Prop := m.outcome = some .matched ∧ m.start = b ∧ m.handed = e
theorem run_crlf {T : Array Nat} {lim a s : Nat} {seen : Sre.Seen} (h0 : T.getD s 0 = 13) (h1 : T.getD (s + 1) 0 = 10) (hl : s + 1 < lim) : Res s (s + 2) ((mAt T lim a s seen).runFor 8) := by
  rw [mAt_S, run_step rfl st_branch, run_step rfl (st_ok (c := 13) (by decide) (by omega) h0), run_step rfl (st_ok (c := 10) (by decide) (by omega) h1), run_step rfl st_j16, run_step rfl st_succ, run_step rfl st_rB, run_step rfl st_rNS, run_step rfl st_end]
  exact ⟨rfl, rfl, rfl⟩
theorem run_lf {T : Array Nat} {lim a s : Nat} {seen : Sre.Seen} (h0 : T.getD s 0 = 10) (hl : s < lim) : Res s (s + 1) ((mAt T lim a s seen).runFor 9) := by
  rw [mAt_S, run_step rfl st_branch, run_step rfl (st_no (c := 13) (by decide) (by omega) (by rw [h0]; decide)), run_step rfl st_r11', run_step rfl (st_ok (c := 10) (by decide) (by omega) h0), run_step rfl st_j21, run_step rfl st_succ, run_step rfl st_rB, run_step rfl st_rNS, run_step rfl st_end]
  exact ⟨rfl, rfl, rfl⟩
theorem run_cr {T : Array Nat} {lim a s : Nat} {seen : Sre.Seen} (h0 : T.getD s 0 = 13) (h1 : T.getD (s + 1) 0 ≠ 10) (hl : s + 1 < lim) : Res s (s + 1) ((mAt T lim a s seen).runFor 15) := by
  rw [mAt_S, run_step rfl st_branch, run_step rfl (st_ok (c := 13) (by decide) (by omega) h0), run_step rfl (st_no (c := 10) (by decide) (by omega) h1), run_step rfl st_r11, run_step rfl (st_no (c := 10) (by decide) (by omega) (by rw [h0]; decide)), run_step rfl st_r18,
    run_step rfl (st_ok (c := 13) (by decide) (by omega) h0), run_step rfl st_not, run_step rfl (st_no (c := 10) (by decide) (by omega) h1), run_step rfl st_rLN, run_step rfl st_j32, run_step rfl st_succ, run_step rfl st_rB, run_step rfl st_rNS, run_step rfl st_end]
  exact ⟨rfl, rfl, rfl⟩
end Mine
namespace Mine
open PySem.Builtin PySem.Builtin.Re
set_option maxRecDepth 100000
section
variable {M : Model} {A : Around} {E : Value → Shared → Prop} {s : Shared}
theorem run_done {m : Sre.M} (h : m.outcome.isSome = true) : ∀ n, Sre.M.runFor n m = m
  | 0 => rfl
  | n + 1 => by rw [Sre.M.runFor, if_pos h]
theorem run_add (a : Nat) : ∀ (b : Nat) (m : Sre.M), Sre.M.runFor (b + a) m = Sre.M.runFor a (Sre.M.runFor b m)
  | 0, m => by rw [Nat.zero_add]; rfl
  | b + 1, m => by
    by_cases h : m.outcome.isSome = true
    · rw [run_done h, run_done h, run_done h]
    · rw [show b + 1 + a = (b + a) + 1 by omega, Sre.M.runFor, if_neg h, Sre.M.runFor, if_neg h]
      exact run_add a b _
theorem drive_ok {Q : Sre.M → Shared → Prop} : ∀ (t n : Nat) (m : Sre.M), n + 1 ≤ 4 * t → (Sre.M.runFor n m).outcome.isSome = true → Q (Sre.M.runFor n m) s → wpAny M A (reDrive t m) Q E s
  | 0, n, m, h, _, _ => by omega
  | t + 1, n, m, h, ho, hq => by
    unfold reDrive
    have e4 : reTurnSteps = 4 := rfl
    by_cases h1 : (Sre.M.runFor 4 m).outcome.isSome = true
    · have e : Sre.M.runFor n m = Sre.M.runFor 4 m := by
        by_cases hn : n ≤ 4
        · obtain ⟨k, hk⟩ : ∃ k, 4 = n + k := ⟨4 - n, by omega⟩
          rw [hk, run_add, run_done ho]
        · obtain ⟨k, hk⟩ : ∃ k, n = 4 + k := ⟨n - 4, by omega⟩
          rw [hk, run_add, run_done h1]
      rw [e4]
      dsimp only
      rw [if_pos h1]
      rw [e] at hq
      exact wpAny_pure hq
    · have hn : 4 < n := by
        refine Nat.lt_of_not_le fun hn => h1 ?_
        obtain ⟨k, hk⟩ : ∃ k, 4 = n + k := ⟨4 - n, by omega⟩
        rw [hk, run_add, run_done ho]
        exact ho
      obtain ⟨k, hk⟩ : ∃ k, n = 4 + k := ⟨n - 4, by omega⟩
      subst hk
      rw [run_add] at ho hq
      rw [e4]
      dsimp only
      rw [if_neg h1]
      exact wpAny_bind (wpAny_rule (drive_ok t k _ (by omega) ho hq))
theorem rules_ok {f : Nat → PUnit → Sem (ForInStep PUnit)} (hf : ∀ i s' (K : ForInStep PUnit → Shared → Prop), K (.yield PUnit.unit) s' → wpAny M A (f i PUnit.unit) K E s') {Q : PUnit → Shared → Prop} : ∀ (l : List Nat), Q PUnit.unit s → wpAny M A (forIn l PUnit.unit f) Q E s
  | [], h => by rw [List.forIn_nil]; exact wpAny_pure h
  | a :: r, h => by
    rw [List.forIn_cons]
    exact wpAny_bind (hf a s _ (rules_ok hf r h))
theorem end_some {m : Sre.M} {b e n : Nat} {Q : Option Sre.M → Shared → Prop} (hr : Res b e (Sre.M.runFor n m)) (hn : n ≤ 100) (h : ∀ m', Res b e m' → Q (some m') s) : wpAny M A (reRunToEnd m) Q E s := by
  unfold reRunToEnd
  refine wpAny_bind (drive_ok (2 ^ 64) n m (by omega) (by rw [hr.1]; rfl) ?_)
  refine wpAny_bind (rules_ok (fun i s' K hk => ?_) _ ?_)
  · refine wpAny_ite ?_
    split
    · exact wpAny_bind (wpAny_rule (wpAny_pure hk))
    · exact wpAny_pure hk
  · rw [hr.1]
    exact wpAny_pure (h _ hr)
theorem end_none {m : Sre.M} {n : Nat} {Q : Option Sre.M → Shared → Prop} (hr : (Sre.M.runFor n m).outcome = some .failed) (hn : n ≤ 100) (h : Q none s) : wpAny M A (reRunToEnd m) Q E s := by
  unfold reRunToEnd
  refine wpAny_bind (drive_ok (2 ^ 64) n m (by omega) (by rw [hr]; rfl) ?_)
  refine wpAny_bind (rules_ok (fun i s' K hk => ?_) _ ?_)
  · refine wpAny_ite ?_
    split
    · exact wpAny_bind (wpAny_rule (wpAny_pure hk))
    · exact wpAny_pure hk
  · rw [hr]
    exact wpAny_pure h
/-- the first place to look at -/
theorem find_at {T : Array Nat} {p c : Nat} (h : T.toList.drop p = c :: r) : T.getD p 0 = c ∧ p < T.size := by
  have h1 : (T.toList.drop p).length = r.length + 1 := by rw [h]; rfl
  rw [List.length_drop, Array.length_toList] at h1
  refine ⟨?_, by omega⟩
  have h2 : (T.toList.drop p)[0]? = some c := by rw [h]; rfl
  rw [List.getElem?_drop, Nat.add_zero, Array.getElem?_toList] at h2
  rw [Array.getD_eq_getD_getElem?, h2]; rfl
theorem drop_next {T : Array Nat} {p c : Nat} {r : List Nat} (h : T.toList.drop p = c :: r) : T.toList.drop (p + 1) = r := by
  have : T.toList.drop (p + 1) = (T.toList.drop p).drop 1 := by rw [List.drop_drop]
  rw [this, h]; rfl
theorem search_from {T : Array Nat} {p : Nat} (h : p < T.size) : Sre.forSearch cd T 0 p T.size false = (mF T T.size T.size p).attemptFrom p true := by
  rw [search_is, if_neg]
  simp
  omega
theorem srch_lf {T : Array Nat} {p : Nat} {r : List Nat} (h : T.toList.drop p = 10 :: r) : ∃ n, n ≤ 100 ∧ Res p (p + 1) (Sre.M.runFor n (Sre.forSearch cd T 0 p T.size false)) := by
  obtain ⟨h0, hl⟩ := find_at h
  refine ⟨9, by decide, ?_⟩
  obtain ⟨k, hk⟩ : ∃ k, T.size + 1 - p = k + 1 := ⟨T.size - p, by omega⟩
  rw [search_from hl, from_is (seen := _) (s := p) (by show Sre.M.admitted _ (T.size + 1 - p) p _ = _; rw [hk]; exact look_lf _ rfl rfl rfl h0 hl)]
  exact run_lf h0 hl
theorem srch_crlf {T : Array Nat} {p : Nat} {r : List Nat} (h : T.toList.drop p = 13 :: 10 :: r) : ∃ n, n ≤ 100 ∧ Res p (p + 2) (Sre.M.runFor n (Sre.forSearch cd T 0 p T.size false)) := by
  obtain ⟨h0, hl⟩ := find_at h
  obtain ⟨h1, hl1⟩ := find_at (drop_next h)
  refine ⟨8, by decide, ?_⟩
  obtain ⟨k, hk⟩ : ∃ k, T.size + 1 - p = k + 1 := ⟨T.size - p, by omega⟩
  rw [search_from hl, from_is (seen := _) (s := p) (by show Sre.M.admitted _ (T.size + 1 - p) p _ = _; rw [hk]; exact look_cr _ rfl rfl rfl h0 hl)]
  exact run_crlf h0 h1 hl1
theorem srch_cr {T : Array Nat} {p c : Nat} {r : List Nat} (h : T.toList.drop p = 13 :: c :: r) (hc : c ≠ 10) : ∃ n, n ≤ 100 ∧ Res p (p + 1) (Sre.M.runFor n (Sre.forSearch cd T 0 p T.size false)) := by
  obtain ⟨h0, hl⟩ := find_at h
  obtain ⟨h1, hl1⟩ := find_at (drop_next h)
  refine ⟨15, by decide, ?_⟩
  obtain ⟨k, hk⟩ : ∃ k, T.size + 1 - p = k + 1 := ⟨T.size - p, by omega⟩
  rw [search_from hl, from_is (seen := _) (s := p) (by show Sre.M.admitted _ (T.size + 1 - p) p _ = _; rw [hk]; exact look_cr _ rfl rfl rfl h0 hl)]
  exact run_cr h0 (by rw [h1]; exact hc) hl1
theorem srch_xlf {T : Array Nat} {p : Nat} {r : List Nat} (h : T.toList.drop p = 120 :: 10 :: r) : ∃ n, n ≤ 100 ∧ Res (p + 1) (p + 2) (Sre.M.runFor n (Sre.forSearch cd T 0 p T.size false)) := by
  obtain ⟨h0, hl⟩ := find_at h
  obtain ⟨h1, hl1⟩ := find_at (drop_next h)
  refine ⟨9, by decide, ?_⟩
  obtain ⟨k, hk⟩ : ∃ k, T.size + 1 - p = k + 2 := ⟨T.size - p - 1, by omega⟩
  rw [search_from hl, from_is (seen := _) (s := p + 1) (by show Sre.M.admitted _ (T.size + 1 - p) p _ = _; rw [hk, look_x _ rfl rfl rfl h0 hl]; exact look_lf _ rfl rfl rfl h1 hl1)]
  exact run_lf h1 hl1
theorem srch_x {T : Array Nat} {p : Nat} (h : T.toList.drop p = [120]) : (Sre.M.runFor 1 (Sre.forSearch cd T 0 p T.size false)).outcome = some .failed := by
  obtain ⟨h0, hl⟩ := find_at h
  have h2 := congrArg List.length h
  rw [List.length_drop, Array.length_toList] at h2
  have h3 : ¬ p + 1 < T.size := by simp at h2; omega
  obtain ⟨k, hk⟩ : ∃ k, T.size + 1 - p = k + 1 := ⟨T.size - p, by omega⟩
  rw [search_from hl, from_no (seen := _) (by show Sre.M.admitted _ (T.size + 1 - p) p _ = _; rw [hk, look_x _ rfl rfl rfl h0 hl]; exact look_end _ h3)]
  rfl
end
end Mine
namespace Mine
open PySem.Builtin PySem.Builtin.Re
set_option maxRecDepth 100000
/-- the pattern as it lies on the heap -/
def PatAt (h : Heap) (P C : Addr) : Prop :=
  (∃ o pt t1 t2 t3 t4, h.get? P = some o ∧ o.cls = .type "re.Pattern" ∧ o.dict = none ∧ o.data = .fields #[.str pt t1, .int 32 t2, .int 0 t3, .none, .none, .ref C, .int 0 t4]) ∧
  (∃ o xs n, h.get? C = some o ∧ o.data = .seq xs n ∧ (xs.map reRawOf).map (·.toNat) = cd)
theorem PatAt.keeps {h h' : Heap} {P C : Addr} (p : PatAt h P C) (k : ∀ b o, h.get? b = some o → h'.get? b = some o) : PatAt h' P C := by
  obtain ⟨⟨o, pt, t1, t2, t3, t4, h1, h2⟩, ⟨o', xs, n, h3, h4⟩⟩ := p
  exact ⟨⟨o, pt, t1, t2, t3, t4, k _ _ h1, h2⟩, ⟨o', xs, n, k _ _ h3, h4⟩⟩
def targ (P : Addr) (X : Str) (u : Tok) : ReTarget := { pattern := .ref P, string := .str X u, code := cd, text := X.cps, kind := 0, groups := 0, pos := 0, lim := X.cps.size }
section
variable {M : Model} {A : Around} {E : Value → Shared → Prop} {s : Shared}
theorem whole_ok {P C : Addr} {X : Str} {u : Tok} {Q : ReTarget → Shared → Prop} (p : PatAt s.heap P C) (h : Q (targ P X u) s) : wpAny M A (reWholeTarget (.ref P) (.str X u)) Q E s := by
  obtain ⟨⟨o, pt, t1, t2, t3, t4, h1, h2, h2', h3⟩, ⟨o', xs, n, h4, h5, h6⟩⟩ := p
  unfold reWholeTarget
  refine wpAny_bind (wpAny_fieldsOf h1 h3 ?_)
  refine wpAny_bind (wpAny_of_eq (a := (X.cps, 0)) rfl ?_)
  refine wpAny_ite (KPc.ite_no (by show ¬ ((((0 : Nat) == 0) && ((0 : Nat) == 1)) = true); decide) ?_)
  refine wpAny_ite (KPc.ite_no (by show ¬ ((((0 : Nat) == 1) && ((0 : Nat) == 0)) = true); decide) ?_)
  refine wpAny_bind (wpAny_of_eq (a := ()) rfl ?_)
  refine wpAny_bind (m := reRawItems (.ref C)) ?_
  unfold reRawItems
  refine wpAny_bind (m := seqItems? (.ref C)) ?_
  unfold seqItems?
  refine wpAny_bind (wpAny_load h4 ?_)
  rw [h5]
  refine wpAny_pure (wpAny_pure (wpAny_pure ?_))
  show Q { pattern := .ref P, string := .str X u, code := (xs.map reRawOf).map (·.toNat), text := X.cps, kind := 0, groups := 0, pos := 0, lim := X.cps.size } s
  rw [h6]
  exact h
theorem push_ok {l : Addr} {ps : List Value} {v : Value} {Q : Unit → Shared → Prop} (hl : s.heap.IsList l ps.toArray) (hz : ps.length ≤ 1000) (h : ∀ h', h'.IsList l (ps ++ [v]).toArray → (∀ b o, b ≠ l → s.heap.get? b = some o → h'.get? b = some o) → Q () { s with heap := h' }) : wpAny M A (updateSeq l (·.push v)) Q E s := by
  obtain ⟨o, ho, hc, n, hd⟩ := hl
  refine wpAny_updateSeq ho hd (h _ ?_ fun b o' hb e => Heap.get?_update_of_ne _ (fun q => hb q.symm) e) (by rw [List.size_toArray, sizeLine_eq]; omega) (by rw [Array.size_push, List.size_toArray, sizeLine_eq]; omega)
  obtain ⟨c, d, dt, sl⟩ := o
  simp only at hd hc
  subst hd; subst hc
  refine ⟨_, Heap.get?_update_self _ ho rfl, rfl, (if (ps.toArray.push v).size == ps.toArray.size then n else n + 1), ?_⟩
  rw [← List.push_toArray]
  rfl
theorem slice_ok {T : Array Nat} {b e : Nat} {Q : Value → Shared → Prop} (hz : T.size ≤ 10000) (h : ∀ t k, Q (.str ⟨T.extract b e⟩ t) { s with toks := k }) : wpAny M A (reSlice T 0 b e) Q E s := by
  refine wpAny_mkStr (h _ _) ?_
  show (T.extract b e).size ≤ _
  rw [Array.size_extract, sizeLine_eq]
  omega
end
end Mine
namespace Mine
open PySem.Builtin PySem.Builtin.Re
set_option maxRecDepth 100000
inductive Segs : List Nat → Nat → Prop
  | last : Segs [120] 0
  | crlf {r n} : Segs r n → Segs (13 :: 10 :: r) (n + 1)
  | lf {r n} : Segs r n → Segs (10 :: r) (n + 1)
  | cr {c r n} : Segs (c :: r) n → c ≠ 10 → Segs (13 :: c :: r) (n + 1)
theorem entry_sub : entryFor table "re.Pattern.sub" = some Builtin.«re.Pattern.sub» := entryFor_of_tree (by kernel_rfl)
theorem entry_loop : entryFor table "re.Pattern.sub.loop" = some Builtin.«re.Pattern.sub.loop» := entryFor_of_tree (by kernel_rfl)
theorem plain_loop : plainId "re.Pattern.sub.loop" = true := by decide +kernel
def lp (P l : Addr) (X : Str) (u : Tok) (crlf : Str) (tc : Tok) (k d : Int) : Code :=
  .builtin "re.Pattern.sub.loop" ⟨[.ref P, .str X u, .str crlf tc, rawInt 0, rawInt 0, rawInt k, rawInt d, rawInt d, .bool false, .ref l, .bool false], []⟩
theorem join_k {prog : Program} {w : World} {A : Around} {E : Value → Shared → Prop} {s : Shared} {x : Str} {t : Tok} {Q : Value → Shared → Prop} {D : Addr} {items : Array Value} {ys : List Str} (hl : s.heap.IsList D items) (hi : StrsAre items.toList ys) (h2 : 2 ≤ ys.length) (hok : (ys.map (·.length)).sum + ys.length * x.length ≤ 16777216)
    (h : ∀ t' k, 1 ≤ k → Q (.str (Txt.join x ys) t') { s with toks := k }) : wpAny (model prog w) A (call (.builtin "str.join") [.str x t, .ref D]) Q E s := by
  obtain ⟨l, hv, ht⟩ := strsAre_values hi
  have e : items = (strValues l).toArray := by rw [← hv]
  subst e
  subst ht
  have hok' := joinOk_of hok
  have hfit := joinFit_length (by unfold JoinOk at hok'; rwa [Bool.not_eq_true'] at hok')
  unfold JoinOk at hok'
  rw [Bool.not_eq_true'] at hok'
  refine call_meets F.slot_str_join (typeIs_str _ _ _) F.entry_str_join (F.args_str_join_2 _ _) (meets_str_join_list x t D l hok') ⟨hl, ?_⟩
  match l, h2, hfit, h with
  | [], h2, _, _ => exact absurd h2 (by simp)
  | [p], h2, _, _ => exact absurd h2 (by simp)
  | _ :: _ :: _, _, hfit, h => exact ⟨hfit, h _ _ (Nat.le_add_left _ _)⟩
section
variable {prog : Program} {w : World} {A : Around} {R : Result → Shared → Prop} {P C l : Addr} {X : Str} {u tc : Tok} {crlf : Str} {hs : Heap} {s₀ : Shared}
/-- one turn of the sub's loop, a match right at d -/
theorem turn_ok {d e : Nat} {k : Int} {h : Heap} {tk : Nat} {ps : List Value} (hp : PatAt hs P C) (hl0 : hs.get? l = none) (hk : ∀ b o, hs.get? b = some o → h.get? b = some o)
    (hl : h.IsList l ps.toArray) (hz : ps.length ≤ 1000) (hde : d < e) (hr : ∃ n, n ≤ 100 ∧ Res d e (Sre.M.runFor n (Sre.forSearch cd X.cps 0 d X.cps.size false)))
    (next : ∀ h', h'.IsList l (ps ++ [Value.str crlf tc]).toArray → (∀ b o, hs.get? b = some o → h'.get? b = some o) → codeAny (model prog w) A (lp P l X u crlf tc (k + 1) e) R { s₀ with heap := h', toks := tk }) :
    codeAny (model prog w) A (lp P l X u crlf tc k d) R { s₀ with heap := h, toks := tk } := by
  obtain ⟨n, hn, hr⟩ := hr
  refine codeAny_builtin entry_loop ?_
  rw [Around.under_plainId plain_loop _]
  unfold Builtin.«re.Pattern.sub.loop»
  refine wpAny_bind (whole_ok (hp.keeps hk) ?_)
  refine wpAny_ite (KPc.ite_yes rfl ?_)
  refine wpAny_bind (wpAny_of_eq (a := ()) rfl ?_)
  refine wpAny_bind (wpAny_ite (KPc.ite_no (by simp) ?_))
  show wpAny _ _ (reRunToEnd (Sre.forSearch cd X.cps 0 (Int.toNat (d : Int)) X.cps.size false)) _ _ _
  rw [Int.toNat_natCast]
  refine end_some hr hn fun m hm => ?_
  obtain ⟨_, hm1, hm2⟩ := hm
  dsimp only
  refine wpAny_ite (KPc.ite_no (by rw [hm1]; simp) ?_)
  refine wpAny_bind (wpAny_pure ?_)
  refine wpAny_ite (KPc.ite_yes rfl ?_)
  refine wpAny_bind (push_ok hl hz fun h' hl' hk' => ?_)
  refine wpAny_pure ⟨plainId_quiet plain_loop _, ?_⟩
  have hb : (e == d) = false := by simp; omega
  rw [hm1, hm2, hb]
  exact next h' hl' fun b o hbo => hk' b o (fun q => by rw [q, hl0] at hbo; cases hbo) (hk b o hbo)
/-- the loop's end: the x alone is left -/
theorem last_ok {d : Nat} {k : Int} {h : Heap} {tk : Nat} {ps : List Value} {ys : List Str} (hp : PatAt hs P C) (hl0 : hs.get? l = none) (hk : ∀ b o, hs.get? b = some o → h.get? b = some o)
    (hl : h.IsList l ps.toArray) (hz : ps.length ≤ 1000) (hys : StrsAre ps ys) (hy1 : 1 ≤ ys.length) (hsum : (ys.map (·.length)).sum ≤ 100000) (hX : X.length ≤ 1000) (hd : X.cps.toList.drop d = [120])
    (hR : ∀ h' t tk', 1 ≤ tk' → (∀ b o, hs.get? b = some o → h'.get? b = some o) → R (.ok (.ret (.str (Txt.join ⟨#[]⟩ (ys ++ [⟨#[120]⟩])) t))) { s₀ with heap := h', toks := tk' }) :
    codeAny (model prog w) A (lp P l X u crlf tc k d) R { s₀ with heap := h, toks := tk } := by
  have hXs : X.cps.size ≤ 1000 := hX
  have hlt : d < X.cps.size := (find_at hd).2
  have hcut : (⟨X.cps.extract d X.cps.size⟩ : Str) = ⟨#[120]⟩ := by
    apply tl_ext
    show (X.cps.extract d X.cps.size).toList = [120]
    rw [Array.toList_extract, List.extract_eq_take_drop, hd]
    rw [List.take_of_length_le]
    simp; omega
  refine codeAny_builtin entry_loop ?_
  rw [Around.under_plainId plain_loop _]
  unfold Builtin.«re.Pattern.sub.loop»
  refine wpAny_bind (whole_ok (hp.keeps hk) ?_)
  refine wpAny_ite (KPc.ite_yes rfl ?_)
  refine wpAny_bind (wpAny_of_eq (a := ()) rfl ?_)
  refine wpAny_bind (wpAny_ite (KPc.ite_no (by simp) ?_))
  show wpAny _ _ (reRunToEnd (Sre.forSearch cd X.cps 0 (Int.toNat (d : Int)) X.cps.size false)) _ _ _
  rw [Int.toNat_natCast]
  refine end_none (srch_x hd) (by decide) ?_
  dsimp only
  refine wpAny_ite (KPc.ite_yes hlt ?_)
  refine wpAny_bind (slice_ok (by show X.cps.size ≤ _; omega) fun t1 k1 => ?_)
  refine wpAny_bind (push_ok hl hz fun h' hl' hk' => ?_)
  have hk2 : ∀ b o, hs.get? b = some o → h'.get? b = some o := fun b o hbo => hk' b o (fun q => by rw [q, hl0] at hbo; cases hbo) (hk b o hbo)
  refine wpAny_bind (slice_ok (by show X.cps.size ≤ _; omega) fun t2 k2 => ?_)
  refine wpAny_bind (m := seqItems? (.ref l)) ?_
  unfold seqItems?
  obtain ⟨o, ho, hc, n, hd'⟩ := hl'
  refine wpAny_bind (wpAny_load ho ?_)
  rw [hd']
  refine wpAny_pure ?_
  refine wpAny_ite (KPc.ite_no (by simp) ?_)
  have hj : ∀ ps' : List Value, ps' = ps ++ [Value.str ⟨X.cps.extract d X.cps.size⟩ t1] → StrsAre ps' (ys ++ [⟨#[120]⟩]) := by
    rintro _ rfl
    rw [hcut]
    exact StrsAre.append' hys (.cons _ _ .nil)
  have hlen := hys.length
  refine wpAny_bind (join_k ⟨o, ho, hc, n, hd'⟩ (ys := ys ++ [Str.mk #[120]]) (by rw [List.toList_toArray]; exact hj _ rfl) (by rw [List.length_append]; show 2 ≤ ys.length + 1; omega) ?_ fun t' k' hk3 => ?_)
  · rw [List.map_append, List.sum_append, List.length_append]
    show (ys.map (·.length)).sum + 1 + (ys.length + 1) * (X.cps.extract 0 0).size ≤ _
    rw [Array.size_extract]
    simp
    omega
  refine wpAny_ite (KPc.ite_no (by decide) ?_)
  refine wpAny_pure ?_
  have e0 : (⟨X.cps.extract 0 0⟩ : Str) = ⟨#[]⟩ := by
    apply tl_ext
    show (X.cps.extract 0 0).toList = []
    simp
  show R (.ok (.ret (.str (Txt.join ⟨X.cps.extract 0 0⟩ (ys ++ [Str.mk #[120]])) t'))) { s₀ with heap := h', toks := k' }
  rw [e0]
  exact hR h' t' k' hk3 hk2
end
end Mine
namespace Mine
open PySem.Builtin PySem.Builtin.Re
set_option maxRecDepth 100000
section
variable {prog : Program} {w : World} {A : Around} {R : Result → Shared → Prop} {P C l : Addr} {X : Str} {u tc : Tok} {crlf : Str} {hs : Heap} {s₀ : Shared}
theorem first_ok {k : Int} {h : Heap} {tk : Nat} {r : List Nat} (hp : PatAt hs P C) (hl0 : hs.get? l = none) (hk : ∀ b o, hs.get? b = some o → h.get? b = some o)
    (hl : h.IsList l ([] : List Value).toArray) (hX : X.length ≤ 1000) (hd : X.cps.toList.drop 0 = 120 :: 10 :: r)
    (next : ∀ h' t tk', h'.IsList l [Value.str ⟨#[120]⟩ t, Value.str crlf tc].toArray → (∀ b o, hs.get? b = some o → h'.get? b = some o) → codeAny (model prog w) A (lp P l X u crlf tc (k + 1) ((2 : Nat) : Int)) R { s₀ with heap := h', toks := tk' }) :
    codeAny (model prog w) A (lp P l X u crlf tc k ((0 : Nat) : Int)) R { s₀ with heap := h, toks := tk } := by
  obtain ⟨n, hn, hr⟩ := srch_xlf hd
  have hXs : X.cps.size ≤ 1000 := hX
  have hcut : (⟨X.cps.extract 0 1⟩ : Str) = ⟨#[120]⟩ := by
    apply tl_ext
    show (X.cps.extract 0 1).toList = [120]
    rw [Array.toList_extract, List.extract_eq_take_drop, hd]
    rfl
  refine codeAny_builtin entry_loop ?_
  rw [Around.under_plainId plain_loop _]
  unfold Builtin.«re.Pattern.sub.loop»
  refine wpAny_bind (whole_ok (hp.keeps hk) ?_)
  refine wpAny_ite (KPc.ite_yes rfl ?_)
  refine wpAny_bind (wpAny_of_eq (a := ()) rfl ?_)
  refine wpAny_bind (wpAny_ite (KPc.ite_no (by simp) ?_))
  show wpAny _ _ (reRunToEnd (Sre.forSearch cd X.cps 0 (Int.toNat ((0 : Nat) : Int)) X.cps.size false)) _ _ _
  rw [Int.toNat_natCast]
  refine end_some hr hn fun m hm => ?_
  obtain ⟨_, hm1, hm2⟩ := hm
  dsimp only
  refine wpAny_ite (KPc.ite_yes (by rw [hm1]; simp) ?_)
  refine wpAny_bind (slice_ok (by show X.cps.size ≤ _; omega) fun t1 k1 => ?_)
  refine wpAny_bind (push_ok hl (by simp) fun h' hl' hk' => ?_)
  have hk2 : ∀ b o, hs.get? b = some o → h'.get? b = some o := fun b o hbo => hk' b o (fun q => by rw [q, hl0] at hbo; cases hbo) (hk b o hbo)
  refine wpAny_bind (wpAny_pure ?_)
  refine wpAny_ite (KPc.ite_yes rfl ?_)
  refine wpAny_bind (push_ok hl' (by simp) fun h2 hl2 hk3 => ?_)
  refine wpAny_pure ⟨plainId_quiet plain_loop _, ?_⟩
  rw [hm1, hm2]
  rw [hm1] at hl2
  have e : (⟨(targ P X u).text.extract (Int.toNat ((0 : Nat) : Int)) (0 + 1)⟩ : Str) = ⟨#[120]⟩ := hcut
  have hl3 : h2.IsList l [Value.str ⟨#[120]⟩ t1, Value.str crlf tc].toArray := by
    rw [← e]
    exact hl2
  exact next h2 t1 k1 hl3 fun b o hbo => hk3 b o (fun q => by rw [q, hl0] at hbo; cases hbo) (hk2 b o hbo)
theorem chain_ok {rest : List Nat} {n : Nat} (g : Segs rest n) (hp : PatAt hs P C) (hl0 : hs.get? l = none) (hX : X.length ≤ 1000) (hcr : crlf.length = 2) :
    ∀ (d : Nat) (k : Int) (h : Heap) (tk : Nat) (ps : List Value) (ys : List Str), X.cps.toList.drop d = rest → (∀ b o, hs.get? b = some o → h.get? b = some o) → h.IsList l ps.toArray → ps.length + n ≤ 1000 → StrsAre ps ys → 1 ≤ ys.length → (ys.map (·.length)).sum + 2 * n ≤ 100000 →
      (∀ h' t tk', 1 ≤ tk' → (∀ b o, hs.get? b = some o → h'.get? b = some o) → R (.ok (.ret (.str (Txt.join ⟨#[]⟩ (ys ++ (List.replicate n crlf ++ [⟨#[120]⟩]))) t))) { s₀ with heap := h', toks := tk' }) →
      codeAny (model prog w) A (lp P l X u crlf tc k d) R { s₀ with heap := h, toks := tk } := by
  have more : ∀ {n : Nat} {ys : List Str}, ys ++ (List.replicate (n + 1) crlf ++ [(⟨#[120]⟩ : Str)]) = (ys ++ [crlf]) ++ (List.replicate n crlf ++ [⟨#[120]⟩]) := fun {n ys} => by
    rw [List.replicate_succ]; simp
  have sm : ∀ {ys : List Str}, ((ys ++ [crlf]).map (·.length)).sum = (ys.map (·.length)).sum + 2 := fun {ys} => by simp [hcr]
  induction g with
  | last =>
    intro d k h tk ps ys hd hk hl hz hys hy1 hsum hR
    exact last_ok hp hl0 hk hl (by omega) hys hy1 (by omega) hX hd hR
  | @crlf r n g ih =>
    intro d k h tk ps ys hd hk hl hz hys hy1 hsum hR
    refine turn_ok (e := d + 2) hp hl0 hk hl (by omega) (by omega) (srch_crlf hd) fun h' hl' hk' => ?_
    refine ih (d + 2) (k + 1) h' tk (ps ++ [Value.str crlf tc]) (ys ++ [crlf]) (drop_next (drop_next hd)) hk' hl' (by simp; omega) (StrsAre.append' hys (.cons _ _ .nil)) (by simp) (by rw [sm]; omega) fun h2 t tk' h1' hk2 => ?_
    rw [← more]
    exact hR h2 t tk' h1' hk2
  | @lf r n g ih =>
    intro d k h tk ps ys hd hk hl hz hys hy1 hsum hR
    refine turn_ok (e := d + 1) hp hl0 hk hl (by omega) (by omega) (srch_lf hd) fun h' hl' hk' => ?_
    refine ih (d + 1) (k + 1) h' tk (ps ++ [Value.str crlf tc]) (ys ++ [crlf]) (drop_next hd) hk' hl' (by simp; omega) (StrsAre.append' hys (.cons _ _ .nil)) (by simp) (by rw [sm]; omega) fun h2 t tk' h1' hk2 => ?_
    rw [← more]
    exact hR h2 t tk' h1' hk2
  | @cr c r n g hc ih =>
    intro d k h tk ps ys hd hk hl hz hys hy1 hsum hR
    refine turn_ok (e := d + 1) hp hl0 hk hl (by omega) (by omega) (srch_cr hd hc) fun h' hl' hk' => ?_
    refine ih (d + 1) (k + 1) h' tk (ps ++ [Value.str crlf tc]) (ys ++ [crlf]) (drop_next hd) hk' hl' (by simp; omega) (StrsAre.append' hys (.cons _ _ .nil)) (by simp) (by rw [sm]; omega) fun h2 t tk' h1' hk2 => ?_
    rw [← more]
    exact hR h2 t tk' h1' hk2
end
theorem slot_sub : Slot "re.Pattern" "sub" "re.Pattern.sub" :=
  .of (owner := "re.Pattern") (n := "sub") (by rw [typeLookup_type, builtinLookup_eq_fast]; kernel_rfl) (by decide +kernel) (by decide +kernel) (by decide +kernel)
    (by first | exact .inl (by decide +kernel) | exact .inr (by decide +kernel)) (by rw [isSubtype_type]; kernel_rfl)
theorem type_sub : typeOf (.builtin "re.Pattern.sub") = pure (.type "method_descriptor") := by show builtinType _ = _; rw [builtinType_eq_fast]; kernel_rfl
theorem plainAttrs_pat : PlainAttrs "re.Pattern" :=
  ⟨⟨"object.__getattribute__", by rw [typeLookup_type, builtinLookup_eq_fast]; kernel_rfl, by decide +kernel⟩, by rw [typeLookup_type, builtinLookup_eq_fast]; kernel_rfl⟩
theorem args_sub (a b c : Value) : argsOk "re.Pattern.sub" ⟨[a, b, c], []⟩ := by unfold argsOk; kernel_rfl
theorem noCall_str : typeLookup (.type "str") "__call__" = pure none := by rw [typeLookup_type, builtinLookup_eq_fast]; kernel_rfl
end Mine
namespace Mine
open PySem.Builtin PySem.Builtin.Re
set_option maxRecDepth 100000
theorem sub_meets {P C : Addr} {X : Str} {u t1 : Tok} {r : List Nat} {n : Nat} (hX : X.length ≤ 1000) (hd : X.cps.toList = 120 :: 10 :: r) (g : Segs r n) (hn : n ≤ 500) :
    Meets (Builtin.«re.Pattern.sub» ⟨[.ref P, .str (Str.ofString "\r\n") t1, .str X u], []⟩) (fun _ R s => PatAt s.heap P C ∧ ∀ h' t tk', 1 ≤ tk' → (∀ b o, s.heap.get? b = some o → h'.get? b = some o) →
      R (.ok (.ret (.str (Txt.join ⟨#[]⟩ ([⟨#[120]⟩, Str.ofString "\r\n"] ++ (List.replicate n (Str.ofString "\r\n") ++ [⟨#[120]⟩]))) t))) { s with heap := h', toks := tk' }) := by
  rintro prog w A R s ⟨hp, hR⟩
  show wpAny _ A.in1 (reSubstitute "re.Pattern.sub" "sub" false ⟨[.ref P, .str (Str.ofString "\r\n") t1, .str X u], []⟩) _ _ s
  unfold reSubstitute
  refine wpAny_bind (wpAny_of_eq (a := [some (Value.str (Str.ofString "\r\n") t1), some (Value.str X u), none]) rfl ?_)
  refine wpAny_bind (wpAny_pure ?_)
  refine wpAny_bind (wpAny_specialOf (typeIs_str _ _ _) noCall_str ?_)
  dsimp only
  refine wpAny_ite (KPc.ite_no (by decide) ?_)
  refine wpAny_bind (wpAny_of_eq (a := some (Str.ofString "\r\n")) rfl ?_)
  refine wpAny_bind (wpAny_pure ?_)
  refine wpAny_ite (KPc.ite_no (by decide) ?_)
  refine wpAny_ite (KPc.ite_yes (by decide +kernel) ?_)
  refine wpAny_bind (wpAny_pure ?_)
  dsimp only
  refine wpAny_bind (wpAny_holding (whole_ok hp ?_))
  refine wpAny_ite (KPc.ite_no (by decide) ?_)
  refine wpAny_bind (m := newList []) (wpAny_newObj_type ?_)
  have hl0 : s.heap.get? s.heap.objs.size = none := by
    cases e : s.heap.get? s.heap.objs.size with
    | none => rfl
    | some o => exact absurd (Heap.lt_size e) (Nat.lt_irrefl _)
  have hk0 : ∀ b o, s.heap.get? b = some o → (s.heap.push { cls := .type "list", data := .seq ([] : List Value).toArray }).get? b = some o := fun b o e => Heap.get?_push_of_some _ e
  have hl : (s.heap.push { cls := .type "list", data := .seq ([] : List Value).toArray }).IsList s.heap.objs.size ([] : List Value).toArray := ⟨_, Heap.get?_push_size _ rfl, rfl, 0, rfl⟩
  refine wpAny_pure ⟨plainId_quiet plain_loop _, ?_⟩
  refine first_ok (k := 0) (h := s.heap.push _) (r := r) hp hl0 hk0 hl hX hd fun h' t tk' hl' hk' => ?_
  refine chain_ok g hp hl0 hX (by decide) 2 (0 + 1) h' tk' [Value.str ⟨#[120]⟩ t, Value.str (Str.ofString "\r\n") t1] [⟨#[120]⟩, Str.ofString "\r\n"] (by rw [hd]; rfl) hk' hl' (by simp; omega) (.cons _ _ (.cons _ _ .nil)) (by simp) ?_ hR
  show 1 + ((Str.ofString "\r\n").length + 0) + 2 * n ≤ 100000
  rw [show (Str.ofString "\r\n").length = 2 by decide]
  omega
end Mine
namespace Mine
set_option maxRecDepth 100000
/-- an x, n+1 ends, an x -/
noncomputable def yl : Nat → List Nat
  | 0 => [120]
  | n + 1 => 13 :: 10 :: yl n
noncomputable def YY (n : Nat) : Str := ⟨(120 :: yl (n + 1)).toArray⟩
theorem tl_join : ∀ l : List Str, tl (Str.join ⟨#[]⟩ l) = l.flatMap tl
  | [] => rfl
  | [x] => by simp [Str.join]
  | x :: y :: r => by
    rw [Str.join, tl_app, tl_app, tl_join (y :: r)]
    · simp [tl]
    · exact fun h => nomatch h
theorem yy_eq (n : Nat) : Txt.join ⟨#[]⟩ ([⟨#[120]⟩, Str.ofString "\r\n"] ++ (List.replicate n (Str.ofString "\r\n") ++ [⟨#[120]⟩])) = YY n := by
  unfold Txt.join
  rw [StrLaws.glued_eq_join]
  apply tl_ext
  rw [tl_join]
  have e : ∀ n, (List.replicate n (Str.ofString "\r\n") ++ [(⟨#[120]⟩ : Str)]).flatMap tl = yl n := fun n => by
    induction n with
    | zero => rfl
    | succ n ih =>
      rw [List.replicate_succ, List.cons_append, List.flatMap_cons, ih, show tl (Str.ofString "\r\n") = [13, 10] by decide]
      rfl
  rw [List.flatMap_append, e]
  rw [List.flatMap_cons, List.flatMap_cons, show tl (Str.ofString "\r\n") = [13, 10] by decide]
  rfl
theorem yl_len : ∀ n, (yl n).length = 2 * n + 1
  | 0 => rfl
  | n + 1 => by simp [yl, yl_len n]; omega
theorem yy_len (n : Nat) : (YY n).length = 2 * n + 4 := by
  show ((120 :: yl (n + 1)).toArray).size = _
  simp [yl_len]
  omega
def cuts (n : Nat) : List Nat := (List.range (n + 1)).map fun j => 1 + 2 * j
theorem yy_parts : ((List.range 101).all fun n => Builtin.Str.glued (Str.ofString "") (Builtin.Str.partsBetween (YY n) (cuts n) 2) == Str.ofString "xx") = true := by decide +kernel
open Builtin Builtin.Str in
theorem sub_at (X : Str) (i : Nat) : subAt X (Str.ofString "\r\n") i = decide (((tl X).drop i).take 2 = [13, 10]) := by
  unfold subAt
  have e : (Str.ofString "\r\n").cps = [13, 10].toArray := by decide
  rw [show (Str.ofString "\r\n").length = 2 by decide, e]
  have h : (X.cps.extract i (i + 2)).toList = ((tl X).drop i).take 2 := by
    rw [Array.toList_extract, List.extract_eq_take_drop, show i + 2 - i = 2 by omega]; rfl
  by_cases q : ((tl X).drop i).take 2 = [13, 10]
  · rw [decide_eq_true q]
    have : X.cps.extract i (i + 2) = [13, 10].toArray := by
      apply Array.toList_inj.mp; rw [h, q]
    rw [this]; decide
  · rw [decide_eq_false q]
    apply beq_false_of_ne
    intro hh
    exact q (by rw [← h, hh])
section
variable {X : Str} {hi lim : Nat}
theorem body_no {i : Nat} {st : Array Nat × Nat} (h : ¬ (i + 2 ≤ hi ∧ ((tl X).drop i).take 2 = [13, 10] ∧ st.2 ≤ i)) : StrLaws.occBody X (Str.ofString "\r\n") hi lim i st = pure (ForInStep.yield st) := by
  unfold StrLaws.occBody
  rw [if_neg]
  rw [show (Str.ofString "\r\n").length = 2 by decide, sub_at, decide_eq_true_eq]
  rintro ⟨⟨⟨_, a⟩, b⟩, c⟩
  exact h ⟨b, c, a⟩
theorem body_yes {i : Nat} {st : Array Nat × Nat} (h1 : i + 2 ≤ hi) (h2 : ((tl X).drop i).take 2 = [13, 10]) (h3 : st.2 ≤ i) (h4 : st.1.size < lim) : StrLaws.occBody X (Str.ofString "\r\n") hi lim i st = pure (ForInStep.yield (st.1.push i, i + 2)) := by
  unfold StrLaws.occBody
  rw [if_pos]
  · rw [show (Str.ofString "\r\n").length = 2 by decide]
  · rw [show (Str.ofString "\r\n").length = 2 by decide, sub_at, decide_eq_true_eq]
    exact ⟨⟨⟨h4, h3⟩, h1⟩, h2⟩
theorem occ_step {i k : Nat} {st st' : Array Nat × Nat} (h : StrLaws.occBody X (Str.ofString "\r\n") hi lim i st = pure (ForInStep.yield st')) :
    (forIn (m := Id) (List.range' i (k + 1)) st (StrLaws.occBody X (Str.ofString "\r\n") hi lim)) = forIn (m := Id) (List.range' (i + 1) k) st' (StrLaws.occBody X (Str.ofString "\r\n") hi lim) := by
  rw [List.range'_succ, List.forIn_cons, h]
  rfl
theorem occ_go (hhi : hi = X.length) : ∀ (m i free : Nat) (acc : Array Nat), free ≤ i → (tl X).drop i = yl m → acc.size + m ≤ lim →
    (forIn (m := Id) (List.range' i (2 * m + 2)) (acc, free) (StrLaws.occBody X (Str.ofString "\r\n") hi lim)).run.fst.toList = acc.toList ++ (List.range m).map fun j => i + 2 * j
  | 0, i, free, acc, h1, h2, h3 => by
    have hl := congrArg List.length h2
    rw [List.length_drop, ← len_tl, ← hhi] at hl
    simp [yl] at hl
    rw [occ_step (body_no (by omega)), occ_step (body_no (by omega))]
    simp
  | m + 1, i, free, acc, h1, h2, h3 => by
    have hl := congrArg List.length h2
    rw [List.length_drop, ← len_tl, ← hhi, yl_len] at hl
    have h2a : (tl X).drop (i + 1) = 10 :: yl m := by
      rw [show i + 1 = i + 1 by rfl, ← List.drop_drop, h2]; rfl
    have h2b : (tl X).drop (i + 1 + 1) = yl m := by
      rw [← List.drop_drop, h2a]; rfl
    rw [show 2 * (m + 1) + 2 = (2 * m + 2) + 1 + 1 by omega, occ_step (body_yes (by omega) (by rw [h2]; rfl) h1 (by simp; omega)), occ_step (body_no (by rintro ⟨_, _, q⟩; dsimp only at q; omega)), occ_go hhi m (i + 1 + 1) (i + 2) (acc.push i) (by omega) h2b (by simp; omega)]
    rw [Array.toList_push, List.append_assoc, List.range_succ_eq_map]
    simp
    intro a _
    omega
end
theorem yy_replace {n : Nat} (hn : n ≤ 100) : Txt.replace (YY n) (Str.ofString "\r\n") (Str.ofString "") = Str.ofString "xx" := by
  have ho : Builtin.Str.occurrences (YY n) (Str.ofString "\r\n") 0 (YY n).length ((YY n).length + 1) = cuts n := by
    rw [StrLaws.occ_eq, show (YY n).length + 1 - 0 = (2 * (n + 1) + 2) + 1 by rw [yy_len]; omega, occ_step (body_no (by rintro ⟨_, h, _⟩; exact absurd h (by show ¬ [120, 13] = [13, 10]; decide)))]
    rw [occ_go rfl (n + 1) 1 0 #[] (by omega) rfl (by rw [yy_len]; simp; omega)]
    try rfl
  unfold Txt.replace
  rw [ho, if_neg, show (Str.ofString "\r\n").length = 2 by decide]
  · have h := yy_parts
    rw [List.all_eq_true] at h
    exact eq_of_beq (h n (List.mem_range.mpr (by omega)))
  · simp [cuts]
    decide
def gr (p q j m : Nat) : List Nat := (List.range' j m).flatMap (gs p q)
theorem gl_gr (p q k : Nat) : gl p q k = gr p q 0 k := by
  unfold gl gr
  rw [List.range_eq_range']
theorem gr_succ (p q j m : Nat) : gr p q j (m + 1) = gs p q j ++ gr p q (j + 1) m := by
  unfold gr
  rw [List.range'_succ, List.flatMap_cons]
/-- behind all feeds no feed stands ahead -/
theorem gr_head {p q : Nat} : ∀ (m j : Nat), q ≤ j → ∃ c r, gr p q j m ++ [120] = c :: r ∧ c ≠ 10
  | 0, j, _ => ⟨120, [], rfl, by decide⟩
  | m + 1, j, h => by
    rw [gr_succ]
    by_cases hp : j < p
    · exact ⟨13, _, by unfold gs; rw [if_pos hp, if_neg (by omega)]; rfl, by decide⟩
    · have e : gs p q j = [] := by unfold gs; rw [if_neg hp, if_neg (by omega)]; rfl
      rw [e, List.nil_append]
      exact gr_head m (j + 1) (by omega)
theorem gr_segs {p q : Nat} : ∀ (m j : Nat), max p q ≤ j + m → Segs (gr p q j m ++ [120]) (max p q - j)
  | 0, j, h => by
    rw [show max p q - j = 0 by omega]
    exact .last
  | m + 1, j, h => by
    have ih := gr_segs (p := p) (q := q) m (j + 1) (by omega)
    rw [gr_succ]
    unfold gs
    by_cases hp : j < p
    · by_cases hq : j < q
      · rw [if_pos hp, if_pos hq, show max p q - j = (max p q - (j + 1)) + 1 by omega]
        exact .crlf ih
      · rw [if_pos hp, if_neg hq, show max p q - j = (max p q - (j + 1)) + 1 by omega]
        obtain ⟨c, r, e, hc⟩ := gr_head (p := p) (q := q) m (j + 1) (by omega)
        show Segs (13 :: (gr p q (j + 1) m ++ [120])) _
        rw [e] at ih ⊢
        exact .cr ih hc
    · by_cases hq : j < q
      · rw [if_neg hp, if_pos hq, show max p q - j = (max p q - (j + 1)) + 1 by omega]
        exact .lf ih
      · rw [if_neg hp, if_neg hq, show max p q - j = max p q - (j + 1) by omega]
        exact ih
theorem noDict {h : Heap} {P C : Addr} (p : PatAt h P C) : ∀ a, Value.ref P = .ref a → ∃ o, h.get? a = some o ∧ o.dict = none := by
  rintro a ⟨⟩
  obtain ⟨⟨o, pt, t1, t2, t3, t4, h1, h2, h3, _⟩, _⟩ := p
  exact ⟨o, h1, h3⟩
theorem patType {s : Shared} {P C : Addr} (p : PatAt s.heap P C) : s.TypeIs (.ref P) "re.Pattern" := by
  obtain ⟨⟨o, pt, t1, t2, t3, t4, h1, h2, _⟩, _⟩ := p
  exact ⟨o, h1, h2⟩
theorem sub_method {M : Model} {A : Around} {E : Value → Shared → Prop} {s : Shared} {pl : Sem Bool} {P C : Addr} {Q : Value × List Value → Shared → Prop} (p : PatAt s.heap P C) (h : Q (.builtin "re.Pattern.sub", [.ref P]) s) : wpAny M A (getMethod (.ref P) (Str.ofString "sub") pl) Q E s :=
  getMethod_builtin (patType p) plainAttrs_pat slot_sub type_sub (noDict p) h
theorem sub_call {prog : Program} {w : World} {A : Around} {E : Value → Shared → Prop} {s : Shared} {h₀ : Heap} {L : Addr} {m : Str → Option Value} {news : List (Addr × Obj)} {P C : Addr} {X : Str} {u t1 : Tok} {p q k : Nat} {Q : Value → Shared → Prop}
    (F : Fr h₀ L s.heap m) (N : News h₀ L s.heap news) (hp : PatAt s.heap P C) (hX : tl X = 120 :: 10 :: gl p q k) (hk : max p q ≤ k) (hk2 : k ≤ 400)
    (h : ∀ h' t tk', 1 ≤ tk' → Fr h₀ L h' m → News h₀ L h' news → (YY (max p q)).length = 2 * max p q + 4 → Q (.str (YY (max p q)) t) { s with heap := h', toks := tk' }) :
    wpAny (model prog w) A (call (.builtin "re.Pattern.sub") [.ref P, .str (Str.ofString "\r\n") t1, .str (X ++ Str.ofString "x") u]) Q E s := by
  have e : (X ++ Str.ofString "x").cps.toList = 120 :: 10 :: (gr p q 0 k ++ [120]) := by
    have := tl_app X (Str.ofString "x")
    rw [hX, tl_x, gl_gr] at this
    exact this
  have hlen : (X ++ Str.ofString "x").length ≤ 1000 := by
    have h1 := gl_len p q k
    rw [PySem.Str.length_append, len_tl X, hX, l_x]
    simp
    omega
  refine call_meets slot_sub (patType hp) entry_sub (args_sub _ _ _) (sub_meets hlen e (gr_segs k 0 (by omega)) (by omega)) ⟨hp, fun h' t tk' h1' hk' => ?_⟩
  rw [yy_eq]
  exact h h' t tk' h1' (F.keeps hk') (fun b hb => ⟨hk' _ _ (N b hb).1, (N b hb).2⟩) (yy_len _)
theorem yy_call {prog : Program} {w : World} {A : Around} {E : Value → Shared → Prop} {s : Shared} {n : Nat} {t : Tok} {k : Nat} {Q : Value → Shared → Prop} (hn : n ≤ 100) (hk : 1 ≤ k) (h : ∀ t' k, Q (.str (Str.ofString "xx") t') { s with toks := k }) :
    wpAny (model prog w) A (call (.builtin "str.replace") [.str (YY n) t, .str (Str.ofString "\r\n") k, .str (Str.ofString "") (k + 1)]) Q E s := by
  refine SC.replaceW (by show k ≠ 0; omega) (Nat.succ_ne_zero k) (by show k ≠ k + 1; omega) (by decide) (by rw [yy_len]; omega) (by decide) fun t' k' => ?_
  rw [yy_replace hn]
  exact h t' k'
end Mine
namespace Mine
set_option maxRecDepth 100000
theorem pat_in {w : World} {h : Heap} (X : (hd.heap_39 w.params).In h) : PatAt h 58 57 :=
  ⟨⟨_, _, _, _, _, _, X 58 _ (by with_unfolding_all rfl), rfl, rfl, rfl⟩, ⟨_, _, _, X 57 _ (by with_unfolding_all rfl), rfl, by decide +kernel⟩⟩
theorem pat_at {w : World} {h₀ h : Heap} {L : Addr} {m : Str → Option Value} (X : (hd.heap_39 w.params).In h₀) (F : Fr h₀ L h m) : PatAt h 58 57 := (pat_in X).keeps F.keep
theorem gen_toks {M : Model} {A : Around} {α : Type} {t : Sem α} {Q : α → Shared → Prop} {E : Value → Shared → Prop} {h g d o} {k : Nat} (x : ∀ tk : Nat, 1 ≤ tk → wpAny M A t Q E ⟨h, g, d, tk, o⟩) : wpAny M A t Q E ⟨h, g, d, k + 1, o⟩ := x _ (Nat.le_add_left _ _)
end Mine
namespace Mine
local macro_rules | `(tactic| k_room) => `(tactic| ktr_room)
local macro_rules | `(tactic| k_units) => `(tactic| ktr_units)
local macro_rules | `(tactic| walk_at "binaryOp Add str str") => `(tactic| (k_here; (with_reducible show wpAny _ _ (binaryOp Operator.Add (Value.str _ _) (Value.str _ _)) _ _ _); (refine addR (by simp only [PySem.Str.length_append, R_len, l_r, l_n, l_x]; omega) ?_); intro _ _))
local macro_rules | `(tactic| walk_at "pyIter ref") => `(tactic| (k_here; (rename Fr _ _ _ (fun y => if y = Str.ofString "text" then _ else _) => lF'); (with_reducible rename News _ _ _ ((_, listOf #[Value.int _ _, Value.int _ _] _) :: _) => lN'); (with_reducible rename IsRange _ _ _ _ _ _ _ _ => rgX); (with_unfolding_all refine' en_loopH (xt := Str.ofString "text") (by rfl) rgX (by omega) (by omega) lF' lN' (by rfl) tl_xn (by decide) ?_ ?_)))
local macro_rules | `(tactic| walk_at "getMethod ref") => `(tactic| (k_here; (with_reducible show wpAny _ _ (getMethod (Value.ref 58) _ _) _ _ _); k_dflt (refine sub_method (pat_at (by assumption) (by k_asm)) ?_)))
local macro_rules | `(tactic| walk_at "call builtin:re.Pattern.sub") => `(tactic| (k_here; k_dflt (refine' sub_call ?k1 ?k2 ?k3 ?k4 ?k5 ?k6 ?_; (case k1 => k_asm); (case k2 => k_asm); (case k3 => exact pat_at (by assumption) (by k_asm)); (case k4 => assumption); (case k5 => omega); (case k6 => omega)); intro h' t' tk' hT' F' N' lY'))
local macro_rules | `(tactic| walk_at "call builtin:str.replace") => `(tactic| (k_here; k_dflt (refine yy_call (by omega) (by assumption) ?_); intro _ _))
local macro_rules | `(tactic| walk_at "execs cons") => `(tactic| (k_here; (with_reducible rename (1 : Nat) ≤ _ => hT9); dsimp only; (refine gen_toks ?_); intro _ _))
local macro_rules | `(tactic| walk_at "exec If") => `(tactic| (k_here; (fail_if_success (with_reducible show wpAny _ _ _ (JQ _ _ _ _ _ _ _ _) _ _)); (rename Fr _ _ _ (fun y => if y = Str.ofString "ends" then _ else _) => jF'); (with_reducible rename News _ _ _ ((_, listOf #[Value.int _ _, Value.int _ _] _) :: _) => jN'); (with_unfolding_all refine' if_join jF' jN' ?_ ?_)))
theorem en_mx {r0 r1 come free : Int} (hab : (r0 = come ∧ r1 = free) ∨ (r0 = free ∧ r1 = come)) (e0 : (r0.toNat : Int) = r0) (e1 : (r1.toNat : Int) = r1) : ((max r0.toNat r1.toNat : Nat) : Int) = max come free := by
  have q : ((max r0.toNat r1.toNat : Nat) : Int) = max (r0.toNat : Int) (r1.toNat : Int) := by
    rcases Nat.le_total r0.toNat r1.toNat with h | h
    · rw [Nat.max_eq_right h, Int.max_eq_right (Int.ofNat_le.mpr h)]
    · rw [Nat.max_eq_left h, Int.max_eq_left (Int.ofNat_le.mpr h)]
  rw [q, e0, e1]
  rcases hab with ⟨rfl, rfl⟩ | ⟨rfl, rfl⟩
  · rfl
  · exact Int.max_comm _ _
theorem en_m1 {r0 r1 : Int} (h0 : r0 ≤ 100) (h1 : r1 ≤ 100) : max r0.toNat r1.toNat ≤ 100 := Nat.max_le.mpr ⟨Int.toNat_le.mpr h0, Int.toNat_le.mpr h1⟩
theorem en_m2 {m n : Nat} {come free : Int} (hm : (m : Int) = max come free) (hn : (n : Int) = come + free) (h1 : 1 ≤ come) (h3 : 1 ≤ free) : m ≤ n := by omega
theorem en_fin {m : Nat} {y : Int} (h : Hold ((m : Int) = y)) : ((2 * m + 4 : Nat) : Int) / 2 - 2 = y := by
  have h' : (m : Int) = y := h
  omega
set_option maxRecDepth 100000 in
set_option maxHeartbeats 8000000 in
theorem ended_c {w mean mg mb} (come free way : Int) (t1 t2 t3 : Tok) : Tell w mean mg mb 10 80 230 (Small come free way) [.int come t1, .int free t2, .int way t3] (fun t => .int (max come free) t) := by
  unfold Tell
  w_top off
  k_fill
  intro news dp un gd cn cs a ccd cl outer A₀ base h₀ L m s Q E B F X N T hk hp hd hu hret
  obtain ⟨hp1, hp2, hp3, hp4, hp5, hp6⟩ := hp
  have hI0 := ints_nil0
  refine wpAny_call ?_
  k_dflt cell_enter
  k_steps
  · exact jq_b (by assumption) (by assumption)
  · exact jq_a (by assumption) (by assumption)
  · unfold Hold
    intro r0 r1 tr0 tr1 nr hr tkr hab hFr0 hNews0
    have hb0 : 1 ≤ r0 ∧ r0 ≤ 100 := by omega
    have hb1 : 1 ≤ r1 ∧ r1 ≤ 100 := by omega
    have hr0 : (r0.toNat : Int) = r0 := Int.toNat_of_nonneg (Int.le_trans (by decide) hb0.1)
    have hr1 : (r1.toNat : Int) = r1 := Int.toNat_of_nonneg (Int.le_trans (by decide) hb1.1)
    have hcf : ((come + free).toNat : Int) = come + free := Int.toNat_of_nonneg (Int.add_nonneg (Int.le_trans (by decide) hp1) (Int.le_trans (by decide) hp3))
    have hmx : ((max r0.toNat r1.toNat : Nat) : Int) = max come free := en_mx hab hr0 hr1
    have hm1 : max r0.toNat r1.toNat ≤ 100 := en_m1 hb0.2 hb1.2
    have hm2 : max r0.toNat r1.toNat ≤ (come + free).toNat := en_m2 hmx hcf hp1 hp3
    replace hmx : Hold (((max r0.toNat r1.toNat : Nat) : Int) = max come free) := hmx
    clear hab
    (try k_fold)
    k_steps
    · unfold Hold
      intro k t X' tX uk h tk I oI v1 v2 v3 hne2 hFr hNews
      (try k_fold)
      k_steps
      all_goals first
        | exact en_end (by assumption) (by assumption) (fun p hp => hp) (by repeat' first | exact if_pos rfl | refine (if_neg (by decide)).trans ?_ | fail) (en11' v2 (by assumption) (by assumption)) hne2 (by intro y e1 e2; simp only [e1, e2, if_false])
        | exact en_end (by assumption) (by assumption) (fun p hp => hp) (by repeat' first | exact if_pos rfl | refine (if_neg (by decide)).trans ?_ | fail) (en10' v2 (by assumption) (by assumption)) hne2 (by intro y e1 e2; simp only [e1, e2, if_false])
        | exact en_end (by assumption) (by assumption) (fun p hp => hp) (by repeat' first | exact if_pos rfl | refine (if_neg (by decide)).trans ?_ | fail) (en01' v2 (by assumption) (by assumption)) hne2 (by intro y e1 e2; simp only [e1, e2, if_false])
        | exact en_end (by assumption) (by assumption) (fun p hp => hp) (by repeat' first | exact if_pos rfl | refine (if_neg (by decide)).trans ?_ | fail) (en00' v2 (by assumption) (by assumption)) hne2 (by intro y e1 e2; simp only [e1, e2, if_false])
    · unfold Hold
      intro X' tX uk h tk v2 v3 hFr hNews
      (try k_fold)
      k_steps
      all_goals first
        | (exfalso; exact Bool.noConfusion (by assumption : (Str.ofString "xx" != Str.ofString "xx") = true))
        | exact ret_of hret (by assumption) (by assumption) (fun p hp => by repeat' first | exact hp | refine .tail _ ?_) (by rw [yy_len, Int.fdiv_eq_ediv_of_nonneg _ (by decide)]; exact en_fin hmx)
end Mine
namespace Mine
/-- the rows when k y have been handed over -/
def RmI (n f k : Nat) (vs : List Value) : Prop :=
  (∃ X t, vs = [.str X t] ∧ tl X = List.replicate n 120 ++ List.replicate k 121 ∧ k ≤ f - n) ∨
  (∃ X Y t t', vs = [.str X t, .str Y t'] ∧ tl X = List.replicate n 120 ++ List.replicate (f - n) 121 ∧ tl Y = List.replicate (k - (f - n)) 121 ∧ f - n < k)
def RmJ (n f : Nat) (l : Addr) (rest : List (Addr × Obj)) (m₁ : Str → Option Value) (x xp : Str) (k : Nat) (m : Str → Option Value) (nx : List (Addr × Obj)) : Prop :=
  ∃ (vs : List Value) (cnt : Nat) (u1 uk : Option Value), nx = (l, listOf vs.toArray cnt) :: rest ∧ RmI n f k vs ∧ m = fun y => if y = xp then u1 else if y = x then uk else m₁ y
theorem rm_len1 {X : Str} {n k : Nat} (h : tl X = List.replicate n 120 ++ List.replicate k 121) : X.length = n + k := by
  rw [len_tl, h]; simp
theorem rm_len2 {Y : Str} {k : Nat} (h : tl Y = List.replicate k 121) : Y.length = k := by
  rw [len_tl, h]; simp
theorem rm_b1 {n f k : Nat} (h1 : n ≤ 100) (h2 : f ≤ 100) (h : k < f) : n + k ≤ 300 := by omega
theorem rm_b2 {n f : Nat} (h1 : n ≤ 100) (h2 : f ≤ 100) : n + (f - n) ≤ 300 := by omega
theorem rm_b3 {m f : Nat} (h2 : f ≤ 100) : f - m ≤ 300 := by omega
section
variable {prog : Program} {w : World} {A : Around} {E : Value → Shared → Prop} {s : Shared} {env : Env} {h₀ : Heap} {body : List Stmt} {Q : Flow → Shared → Prop}
theorem rm_loop {n f : Nat} {r : Addr} {b : Int} {t₀ u₀ v₀ : Tok} {l : Addr} {cnt : Nat} {tX : Tok} {x xp : Str} {m₁ : Str → Option Value} {rest : List (Addr × Obj)}
    (hh : A.handled = none) (hr : IsRange s.heap r 0 b 1 t₀ u₀ v₀) (hb : b = (f : Int)) (hf : f ≤ 100) (F : Fr h₀ env.locals s.heap m₁) (N : News h₀ env.locals s.heap ((l, listOf #[.str (R 120 n) tX] cnt) :: rest))
    (turn1 : ∀ (k : Nat) t X tX cnt u1 uk h tk I oI, k < f → tl X = List.replicate n 120 ++ List.replicate k 121 → X.length = n + k → X.length ≤ 300 → k ≤ f - n → @Ne Nat l I → (∀ p ∈ rest, p.1 ≠ I) →
      Fr h₀ env.locals h (fun y => if y = x then some (.int (0 + (k : Int)) t) else if y = xp then u1 else if y = x then uk else m₁ y) →
      News h₀ env.locals h ((I, oI) :: (l, listOf #[.str X tX] cnt) :: rest) →
      wpAny (model prog w) A (execs body env) (GrowPost h₀ env.locals I oI (RmJ n f l rest m₁ x xp (k + 1)) { s with heap := h, toks := tk } Q) E { s with heap := h, toks := tk })
    (turn2 : ∀ (k : Nat) t X Y tX tY cnt u1 uk h tk I oI, k < f → tl X = List.replicate n 120 ++ List.replicate (f - n) 121 → tl Y = List.replicate (k - (f - n)) 121 → X.length = n + (f - n) → Y.length = k - (f - n) → X.length ≤ 300 → Y.length ≤ k → f - n < k → @Ne Nat l I → (∀ p ∈ rest, p.1 ≠ I) →
      Fr h₀ env.locals h (fun y => if y = x then some (.int (0 + (k : Int)) t) else if y = xp then u1 else if y = x then uk else m₁ y) →
      News h₀ env.locals h ((I, oI) :: (l, listOf #[.str X tX, .str Y tY] cnt) :: rest) →
      wpAny (model prog w) A (execs body env) (GrowPost h₀ env.locals I oI (RmJ n f l rest m₁ x xp (k + 1)) { s with heap := h, toks := tk } Q) E { s with heap := h, toks := tk })
    (done : ∀ X Y tX tY cnt u1 uk h tk, 1 ≤ n → tl X = List.replicate n 120 ++ List.replicate (f - n) 121 → tl Y = List.replicate (f - (f - n)) 121 → X.length = n + (f - n) → Y.length = f - (f - n) → X.length ≤ 300 → Y.length ≤ 300 → f - n < f →
      Fr h₀ env.locals h (fun y => if y = xp then u1 else if y = x then uk else m₁ y) → News h₀ env.locals h ((l, listOf #[.str X tX, .str Y tY] cnt) :: rest) → Q .next { s with heap := h, toks := tk })
    (hn : 1 ≤ n) (hn2 : n ≤ 100) (hf1 : 1 ≤ f) (hxp : xp ≠ x) :
    wpAny (model prog w) A (pyIter (.ref r)) (fun it s₂ => LoopAtV prog w A h₀ env x body Q E it s₂) E s := by
  subst hb
  refine iter_growR (n := f) (RmJ n f l rest m₁ x xp) hh hr (small_one (by omega) (by omega) (by omega) (by omega)) (by rw [rangeSize_nat]; omega) F N ⟨[.str (R 120 n) tX], cnt, m₁ xp, m₁ x, rfl, .inl ⟨_, _, rfl, by simp [tl_R], by omega⟩, ?_⟩ ?_ ?_
  · funext y
    by_cases e1 : y = xp
    · subst e1; simp
    · by_cases e5 : y = x
      · subst e5; simp [e1]
      · simp [e1, e5]
  · rintro k t m news₁ h tk I oI hk hI ⟨vs, cnt, u1, uk, rfl, g, rfl⟩ F1 N1
    have hne := hI _ (.head _)
    have hne2 : ∀ p ∈ rest, p.1 ≠ I := fun p hp => hI p (.tail _ hp)
    rcases g with ⟨X, t', rfl, g1, g2⟩ | ⟨X, Y, t', t'', rfl, g1, g2, g3⟩
    · exact turn1 k t X t' cnt u1 uk h tk I oI hk g1 (rm_len1 g1) (rm_len1 g1 ▸ rm_b1 hn2 hf hk) g2 hne hne2 F1 N1
    · exact turn2 k t X Y t' t'' cnt u1 uk h tk I oI hk g1 g2 (rm_len1 g1) (rm_len2 g2) (rm_len1 g1 ▸ rm_b2 hn2 hf) (rm_len2 g2 ▸ Nat.sub_le _ _) g3 hne hne2 F1 N1
  · rintro m news₁ h tk ⟨vs, cnt, u1, uk, rfl, g, rfl⟩ F1 N1
    rcases g with ⟨X, t', rfl, g1, g2⟩ | ⟨X, Y, t', t'', rfl, g1, g2, g3⟩
    · omega
    · exact done X Y t' t'' cnt u1 uk h tk hn g1 g2 (rm_len1 g1) (rm_len2 g2) (rm_len1 g1 ▸ rm_b2 hn2 hf) (rm_len2 g2 ▸ rm_b3 hf) g3 F1 N1
theorem rm_end {h₀ h' : Heap} {L I l : Addr} {oI : Obj} {n f k cnt tk : Nat} {vs : List Value} {rest nx : List (Addr × Obj)} {m₁ m' : Str → Option Value} {x xp : Str} {s₁ : Shared} {Q : Flow → Shared → Prop}
    (F : Fr h₀ L h' m') (N : News h₀ L h' nx) (hs : ∀ p ∈ (I, oI) :: (l, listOf vs.toArray cnt) :: rest, p ∈ nx) (g : RmI n f (k + 1) vs) (hne : @Ne Nat l I) (hne2 : ∀ p ∈ rest, p.1 ≠ I)
    (e5 : ∀ y, y ≠ xp → y ≠ x → m' y = m₁ y) : GrowPost h₀ L I oI (RmJ n f l rest m₁ x xp (k + 1)) s₁ Q Flow.next { s₁ with heap := h', toks := tk } := by
  refine GrowEnd.intro (nx := (l, listOf vs.toArray cnt) :: rest) F (fun p hp => N p (hs p hp)) (fun p hp => ?_) ⟨vs, cnt, m' xp, m' x, rfl, g, ?_⟩
  · rcases List.mem_cons.mp hp with rfl | hp
    · exact hne
    · exact hne2 p hp
  · funext y
    by_cases q1 : y = xp
    · subst q1; simp
    · by_cases q2 : y = x
      · subst q2; simp [q1]
      · simp [q1, q2, e5 y q1 q2]
end
end Mine
namespace Mine
theorem isL {h₀ h : Heap} {L l : Addr} {news : List (Addr × Obj)} {items : Array Value} {n : Nat} (N : News h₀ L h news) (hm : (l, listOf items n) ∈ news) : h.IsList l items := PySem.IsL.isList (n := n) (N _ hm).1
theorem truthy1 {prog : Program} {w : World} {A : Around} {E : Value → Shared → Prop} {s : Shared} {h₀ : Heap} {L l : Addr} {news : List (Addr × Obj)} {v : Value} {n : Nat} {Q : Bool → Shared → Prop} (N : News h₀ L s.heap news) (hm : (l, listOf #[v] n) ∈ news) (h : Q true { s with toks := s.toks + 1 + 1 }) : wpAny (model prog w) A (truthy (.ref l)) Q E s :=
  wpAny_truthy_list (isL N hm) (by show ((1 : Nat) : Int) < 2 ^ 63; decide) h
theorem truthy2 {prog : Program} {w : World} {A : Around} {E : Value → Shared → Prop} {s : Shared} {h₀ : Heap} {L l : Addr} {news : List (Addr × Obj)} {v v2 : Value} {n : Nat} {Q : Bool → Shared → Prop} (N : News h₀ L s.heap news) (hm : (l, listOf #[v, v2] n) ∈ news) (h : Q true { s with toks := s.toks + 1 + 1 }) : wpAny (model prog w) A (truthy (.ref l)) Q E s :=
  wpAny_truthy_list (isL N hm) (by show ((2 : Nat) : Int) < 2 ^ 63; decide) h
theorem isSpace_x : Unicode.isSpace 120 = false := by decide +kernel
theorem isSpace_b : Unicode.isSpace 32 = true := by decide +kernel
theorem lstrip_bx {n : Nat} (hn : 1 ≤ n) : Txt.lstrip (Str.ofString " " ++ R 120 n) = R 120 n := by
  obtain ⟨k, rfl⟩ : ∃ k, n = k + 1 := ⟨n - 1, by omega⟩
  have e : (Str.ofString " " ++ R 120 (k + 1)).cps.toList = 32 :: List.replicate (k + 1) 120 := by
    have := tl_app (Str.ofString " ") (R 120 (k + 1))
    rw [tl_b, tl_R] at this
    exact this
  have ez : (Str.ofString " " ++ R 120 (k + 1)).length = k + 2 := by rw [PySem.Str.length_append, R_len, l_b]; omega
  have el : ((Str.ofString " " ++ R 120 (k + 1)).cps.toList.takeWhile Unicode.isSpace).length = 1 := by
    rw [e, List.replicate_succ]
    simp [List.takeWhile, isSpace_b, isSpace_x]
  have lo : stripLo Unicode.isSpace true (Str.ofString " " ++ R 120 (k + 1)) = 1 := el
  have hi : stripHi Unicode.isSpace false (Str.ofString " " ++ R 120 (k + 1)) 1 = k + 2 := ez
  unfold Txt.lstrip Txt.stripBy stripSame PySem.stripped
  rw [lo, hi, if_neg (by simp)]
  apply tl_ext
  unfold tl Builtin.Str.strSub
  rw [Array.toList_extract, e]
  simp [R]
theorem lstripR {prog : Program} {w : World} {A : Around} {E : Value → Shared → Prop} {s : Shared} {n : Nat} {t : Tok} {Q : Value → Shared → Prop} (hn : 1 ≤ n) (hn2 : n ≤ 1000)
    (h : ∀ t' k, Q (.str (R 120 n) t') { s with toks := k }) : wpAny (model prog w) A (call (.builtin "str.lstrip") [.str (Str.ofString " " ++ R 120 n) t]) Q E s := by
  refine SCL.lstrip (fun t' k _ => ?_) (by rw [PySem.Str.length_append, R_len, l_b, sizeLine_eq]; omega)
  rw [lstrip_bx hn]
  exact h _ _
theorem tl_e : tl (Str.ofString "") = [] := by decide
theorem rmA {n f k : Nat} {X : Str} {t : Tok} (h : tl X = List.replicate n 120 ++ List.replicate k 121) (hk : n + k + 1 ≤ f) : RmI n f (k + 1) [.str (X ++ (Str.ofString "" ++ Str.ofString "y")) t] := by
  refine .inl ⟨_, _, rfl, ?_, by omega⟩
  rw [tl_app, tl_app, tl_e, tl_y, h, List.nil_append, List.append_assoc, List.replicate_succ']
theorem rmB {n f k : Nat} {X : Str} {t t' : Tok} (h : tl X = List.replicate n 120 ++ List.replicate k 121) (hk : ¬ n + k + 1 ≤ f) (h2 : k ≤ f - n) : RmI n f (k + 1) [.str X t, .str (Str.ofString "y") t'] := by
  have e : f - n = k := by omega
  refine .inr ⟨_, _, _, _, rfl, by rw [e]; exact h, ?_, by omega⟩
  rw [tl_y, e, show k + 1 - k = 1 by omega]; rfl
theorem rmC {n f k : Nat} {X Y : Str} {t t' : Tok} (h : tl X = List.replicate n 120 ++ List.replicate (f - n) 121) (h1 : tl Y = List.replicate (k - (f - n)) 121) (h2 : f - n < k) : RmI n f (k + 1) [.str X t, .str (Y ++ (Str.ofString "" ++ Str.ofString "y")) t'] := by
  refine .inr ⟨_, _, _, _, rfl, h, ?_, by omega⟩
  rw [tl_app, tl_app, tl_e, tl_y, h1, List.nil_append, show k + 1 - (f - n) = (k - (f - n)) + 1 by omega, List.replicate_succ']
theorem ok_tl {X : Str} (h : ∀ c ∈ tl X, c < 0x110000) : PyData.strOk X = true := by
  unfold PyData.strOk
  rw [Array.all_eq_true']
  intro c hc
  exact decide_eq_true (h c (by unfold tl; simpa using hc))
theorem ok_rep {X : Str} {n k : Nat} (h : tl X = List.replicate n 120 ++ List.replicate k 121) : PyData.strOk X = true := ok_tl fun c hc => by
  rw [h, List.mem_append, List.mem_replicate, List.mem_replicate] at hc
  omega
theorem ok_rep2 {X : Str} {k : Nat} (h : tl X = List.replicate k 121) : PyData.strOk X = true := ok_tl fun c hc => by
  rw [h, List.mem_replicate] at hc
  omega
theorem shaped3 {x y z : Str} (hx : PyData.strOk x = true) (hy : PyData.strOk y = true) (hz : PyData.strOk z = true) : SeqAt.shaped (.list [PyData.str x, PyData.str y, PyData.str z]) = true := by
  simp [SeqAt.shaped, PyData.canLay0, PyData.canLayAll0, PyData.depth, PyData.depthAll, hx, hy, hz]
theorem same3 (x y z : Str) : PySem.Spec.same (.list [PyData.str x, PyData.str y, PyData.str z]) (.list [PyData.str x, PyData.str y, PyData.str z]) = true := by
  simp [PySem.Spec.same, PySem.Spec.sameAll]
theorem ne_rows {prog : Program} {w : World} {A : Around} {E : Value → Shared → Prop} {s : Shared} {a b : Addr} {X Y z z' : Str} {t1 t2 t3 t4 t5 t6 : Tok} {Q : Value → Shared → Prop} (hz : z = z') (hX : PyData.strOk X = true) (hY : PyData.strOk Y = true) (hZ : PyData.strOk z' = true) (ha : s.heap.IsList a #[.str X t1, .str Y t2, .str z t3]) (hb : s.heap.IsList b #[.str X t4, .str Y t5, .str z' t6]) (hu : A.units + 64 < cLine) (h : Q (.bool false) s) :
    wpAny (model prog w) A (compareOp .NotEq (.ref a) (.ref b)) Q E s := by
  subst hz
  refine ne_dataH_same (reads_newData (ys := [_, _, _]) (ds := [PyData.str X, PyData.str Y, PyData.str z]) ha (.cons (.str _ _) (.cons (.str _ _) (.cons (.str _ _) .nil)))) (reads_newData (ys := [_, _, _]) (ds := [PyData.str X, PyData.str Y, PyData.str z]) hb (.cons (.str _ _) (.cons (.str _ _) (.cons (.str _ _) .nil)))) (shaped3 hX hY hZ) (shaped3 hX hY hZ) hu (SeqAt.noMix_of_shape (.list .str) rfl _ _ ?_ ?_) ?_
  · exact list_map_has (l := [X, Y, z]) (g := PyData.str) fun _ => rfl
  · exact list_map_has (l := [X, Y, z]) (g := PyData.str) fun _ => rfl
  · rw [same3]; exact h
theorem join_no {X Y : Str} {n f : Nat} (h : (Txt.join (Str.ofString "") [X, Y] != R 120 n ++ R 121 f) = true) (h1 : tl X = List.replicate n 120 ++ List.replicate (f - n) 121) (h2 : tl Y = List.replicate (f - (f - n)) 121) : False := by
  have e : Txt.join (Str.ofString "") [X, Y] = R 120 n ++ R 121 f := by
    apply tl_ext
    have : Txt.join (Str.ofString "") [X, Y] = X ++ Str.ofString "" ++ Y := by
      unfold Txt.join
      rw [StrLaws.glued_eq_join]; rfl
    rw [this, tl_app, tl_app, tl_e, h1, h2, tl_app, tl_R, tl_R, List.append_nil, List.append_assoc, List.replicate_append_replicate]
    congr 2
    omega
  rw [e] at h
  simp at h
theorem last_no {Y : Str} {k : Nat} (h : (Y == Str.ofString "") = true) (h1 : Y.length = k) (h2 : 0 < k) : False := by
  have e : Y = Str.ofString "" := by simpa using h
  rw [e] at h1
  have : (Str.ofString "").length = 0 := by decide
  omega
theorem z_eq : Str.ofString "z" ++ (Str.ofString "-" ++ Str.ofString " z") = Str.ofString "z- z" := by decide +kernel
theorem ok_z : PyData.strOk (Str.ofString "z- z") = true := by decide +kernel
theorem rmA' {n k : Nat} {free : Int} {X : Str} {t : Tok} (h : tl X = List.replicate n 120 ++ List.replicate k 121) (hl : X.length = n + k) (hk : (X.length : Int) + ((1 : Nat) : Int) ≤ free) : RmI n free.toNat (k + 1) [.str (X ++ (Str.ofString "" ++ Str.ofString "y")) t] := rmA h (by omega)
theorem rmB' {n k : Nat} {free : Int} {X : Str} {t t' : Tok} (h : tl X = List.replicate n 120 ++ List.replicate k 121) (hl : X.length = n + k) (hk : ¬ (X.length : Int) + ((1 : Nat) : Int) ≤ free) (h2 : k ≤ free.toNat - n) : RmI n free.toNat (k + 1) [.str X t, .str (Str.ofString "y") t'] := rmB h (by omega) h2
theorem rm_no2 {Y : Str} {n k : Nat} {free : Int} (h1 : k < free.toNat) (h5 : Y.length = k - (free.toNat - n)) (h : ¬ (Y.length : Int) + ((1 : Nat) : Int) ≤ free) : False := by omega
theorem rm_no3 {X : Str} {n : Nat} {free : Int} (h3 : X.length = n + (free.toNat - n)) (h : (X.length : Int) < free) : False := by omega
theorem rm_fin {X : Str} {come free : Int} (h1 : 1 ≤ come) (h2 : 1 ≤ free) (h3 : X.length = come.toNat + (free.toNat - come.toNat)) : (X.length : Int) = max come free := by omega
end Mine
namespace Mine
local macro_rules | `(tactic| k_room) => `(tactic| ktr_room)
local macro_rules | `(tactic| k_units) => `(tactic| ktr_units)
local macro_rules | `(tactic| walk_at "binaryOp Mult str int") => `(tactic| (k_here; (with_reducible show wpAny _ _ (binaryOp Operator.Mult (Value.str _ _) (Value.int _ _)) _ _ _); first
  | (refine mulV 120 (by decide) rfl (by omega) (by omega) ?_; intro _ _)
  | (refine mulV 121 (by decide) rfl (by omega) (by omega) ?_; intro _ _)))
local macro_rules | `(tactic| walk_at "binaryOp Add str str") => `(tactic| (k_here; (with_reducible show wpAny _ _ (binaryOp Operator.Add (Value.str _ _) (Value.str _ _)) _ _ _); (refine addR (by simp only [PySem.Str.length_append, R_len, l_x, l_t, l_b]; omega) ?_); intro _ _))
local macro_rules | `(tactic| walk_at "call builtin:str.lstrip") => `(tactic| (k_here; (refine lstripR (by omega) (by omega) ?_); intro _ _))
local macro_rules | `(tactic| walk_at "truthy ref") => `(tactic| (k_here; (with_reducible show wpAny _ _ (truthy (Value.ref _)) _ _ _); k_dflt (first | (refine' truthy1 ?k1 ?k2 ?_; (case k1 => k_asm); (case k2 => k_mem)) | (refine' truthy2 ?k1 ?k2 ?_; (case k1 => k_asm); (case k2 => k_mem)))))
local macro_rules | `(tactic| walk_at "CompEnd") => `(tactic| ((fail_if_success exact (rm_no3 (by assumption) (by assumption)).elim); (with_reducible rename News _ _ _ (_ :: _ :: (_, LCg.lst _) :: _) => cN); (with_unfolding_all refine LCg.CompEnd.intro (by assumption) cN _ (fun p hp => hp) (by assumption) (Or.inr ⟨_, .head _, rfl, _, rfl⟩) ?_)))
local macro_rules | `(tactic| walk_at "compareOp NotEq ref ref") => `(tactic| (k_here; (with_reducible show wpAny _ _ (compareOp CmpOp.NotEq (Value.ref _) (Value.ref _)) _ _ _); k_dflt (refine' ne_rows z_eq ?kx ?ky ok_z ?ka ?kb ?ku ?_; (case ka => exact isL (by k_asm) (by k_mem)); (case kb => exact isL (by k_asm) (by k_mem)); (case kx => exact ok_rep (by assumption)); (case ky => exact ok_rep2 (by assumption)); (case ku => ktr_units))))
set_option maxRecDepth 100000 in
set_option maxHeartbeats 8000000 in
theorem roomed_c {w mean mg mb} (come free way : Int) (t1 t2 t3 : Tok) : Tell w mean mg mb 10 80 235 (Small come free way) [.int come t1, .int free t2, .int way t3] (fun t => .int (max come free) t) := by
  unfold Tell
  w_top off
  k_fill
  intro news dp un gd cn cs a ccd cl outer A₀ base h₀ L m s Q E B F X N T hk hp hd hu hret
  obtain ⟨hp1, hp2, hp3, hp4, hp5, hp6⟩ := hp
  have hnc : (come.toNat : Int) = come := Int.toNat_of_nonneg (Int.le_trans (by decide) hp1)
  have hnf : (free.toNat : Int) = free := Int.toNat_of_nonneg (Int.le_trans (by decide) hp3)
  have hI0 := ints_nil0
  refine wpAny_call ?_
  k_dflt (refine' code_defC ?k1 ?k2 ?k3 ?k4 ?k5 ?kA ?kF ?kK ?k6 ?k7 ?k8 ?k9 ?kB ?kD ?_ ?c2 ?c3 ?c4; (case kA => exact rfl); (case kF => exact rfl); (case kK => assumption); (case k1 => k_asm); (case k2 => k_asm); (case k3 => k_asm); (case k4 => k_asm); (case k5 => k_asm); (case k6 => k_is); (case k7 => k_is); (case k8 => ktr_room); (case k9 => exact BindsTo.of_eq rfl); (case kB => exact rfl); (case kD => decide +kernel); (case c2 => exact rfl); (case c3 => exact rfl); (case c4 => exact rfl); k_whole; intro g' L' h' tk' cells' FG' F' N' Y' B' X' T' l1; (try k_lt l1); k_cells Y'; (try simp only [List.cons_append, List.nil_append] at N'); (try dsimp only); (try k_lift B'); (try k_fold))
  k_steps
  rename Fr g' L' _ (fun y => if y = Str.ofString "rows" then _ else _) => lF'
  rename News g' L' _ ((_, listOf #[Value.str (R 120 _) _] _) :: _) => lN'
  rename IsRange _ _ _ _ _ _ _ _ => rgX
  have hl := l1
  rename _ < _ ∧ AllLt _ news => l2
  with_unfolding_all refine' rm_loop (n := come.toNat) (f := free.toNat) (xp := Str.ofString "piece") (by rfl) rgX (by omega) (by omega) lF' lN' ?_ ?_ ?_ (by omega) (by omega) (by omega) (by decide)
  · intro k t X tX cnt u1 uk h tk I oI v1 v2 v3 vb v4 hne hne2 hFr hNews
    clear lF' lN'
    have hneL := hne2 _ (.head _)
    (try k_fold)
    k_steps
    all_goals first | exact rm_end (by assumption) (by assumption) (fun p hp => hp) (rmA' v2 v3 (by assumption)) hne hne2 (by intro y e1 e2; simp only [e1, e2, if_false]) | exact rm_end (by assumption) (by assumption) (fun p hp => hp) (rmB' v2 v3 (by assumption) v4) hne hne2 (by intro y e1 e2; simp only [e1, e2, if_false])
  · intro k t X Y tX tY cnt u1 uk h tk I oI v1 v2 v3 v4 v5 vb vc v6 hne hne2 hFr hNews
    clear lF' lN'
    have hneL := hne2 _ (.head _)
    (try k_fold)
    k_steps
    all_goals first | exact (rm_no2 v1 v5 (by assumption)).elim | exact rm_end (by assumption) (by assumption) (fun p hp => hp) (rmC v2 v3 v6) hne hne2 (by intro y e1 e2; simp only [e1, e2, if_false])
  · intro X Y tX tY cnt u1 uk h tk v0 v1 v2 v3 v4 vb vc v5 hFr hNews
    clear lF' lN'
    (try k_fold)
    k_steps
    all_goals first
      | exact (rm_no3 v3 (by assumption)).elim
      | exact (join_no (by assumption) v1 v2).elim
      | exact (last_no (by assumption) v4 (Nat.sub_pos_of_lt v5)).elim
      | exact ret_of hret (by assumption) (by assumption) (fun p hp => by repeat' first | exact hp | refine .tail _ ?_) (rm_fin hp1 hp3 v3)
end Mine
namespace Mine
section
local macro_rules | `(tactic| k_room) => `(tactic| ktr_room)
local macro_rules | `(tactic| k_units) => `(tactic| ktr_units)
local macro_rules | `(tactic| walk_at "call ref") => `(tactic| (k_here; k_dflt (first | refine' Tell.use (filled_c _ _ _ _ _ _) ?k1 ?k2 ?k3 ?k4 ?k5 ?kK ?kp ?kd ?ku ?_ | refine' Tell.use (longest_c _ _ _ _ _ _) ?k1 ?k2 ?k3 ?k4 ?k5 ?kK ?kp ?kd ?ku ?_ | refine' Tell.use (ended_c _ _ _ _ _ _) ?k1 ?k2 ?k3 ?k4 ?k5 ?kK ?kp ?kd ?ku ?_ | refine' Tell.use (roomed_c _ _ _ _ _ _) ?k1 ?k2 ?k3 ?k4 ?k5 ?kK ?kp ?kd ?ku ?_); (case k1 => k_asm); (case k2 => k_asm); (case k3 => k_asm); (case k4 => k_asm); (case k5 => k_asm); (case kK => first | exact rfl | assumption); (case kp => assumption); (case kd => ktr_room); (case ku => ktr_units); intro t9 h9 tk9 F9 N9; (try dsimp only); (try k_fold)))
set_option maxRecDepth 100000 in
set_option maxHeartbeats 8000000 in
theorem begun_c {w mean mg mb} (hand come free way : Int) (t0 t1 t2 t3 : Tok) : Tell w mean mg mb 20 160 242 (0 ≤ hand ∧ hand < 4 ∧ Small come free way) [.int hand t0, .int come t1, .int free t2, .int way t3] (fun t => .int (max come free) t) := by
  unfold Tell
  w_top off
  k_fill
  intro news dp un gd cn cs a ccd cl outer A₀ base h₀ L m s Q E B F X N T hk hp hd hu hret
  obtain ⟨hp1, hp2, hp3⟩ := hp
  refine wpAny_call ?_
  k_dflt cell_enter
  k_steps
  all_goals exact hret _ _ _ (by assumption) (by assumption)
end
end Mine
namespace Mine
theorem cells_end {h₀ h' : Heap} {L : Addr} {D : Addr} {rest own : List (Addr × Obj)} {us : List Value} {xs : List Int} {k tk : Nat} {v : Value} {x : Str} {u m₀ : Str → Option Value} {s₁ : Shared} {pre : List Int} {adr : List Addr}
    (F : Fr h₀ L h' (fun y => if y = x then some v else kstB (fun z => if ([] : List Str).contains z = true then u z else m₀ z) [] y)) (N : News h₀ L h' ((D, listOf us.toArray k) :: (rest ++ own))) (hi : IntsAre us xs) (hx : xs.length = 3) (ha : adr = D :: rest.map (·.1)) :
    InvEndN h₀ L (KstS (σ := List Value × List Int × Nat) (fun c => (D, listOf c.1.toArray c.2.2) :: rest) (fun _ => []) (fun c => IntsAre c.1 c.2.1) x [] m₀ (fun _ c => c.2.1.length = 3) pre) own adr s₁ { s₁ with heap := h', toks := tk } := by
  subst ha
  refine InvEndN.intro (nx := (D, listOf us.toArray k) :: rest) F N ⟨(us, xs, k), rfl, hi, fun p hp => (nomatch hp), fun z hz _ _ => ?_, hx⟩ rfl (fun p hp => ?_) (fun p hp => .tail _ (List.mem_append_right _ hp))
  · simp [hz, kstB]
  · rcases List.mem_cons.mp hp with rfl | hp
    · exact .head _
    · exact .tail _ (List.mem_append_left _ hp)
theorem three_ints : ∀ {xs : List Int}, xs.length = 3 → ∃ a b c, xs = [a, b, c]
  | [a, b, c], _ => ⟨a, b, c, rfl⟩
theorem three_vals {us : List Value} {x y z : Int} (h : IntsAre us [x, y, z]) : ∃ a b c, us = [.int x a, .int y b, .int z c] := by
  cases h with | cons _ _ h1 => cases h1 with | cons _ _ h2 => cases h2 with | cons _ _ h3 => cases h3 with | nil => exact ⟨_, _, _, rfl⟩
theorem five_ints : ∀ {xs : List Int}, xs.length = 5 → ∃ a b c d e, xs = [a, b, c, d, e]
  | [a, b, c, d, e], _ => ⟨a, b, c, d, e, rfl⟩
theorem five_vals {us : List Value} {x y z u v : Int} (h : IntsAre us [x, y, z, u, v]) : ∃ a b c d e, us = [.int x a, .int y b, .int z c, .int u d, .int v e] := by
  cases h with | cons _ _ h1 => cases h1 with | cons _ _ h2 => cases h2 with | cons _ _ h3 => cases h3 with | cons _ _ h4 => cases h4 with | cons _ _ h5 => cases h5 with | nil => exact ⟨_, _, _, _, _, rfl⟩
theorem pow4_ne {n : Nat} (h : (4 : Int) ^ n = 0) : False := by
  have : (0 : Int) < 4 ^ n := Int.pow_pos (by decide)
  omega
/-- the hours loop: what its turns leave -/
def J1 (lc lx : Addr) (ox : Obj) (a1 a2 a3 a4 : Addr) (o1 o2 o4 : Obj) (m₀ : Str → Option Value) (xh : Str) (i : Nat) (m : Str → Option Value) (nx : List (Addr × Obj)) : Prop :=
  ∃ (us : List Value) (ys : List Int) (n : Nat) (hr : Int) (tk : Tok) (oK : Obj) (vK : Option Value), nx = [(lc, listOf us.toArray n), (lx, ox), (a4, o4), (a3, oK), (a2, o2), (a1, o1)] ∧ IntsAre us ys ∧ ys.length = i ∧ 1 ≤ hr ∧ hr ≤ 1 + 3 * (i : Int) ∧ (∀ y ∈ ys, 1 ≤ y ∧ y ≤ 16) ∧ oK.data = .cell vK ∧ m = fun y => if y = xh then some (.int hr tk) else m₀ y
section
variable {prog : Program} {w : World} {A : Around} {E : Value → Shared → Prop} {s : Shared} {env : Env} {h₀ : Heap} {body : List Stmt} {Q : Flow → Shared → Prop}
theorem hours_loop {y xh : Str} {px : Pos} {r : Addr} {t₀ u₀ v₀ t1 : Tok} {m₀ : Str → Option Value} {lc lx a1 a2 a3 a4 : Addr} {ox o1 o2 o3 o4 : Obj} {v3 : Option Value} {n0 : Nat}
    (hh : A.handled = none) (hr : IsRange s.heap r 0 5 1 t₀ u₀ v₀) (F : Fr h₀ env.locals s.heap (fun y => if y = xh then some (.int 1 t1) else m₀ y)) (N : News h₀ env.locals s.heap [(lc, listOf #[] n0), (lx, ox), (a4, o4), (a3, o3), (a2, o2), (a1, o1)]) (h3 : o3.data = .cell v3)
    (turn : ∀ (i : Nat) t us ys n hr tkh oK vK h tk I oI, i < 5 → IntsAre us ys → ys.length = i → 1 ≤ hr → hr ≤ 1 + 3 * (i : Int) → (∀ y ∈ ys, 1 ≤ y ∧ y ≤ 16) → oK.data = .cell vK → (@Ne Nat lc I ∧ @Ne Nat lx I ∧ @Ne Nat a4 I ∧ @Ne Nat a3 I ∧ @Ne Nat a2 I ∧ @Ne Nat a1 I) →
      Fr h₀ env.locals h (fun y => if y = xh then some (.int hr tkh) else m₀ y) → News h₀ env.locals h [(I, oI), (lc, listOf us.toArray n), (lx, ox), (a4, o4), (a3, oK), (a2, o2), (a1, o1)] →
      wpAny (model prog w) A (assign (.Name y px) env (.int (0 + (i : Int)) t)) (fun _ s₃ => wpAny (model prog w) A (execs body env) (GrowPost h₀ env.locals I oI (J1 lc lx ox a1 a2 a3 a4 o1 o2 o4 m₀ xh (i + 1)) { s with heap := h, toks := tk } Q) E s₃) E { s with heap := h, toks := tk })
    (done : ∀ us ys n hr tkh oK vK h tk, IntsAre us ys → ys.length = 5 → (∀ y ∈ ys, 1 ≤ y ∧ y ≤ 16) → oK.data = .cell vK →
      Fr h₀ env.locals h (fun y => if y = xh then some (.int hr tkh) else m₀ y) → News h₀ env.locals h [(lc, listOf us.toArray n), (lx, ox), (a4, o4), (a3, oK), (a2, o2), (a1, o1)] → Q .next { s with heap := h, toks := tk }) :
    wpAny (model prog w) A (pyIter (.ref r)) (fun it s₂ => TurnsAt prog w A h₀ env (.Name y px) body Q E it s₂) E s := by
  refine iter_growT (n := 5) (J1 lc lx ox a1 a2 a3 a4 o1 o2 o4 m₀ xh) hh hr (by decide) (by rfl) F N ⟨[], [], n0, 1, t1, o3, v3, rfl, .nil, rfl, by decide, by decide, (fun _ h => nomatch h), h3, rfl⟩ ?_ ?_
  · rintro i t m₁ news₁ h tk I oI hi hI ⟨us, ys, n, hr, tkh, oK, vK, rfl, f1, f2, f3, f4, f5, f6, rfl⟩ F1 N1
    exact turn i t us ys n hr tkh oK vK h tk I oI hi f1 f2 f3 f4 f5 f6 ⟨hI _ (.head _), hI _ (.tail _ (.head _)), hI _ (.tail _ (.tail _ (.head _))), hI _ (.tail _ (.tail _ (.tail _ (.head _)))), hI _ (.tail _ (.tail _ (.tail _ (.tail _ (.head _))))), hI _ (.tail _ (.tail _ (.tail _ (.tail _ (.tail _ (.head _))))))⟩ F1 N1
  · rintro m₁ news₁ h tk ⟨us, ys, n, hr, tkh, oK, vK, rfl, f1, f2, f3, f4, f5, f6, rfl⟩ F1 N1
    exact done us ys n hr tkh oK vK h tk f1 f2 f5 f6 F1 N1
theorem hours_end {L : Addr} {lc lx a1 a2 a3 a4 I : Addr} {ox o1 o2 o4 oK oI : Obj} {vK v9 : Option Value} {m₀ : Str → Option Value} {xh : Str} {i n tk : Nat} {us : List Value} {ys : List Int} {hr q : Int} {tkh : Tok} {h' : Heap} {s₁ : Shared} {t9 : Tok}
    (F : Fr h₀ L h' (fun y => if y = xh then some (.int (hr + q.fmod 4) tkh) else if y = xh then v9 else m₀ y)) (N : News h₀ L h' [(I, oI), (lc, listOf (us.toArray.push (Value.int (hr + q.fmod 4) t9)) n), (lx, ox), (a4, o4), (a3, oK), (a2, o2), (a1, o1)])
    (hi : IntsAre us ys) (hl : ys.length = i) (h1 : 1 ≤ hr) (h2 : hr ≤ 1 + 3 * (i : Int)) (h3 : ∀ y ∈ ys, 1 ≤ y ∧ y ≤ 16) (hK : oK.data = .cell vK) (hI : @Ne Nat lc I ∧ @Ne Nat lx I ∧ @Ne Nat a4 I ∧ @Ne Nat a3 I ∧ @Ne Nat a2 I ∧ @Ne Nat a1 I)
    (hi5 : i < 5) : GrowPost h₀ L I oI (J1 lc lx ox a1 a2 a3 a4 o1 o2 o4 m₀ xh (i + 1)) s₁ Q Flow.next { s₁ with heap := h', toks := tk } := by
  have q0 := Int.fmod_nonneg_of_pos q (b := 4) (by decide)
  have q1 := Int.fmod_lt_of_pos q (b := 4) (by decide)
  rw [List.push_toArray] at N
  refine GrowEnd.intro (nx := [(lc, listOf (us ++ [Value.int (hr + q.fmod 4) t9]).toArray n), (lx, ox), (a4, o4), (a3, oK), (a2, o2), (a1, o1)]) F N (by simp [hI]) ⟨us ++ [Value.int (hr + q.fmod 4) t9], ys ++ [hr + q.fmod 4], n, hr + q.fmod 4, tkh, oK, vK, rfl, IntsAre.append hi (.cons _ _ .nil), by simp [hl], by omega, by omega, fun y hy => ?_, hK, ?_⟩
  · rcases List.mem_append.mp hy with h | h
    · exact h3 y h
    · rw [List.mem_singleton.mp h]; omega
  · funext y
    by_cases e : y = xh
    · simp [e]
    · simp [e]
end
end Mine
namespace Mine
/-! the plain law: a row of hands, each with a need of its own -/
noncomputable def FF (a : Nat → Int) (S M : Int) : Nat → Int
  | 0 => a 0 + S
  | k + 1 => max (FF a S M k + M) (a (k + 1) + S)
noncomputable def PP (t : Nat → Int) : Nat → Int
  | 0 => t 0
  | k + 1 => max (PP t k) (t (k + 1))
noncomputable def DD (t : Nat → Int) (s : Int) : Nat → Int
  | 0 => max (t 0) 1 + s
  | k + 1 => max (t (k + 1)) (DD t s k) + s
theorem dd_add (a b c : Int) : max (a + c) (b + c) = max a b + c := by
  rcases Int.le_total a b with h | h
  · rw [Int.max_eq_right h, Int.max_eq_right (Int.add_le_add_right h c)]
  · rw [Int.max_eq_left h, Int.max_eq_left (Int.add_le_add_right h c)]
theorem dd_lt {a b c : Int} (e : a ≤ max b c) (h : b < a) : a ≤ c := by
  rcases Int.le_total b c with q | q
  · rwa [Int.max_eq_right q] at e
  · rw [Int.max_eq_left q] at e; exact absurd h (Int.not_lt.mpr e)
theorem dd_r (a b c : Int) : a + b + c = a + c + b := by rw [Int.add_assoc, Int.add_comm b c, Int.add_assoc]
theorem dd_1 {F F' D t a S M s : Int} (hs : 1 ≤ s) (h1 : D = F') (h2 : F + s ≤ D) (h3 : s ≤ M → F' = F + s) (e : max F t = max (F + M) (a + S)) :
  max t D + s = max (F' + max M s) (a + (S + s)) := by
  subst h1
  rcases Int.le_total s M with c | c
  · have q : F + M ≤ max F t := e ▸ Int.le_max_left _ _
    have e1 : F + s ≤ t := Int.le_trans (Int.add_le_add_left c F) (dd_lt q (by omega))
    rw [Int.max_eq_left c, h3 c, Int.max_eq_left e1, dd_r, ← Int.add_assoc, dd_add, ← e, Int.max_eq_right (by omega)]
  · have q : t ≤ max (F + M) (a + S) := e ▸ Int.le_max_right _ _
    have q2 : a + S ≤ max F t := e ▸ Int.le_max_right _ _
    rw [Int.max_eq_right c, ← Int.add_assoc, dd_add]
    congr 1
    rw [Int.max_comm]
    have q3 : F + M ≤ D := Int.le_trans (Int.add_le_add_left c F) h2
    have q4 : F ≤ D := by omega
    refine Int.le_antisymm (Int.max_le.mpr ⟨Int.le_max_left _ _, Int.le_trans q (Int.max_le.mpr ⟨Int.le_trans q3 (Int.le_max_left _ _), Int.le_max_right _ _⟩)⟩) (Int.max_le.mpr ⟨Int.le_max_left _ _, Int.le_trans q2 (Int.max_le.mpr ⟨Int.le_trans q4 (Int.le_max_left _ _), Int.le_max_right _ _⟩)⟩)
theorem dd_2 {P D t s : Int} (hs : 1 ≤ s) (h2 : P + s ≤ D) : max P t + s ≤ max t D + s :=
  Int.add_le_add_right (Int.max_le.mpr ⟨Int.le_trans (by omega) (Int.le_max_right t D), Int.le_max_left _ _⟩) s
theorem dd_3 {F F' a S M s : Int} (h3 : s ≤ M → F' = F + s) (c : s ≤ M) : max (F' + max M s) (a + (S + s)) = max (F + M) (a + S) + s := by
  rw [Int.max_eq_left c, h3 c, dd_r, ← Int.add_assoc, dd_add]
theorem dd_step {a t : Nat → Int} {S M s : Int} (h0 : 1 ≤ t 0) (hs : 1 ≤ s) (hM : 0 ≤ M) : ∀ k, (∀ j ≤ k, PP t j = FF a S M j) → DD t s k = FF a (S + s) (max M s) k ∧ PP t k + s ≤ DD t s k ∧ (s ≤ M → FF a (S + s) (max M s) k = FF a S M k + s)
  | 0, h => by
    have e := h 0 (Nat.le_refl 0)
    simp only [PP, FF, DD] at *
    omega
  | k + 1, h => by
    obtain ⟨h1, h2, h3⟩ := dd_step h0 hs hM k fun j hj => h j (by omega)
    have e := h (k + 1) (Nat.le_refl _)
    have e0 := h k (Nat.le_succ k)
    have e' : max (PP t k) (t (k + 1)) = max (FF a S M k + M) (a (k + 1) + S) := e
    rw [e0] at e' h2
    exact ⟨dd_1 hs h1 h2 h3 e', by show max (PP t k) (t (k + 1)) + s ≤ _; rw [e0]; exact dd_2 hs h2, dd_3 h3⟩
theorem pp_dd {t : Nat → Int} {s : Int} (hs : 1 ≤ s) : ∀ k, PP (DD t s) k = DD t s k
  | 0 => rfl
  | k + 1 => by
    have := pp_dd (t := t) hs k
    simp only [PP, DD] at *
    omega
def at5 (a b c d e : Int) : Nat → Int
  | 0 => a | 1 => b | 2 => c | 3 => d | _ => e
/-- the greatest of a list of needs -/
def mx (l : List Int) : Int := l.foldl max 0
theorem mx_snoc (l : List Int) (s : Int) : mx (l ++ [s]) = max (mx l) s := by simp [mx, List.foldl_append]
theorem mx_nonneg (l : List Int) : 0 ≤ mx l := by
  have h : ∀ (l : List Int) (x : Int), x ≤ l.foldl max x := by
    intro l
    induction l with
    | nil => intro x; exact Int.le_refl x
    | cons y r ih => intro x; exact Int.le_trans (Int.le_max_left x y) (ih _)
  exact h l 0
def Rel (a : Nat → Int) (t : Nat → Int) (sfs : List Int) : Prop := ∀ k ≤ 4, PP t k = FF a sfs.sum (mx sfs) k
theorem rel_start (a : Nat → Int) : Rel a a [] := by
  have h : ∀ k, PP a k = FF a 0 0 k := by
    intro k
    induction k with
    | zero => simp [PP, FF]
    | succ k ih => simp only [PP, FF]; omega
  exact fun k _ => h k
theorem rel_turn {a t : Nat → Int} {sfs : List Int} {s : Int} (h : Rel a t sfs) (h0 : 1 ≤ t 0) (hs : 1 ≤ s) : Rel a (DD t s) (sfs ++ [s]) ∧ ∀ k ≤ 4, DD t s k = FF a (sfs ++ [s]).sum (mx (sfs ++ [s])) k := by
  have e : ∀ k ≤ 4, DD t s k = FF a (sfs ++ [s]).sum (mx (sfs ++ [s])) k := fun k hk => by
    have := (dd_step h0 hs (mx_nonneg sfs) k fun j hj => h j (Nat.le_trans hj hk)).1
    rw [this, mx_snoc, List.sum_append]
    simp
  exact ⟨fun k hk => by rw [pp_dd hs]; exact e k hk, e⟩
theorem dd_bnd {t : Nat → Int} {s B : Int} (hs : 1 ≤ s) (hs4 : s ≤ 4) (hB : 1 ≤ B) : ∀ k, (∀ j ≤ k, 1 ≤ t j ∧ t j ≤ B) → 1 ≤ DD t s k ∧ DD t s k ≤ B + 4 * ((k : Int) + 1)
  | 0, h => by have := h 0 (Nat.le_refl 0); simp only [DD]; omega
  | k + 1, h => by
    have h1 := dd_bnd hs hs4 hB k fun j hj => h j (by omega)
    have := h (k + 1) (Nat.le_refl _)
    simp only [DD]; omega
theorem getD_bnd {nl : List Int} {k : Int} (hl : nl.length = 4) (h : ∀ x ∈ nl, 1 ≤ x ∧ x ≤ 4) (h0 : 0 ≤ k) (h4 : k < 4) : 1 ≤ nl.getD k.toNat 0 ∧ nl.getD k.toNat 0 ≤ 4 := by
  have c : k.toNat < nl.length := by omega
  rw [List.getD_eq_getElem?_getD, List.getElem?_eq_getElem c]
  exact h _ (List.getElem_mem c)
theorem needs_of {us : List Value} {x : Int} (h : IntsAre us (List.map (fun k' : Int => 1 + (x.fdiv (4 ^ k'.toNat)).fmod 4) (rangeKs 0 (4 - 0 : Int).toNat))) : ∃ nl : List Int, IntsAre us nl ∧ nl.length = 4 ∧ ∀ x ∈ nl, 1 ≤ x ∧ x ≤ 4 := by
  refine ⟨_, h, by simp [rangeKs_length], fun y hy => ?_⟩
  obtain ⟨k, _, rfl⟩ := List.mem_map.mp hy
  have q0 := Int.fmod_nonneg_of_pos (x.fdiv (4 ^ k.toNat)) (b := 4) (by decide)
  have q1 := Int.fmod_lt_of_pos (x.fdiv (4 ^ k.toNat)) (b := 4) (by decide)
  omega
end Mine
namespace Mine
/-- the hands loop: what its turns leave -/
def J2 (c : Nat → Int) (lo ls D lc lx a1 a2 a3 a4 : Addr) (oo dO cO xO o1 o2 o4 : Obj) (m₀ : Str → Option Value) (xt : Str) (stored : List Str) (i : Nat) (m : Str → Option Value) (nx : List (Addr × Obj)) : Prop :=
  ∃ (lt : Addr) (t0 t1 t2 t3 t4 : Int) (g0 g1 g2 g3 g4 : Tok) (nt : Nat) (usf : List Value) (sfs : List Int) (nsf : Nat) (u : Str → Option Value) (oK : Obj) (vK : Option Value),
    nx = [(lt, listOf #[.int t0 g0, .int t1 g1, .int t2 g2, .int t3 g3, .int t4 g4] nt), (lo, oo), (ls, listOf usf.toArray nsf), (D, dO), (lc, cO), (lx, xO), (a4, o4), (a3, oK), (a2, o2), (a1, o1)] ∧
    IntsAre usf sfs ∧ sfs.length = i ∧ (∀ x ∈ sfs, 1 ≤ x ∧ x ≤ 4) ∧ Rel c (at5 t0 t1 t2 t3 t4) sfs ∧ (∀ k ≤ 4, 1 ≤ at5 t0 t1 t2 t3 t4 k ∧ at5 t0 t1 t2 t3 t4 k ≤ 16 + 20 * (i : Int)) ∧ @Ne Nat lt ls ∧ @Ne Nat lt a3 ∧ oK.data = .cell vK ∧
    m = fun y => if y = xt then some (.ref lt) else if stored.contains y then u y else m₀ y
section
variable {prog : Program} {w : World} {A : Around} {E : Value → Shared → Prop} {s : Shared} {env : Env} {h₀ : Heap} {body : List Stmt} {Q : Flow → Shared → Prop}
theorem outer_loop {x xt : Str} {m₀ : Str → Option Value} (stored : List Str) {us4 : List Value} {xs4 : List Int} {no ns nc : Nat} {lo ls D lc lx a1 a2 a3 a4 : Addr} {dO cO xO o1 o2 o3 o4 : Obj} {v3 : Option Value} {c0 c1 c2 c3 c4 : Int} {e0 e1 e2 e3 e4 : Tok}
    (hh : A.handled = none) (hi4 : IntsAre us4 xs4) (hx4 : xs4.length = 4 ∧ ∀ x ∈ xs4, 0 ≤ x ∧ x < 4) (F : Fr h₀ env.locals s.heap (fun y => if y = xt then some (.ref lc) else m₀ y))
    (N : News h₀ env.locals s.heap [(lo, listOf us4.toArray no), (ls, listOf #[] ns), (D, dO), (lc, cO), (lx, xO), (a4, o4), (a3, o3), (a2, o2), (a1, o1)])
    (h3 : o3.data = .cell v3) (hb : ∀ y ∈ [c0, c1, c2, c3, c4], 1 ≤ y ∧ y ≤ 16) (hcO : cO = listOf #[.int c0 e0, .int c1 e1, .int c2 e2, .int c3 e3, .int c4 e4] nc) (hne : @Ne Nat lc ls) (hne3 : @Ne Nat lc a3)
    (turn : ∀ (i : Nat) n t lt t0 t1 t2 t3 t4 g0 g1 g2 g3 g4 nt usf sfs nsf (u : Str → Option Value) oK vK h tk I oI, i < 4 → 0 ≤ n → n < 4 → IntsAre usf sfs → sfs.length = i → (∀ x ∈ sfs, 1 ≤ x ∧ x ≤ 4) → Rel (at5 c0 c1 c2 c3 c4) (at5 t0 t1 t2 t3 t4) sfs →
      (∀ k ≤ 4, 1 ≤ at5 t0 t1 t2 t3 t4 k ∧ at5 t0 t1 t2 t3 t4 k ≤ 16 + 20 * (i : Int)) → @Ne Nat lt ls → @Ne Nat lt a3 → oK.data = .cell vK →
      (@Ne Nat lt I ∧ @Ne Nat lo I ∧ @Ne Nat ls I ∧ @Ne Nat D I ∧ @Ne Nat lc I ∧ @Ne Nat lx I ∧ @Ne Nat a4 I ∧ @Ne Nat a3 I ∧ @Ne Nat a2 I ∧ @Ne Nat a1 I) →
      Fr h₀ env.locals h (fun y => if y = x then some (.int n t) else if y = xt then some (.ref lt) else if stored.contains y then u y else m₀ y) →
      News h₀ env.locals h [(I, oI), (lt, listOf #[.int t0 g0, .int t1 g1, .int t2 g2, .int t3 g3, .int t4 g4] nt), (lo, listOf us4.toArray no), (ls, listOf usf.toArray nsf), (D, dO), (lc, cO), (lx, xO), (a4, o4), (a3, oK), (a2, o2), (a1, o1)] →
      wpAny (model prog w) A (execs body env) (GrowPost h₀ env.locals I oI (J2 (at5 c0 c1 c2 c3 c4) lo ls D lc lx a1 a2 a3 a4 (listOf us4.toArray no) dO cO xO o1 o2 o4 m₀ xt stored (i + 1)) { s with heap := h, toks := tk } Q) E { s with heap := h, toks := tk })
    (done : ∀ m₁ news₁ h tk, Fr h₀ env.locals h m₁ → News h₀ env.locals h news₁ → Q .next { s with heap := h, toks := tk }) :
    wpAny (model prog w) A (pyIter (.ref lo)) (fun it s₂ => LoopAtV prog w A h₀ env x body Q E it s₂) E s := by
  subst hcO
  let J := J2 (at5 c0 c1 c2 c3 c4) lo ls D lc lx a1 a2 a3 a4 (listOf us4.toArray no) dO (listOf #[.int c0 e0, .int c1 e1, .int c2 e2, .int c3 e3, .int c4 e4] nc) xO o1 o2 o4 m₀ xt stored
  have hb5 : ∀ k ≤ 4, 1 ≤ at5 c0 c1 c2 c3 c4 k ∧ at5 c0 c1 c2 c3 c4 k ≤ 16 + 20 * ((0 : Nat) : Int) := by
    have b0 := hb c0 (by simp)
    have b1 := hb c1 (by simp)
    have b2 := hb c2 (by simp)
    have b3 := hb c3 (by simp)
    have b4 := hb c4 (by simp)
    intro k hk
    obtain h | h | h | h | h : k = 0 ∨ k = 1 ∨ k = 2 ∨ k = 3 ∨ k = 4 := by omega
    all_goals (subst h; simp only [at5]; omega)
  have N0 : News h₀ env.locals s.heap [(lc, listOf #[.int c0 e0, .int c1 e1, .int c2 e2, .int c3 e3, .int c4 e4] nc), (lo, listOf us4.toArray no), (ls, listOf #[] ns), (D, dO), (lc, listOf #[.int c0 e0, .int c1 e1, .int c2 e2, .int c3 e3, .int c4 e4] nc), (lx, xO), (a4, o4), (a3, o3), (a2, o2), (a1, o1)] := fun p hp => by
    rcases List.mem_cons.mp hp with rfl | hp
    · exact N _ (by simp)
    · exact N p hp
  refine iter_growL (ns := xs4) (nn := no) J hh hi4 F N0 (by simp) ⟨lc, c0, c1, c2, c3, c4, e0, e1, e2, e3, e4, nc, [], [], ns, m₀, o3, v3, rfl, .nil, rfl, (fun _ h => nomatch h), rel_start _, hb5, hne, hne3, h3, ?_⟩ ?_ ?_ ?_
  · funext y; simp
  · rintro i m nx ⟨_, _, _, _, _, _, _, _, _, _, _, _, _, _, _, _, _, _, rfl, _⟩; simp
  · rintro i n t m₁ news₁ h tk I oI hn hI ⟨lt, t0, t1, t2, t3, t4, g0, g1, g2, g3, g4, nt, usf, sfs, nsf, u, oK, vK, rfl, f1, f2, f3, f4, f5, f6, f6a, f7, rfl⟩ F1 N1
    have hlt : i < xs4.length := (List.getElem?_eq_some_iff.mp hn).1
    have hb := hx4.2 n (List.mem_of_getElem? hn)
    exact turn i n t lt t0 t1 t2 t3 t4 g0 g1 g2 g3 g4 nt usf sfs nsf u oK vK h tk I oI (by omega) hb.1 hb.2 f1 f2 f3 f4 f5 f6 f6a f7 (by simpa using hI) F1 N1
  · rintro m₁ news₁ h tk _ F1 N1
    exact done m₁ news₁ h tk F1 N1
end
end Mine
namespace Mine
/-- the letters loop of one hand: what its turns leave -/
def J4 (t : Nat → Int) (sv : Int) (ld : Addr) (rest : List (Addr × Obj)) (m₁ : Str → Option Value) (x xf : Str) (i : Nat) (m : Str → Option Value) (nx : List (Addr × Obj)) : Prop :=
  ∃ (usd : List Value) (dn : List Int) (nd : Nat) (fr : Int) (tf : Tok) (uc : Option Value), nx = (ld, listOf usd.toArray nd) :: rest ∧ IntsAre usd dn ∧ dn = (List.range i).map (DD t sv) ∧
    (match i with | 0 => fr = 1 | k + 1 => fr = DD t sv k) ∧ m = fun y => if y = xf then some (.int fr tf) else if y = x then uc else m₁ y
theorem at5_get {t0 t1 t2 t3 t4 n : Int} {i : Nat} (h : ([t0, t1, t2, t3, t4] : List Int)[i]? = some n) : i < 5 ∧ n = at5 t0 t1 t2 t3 t4 i := by
  have hi : i < 5 := (List.getElem?_eq_some_iff.mp h).1
  obtain h0 | h0 | h0 | h0 | h0 : i = 0 ∨ i = 1 ∨ i = 2 ∨ i = 3 ∨ i = 4 := by omega
  all_goals (subst h0; refine ⟨by decide, ?_⟩; simp at h; simp [at5, h])
section
variable {prog : Program} {w : World} {A : Around} {E : Value → Shared → Prop} {s : Shared} {env : Env} {h₀ : Heap} {body : List Stmt} {Q : Flow → Shared → Prop}
theorem letters_loop {x xf : Str} (hxf : xf ≠ x) {m₁ : Str → Option Value} {lt ld : Addr} {nt n0 : Nat} {t0 t1 t2 t3 t4 : Int} {g0 g1 g2 g3 g4 tf : Tok} (sv B : Int) {I : Addr} {oI : Obj} {rest : List (Addr × Obj)}
    (hh : A.handled = none) (F : Fr h₀ env.locals s.heap m₁) (hm : m₁ xf = some (.int 1 tf))
    (N : News h₀ env.locals s.heap ((ld, listOf #[] n0) :: (I, oI) :: (lt, listOf #[.int t0 g0, .int t1 g1, .int t2 g2, .int t3 g3, .int t4 g4] nt) :: rest)) (hs : 1 ≤ sv ∧ sv ≤ 4)
    (hb : ∀ k ≤ 4, 1 ≤ at5 t0 t1 t2 t3 t4 k ∧ at5 t0 t1 t2 t3 t4 k ≤ B) (hB : 1 ≤ B ∧ B ≤ 76)
    (turn : ∀ (i : Nat) n t usd dn nd fr tf uc h tk I' oI', i < 5 → IntsAre usd dn → dn = (List.range i).map (DD (at5 t0 t1 t2 t3 t4) sv) → max n fr + sv = DD (at5 t0 t1 t2 t3 t4) sv i → 1 ≤ n → n ≤ 76 → 1 ≤ fr → fr ≤ 96 → @Ne Nat ld I' →
      (∀ p ∈ (I, oI) :: (lt, listOf #[.int t0 g0, .int t1 g1, .int t2 g2, .int t3 g3, .int t4 g4] nt) :: rest, p.1 ≠ I') →
      Fr h₀ env.locals h (fun y => if y = x then some (.int n t) else if y = xf then some (.int fr tf) else if y = x then uc else m₁ y) →
      News h₀ env.locals h ((I', oI') :: (ld, listOf usd.toArray nd) :: (I, oI) :: (lt, listOf #[.int t0 g0, .int t1 g1, .int t2 g2, .int t3 g3, .int t4 g4] nt) :: rest) →
      wpAny (model prog w) A (execs body env) (GrowPost h₀ env.locals I' oI' (J4 (at5 t0 t1 t2 t3 t4) sv ld ((I, oI) :: (lt, listOf #[.int t0 g0, .int t1 g1, .int t2 g2, .int t3 g3, .int t4 g4] nt) :: rest) m₁ x xf (i + 1)) { s with heap := h, toks := tk } Q) E { s with heap := h, toks := tk })
    (done : ∀ usd dn nd fr tf uc h tk, IntsAre usd dn → dn.length = 5 → (∀ k < 5, dn.getD k 0 = DD (at5 t0 t1 t2 t3 t4) sv k) → Fr h₀ env.locals h (fun y => if y = xf then some (.int fr tf) else if y = x then uc else m₁ y) →
      News h₀ env.locals h ((ld, listOf usd.toArray nd) :: (I, oI) :: (lt, listOf #[.int t0 g0, .int t1 g1, .int t2 g2, .int t3 g3, .int t4 g4] nt) :: rest) →
      Q .next { s with heap := h, toks := tk }) :
    wpAny (model prog w) A (pyIter (.ref lt)) (fun it s₂ => LoopAtV prog w A h₀ env x body Q E it s₂) E s := by
  have hi : IntsAre [.int t0 g0, .int t1 g1, .int t2 g2, .int t3 g3, .int t4 g4] [t0, t1, t2, t3, t4] := .cons _ _ (.cons _ _ (.cons _ _ (.cons _ _ (.cons _ _ .nil))))
  refine iter_growL (vs := [.int t0 g0, .int t1 g1, .int t2 g2, .int t3 g3, .int t4 g4]) (ns := [t0, t1, t2, t3, t4]) (nn := nt)
    (J4 (at5 t0 t1 t2 t3 t4) sv ld ((I, oI) :: (lt, listOf #[.int t0 g0, .int t1 g1, .int t2 g2, .int t3 g3, .int t4 g4] nt) :: rest) m₁ x xf) hh hi F N (by simp) ⟨[], [], n0, 1, tf, m₁ x, rfl, .nil, rfl, rfl, ?_⟩ ?_ ?_ ?_
  · funext y
    by_cases h1 : y = xf
    · simp [h1, hm]
    · by_cases h2 : y = x
      · subst h2; simp [h1]
      · simp [h1, h2]
  · rintro i m nx ⟨_, _, _, _, _, _, rfl, _⟩; simp
  · rintro i n t m news₁ h tk I' oI' hn hI ⟨usd, dn, nd, fr, tf', uc, rfl, f1, f2, f3, rfl⟩ F1 N1
    obtain ⟨hi5, rfl⟩ := at5_get hn
    have hbn := hb i (by omega)
    refine turn i _ t usd dn nd fr tf' uc h tk I' oI' hi5 f1 f2 ?_ hbn.1 (by omega) ?_ ?_ (hI _ (.head _)) (fun p hp => hI p (.tail _ hp)) F1 N1
    · cases i with
      | zero => simp only at f3; rw [f3]; rfl
      | succ k => simp only at f3; rw [f3]; rfl
    · cases i with
      | zero => simp only at f3; omega
      | succ k => simp only at f3; have := (dd_bnd hs.1 hs.2 hB.1 k fun j hj => hb j (by omega)).1; omega
    · cases i with
      | zero => simp only at f3; omega
      | succ k => simp only at f3; have := (dd_bnd hs.1 hs.2 hB.1 k fun j hj => hb j (by omega)).2; omega
  · rintro m news₁ h tk ⟨usd, dn, nd, fr, tf', uc, rfl, f1, f2, f3, rfl⟩ F1 N1
    refine done usd dn nd fr tf' uc h tk f1 (by rw [f2]; simp) (fun k hk => ?_) F1 N1
    rw [f2]
    simp [List.getD_eq_getElem?_getD, hk]
theorem letters_end {L I' ld : Addr} {oI' : Obj} {rest : List (Addr × Obj)} {t : Nat → Int} {sv v n : Int} {tv tn t9 : Tok} {m₁ : Str → Option Value} {v8 v9 : Option Value} {x xf : Str} {i nd tk : Nat} {usd : List Value} {dn : List Int} {h' : Heap} {s₁ : Shared}
    (hv : v = DD t sv i) (hd : dn = (List.range i).map (DD t sv)) (hi : IntsAre usd dn) (hI : @Ne Nat ld I') (hr : ∀ p ∈ rest, p.1 ≠ I')
    (F : Fr h₀ L h' (fun y => if y = xf then some (.int v tv) else if y = x then some (.int n tn) else if y = xf then v8 else if y = x then v9 else m₁ y)) (N : News h₀ L h' ((I', oI') :: (ld, listOf (usd.toArray.push (.int v t9)) (nd + 1)) :: rest)) :
    GrowPost h₀ L I' oI' (J4 t sv ld rest m₁ x xf (i + 1)) s₁ Q Flow.next { s₁ with heap := h', toks := tk } := by
  rw [List.push_toArray] at N
  refine GrowEnd.intro (nx := (ld, listOf (usd ++ [Value.int v t9]).toArray (nd + 1)) :: rest) F N (fun p hp => ?_) ⟨usd ++ [Value.int v t9], dn ++ [v], nd + 1, v, tv, some (Value.int n tn), rfl, IntsAre.append hi (.cons _ _ .nil), ?_, hv, ?_⟩
  · rcases List.mem_cons.mp hp with rfl | hp
    · exact hI
    · exact hr p hp
  · rw [hd, hv, List.range_succ, List.map_append]; rfl
  · funext y
    by_cases h1 : y = xf
    · simp [h1]
    · by_cases h2 : y = x
      · simp [h2]
      · simp [h1, h2]
/-- the checks loop of one hand: its turns leave the k's cell and a list of ways, no more -/
def J3 (pre post : List (Addr × Obj)) (a3 : Addr) (m₁ : Str → Option Value) (xw : Str) (_i : Nat) (m : Str → Option Value) (nx : List (Addr × Obj)) : Prop :=
  ∃ (oK : Obj) (vK : Option Value) (uw : Option Value), nx = pre ++ (a3, oK) :: post ∧ oK.data = .cell vK ∧ m = fun y => if y = xw then uw else m₁ y
theorem check_loop {y xw : Str} {px : Pos} {r : Addr} {t₀ u₀ v₀ : Tok} {m₁ : Str → Option Value} (pre post : List (Addr × Obj)) {a3 : Addr} {o3 : Obj} {v3 : Option Value}
    (hh : A.handled = none) (hr : IsRange s.heap r 0 5 1 t₀ u₀ v₀) (F : Fr h₀ env.locals s.heap m₁) (N : News h₀ env.locals s.heap (pre ++ (a3, o3) :: post)) (h3 : o3.data = .cell v3)
    (turn : ∀ (i : Nat) t oK vK uw h tk I oI, i < 5 → (∀ p ∈ pre, @Ne Nat p.1 I) → @Ne Nat a3 I → (∀ p ∈ post, @Ne Nat p.1 I) → oK.data = .cell vK → Fr h₀ env.locals h (fun y => if y = xw then uw else m₁ y) → News h₀ env.locals h ((I, oI) :: (pre ++ (a3, oK) :: post)) →
      wpAny (model prog w) A (assign (.Name y px) env (.int (0 + (i : Int)) t)) (fun _ s₃ => wpAny (model prog w) A (execs body env) (GrowPost h₀ env.locals I oI (J3 pre post a3 m₁ xw (i + 1)) { s with heap := h, toks := tk } Q) E s₃) E { s with heap := h, toks := tk })
    (done : ∀ oK vK uw h tk, oK.data = .cell vK → Fr h₀ env.locals h (fun y => if y = xw then uw else m₁ y) → News h₀ env.locals h (pre ++ (a3, oK) :: post) → Q .next { s with heap := h, toks := tk }) :
    wpAny (model prog w) A (pyIter (.ref r)) (fun it s₂ => TurnsAt prog w A h₀ env (.Name y px) body Q E it s₂) E s := by
  refine iter_growT (n := 5) (J3 pre post a3 m₁ xw) hh hr (by decide) (by rfl) F N ⟨o3, v3, m₁ xw, rfl, h3, ?_⟩ ?_ ?_
  · funext z
    by_cases h1 : z = xw
    · simp [h1]
    · simp [h1]
  · rintro i t m news₁ h tk I oI hi hI ⟨oK, vK, uw, rfl, f1, rfl⟩ F1 N1
    exact turn i t oK vK uw h tk I oI hi (fun p hp => hI p (List.mem_append_left _ hp)) (hI (a3, oK) (List.mem_append_right _ (.head _))) (fun p hp => hI p (List.mem_append_right _ (.tail _ hp))) f1 F1 N1
  · rintro m news₁ h tk ⟨oK, vK, uw, rfl, f1, rfl⟩ F1 N1
    exact done oK vK uw h tk f1 F1 N1
theorem check_end {L I : Addr} {oI oK : Obj} {vK : Option Value} {pre post : List (Addr × Obj)} {a3 : Addr} {m₁ : Str → Option Value} {v8 v9 : Option Value} {xw : Str} {i tk : Nat} {h' : Heap} {s₁ : Shared} {news' : List (Addr × Obj)}
    (hp : ∀ p ∈ pre, p.1 ≠ I) (h3 : @Ne Nat a3 I) (hq : ∀ p ∈ post, p.1 ≠ I) (hk : oK.data = .cell vK) (F : Fr h₀ L h' (fun y => if y = xw then v8 else if y = xw then v9 else m₁ y)) (N : News h₀ L h' news') (hs : ∀ p ∈ (I, oI) :: (pre ++ (a3, oK) :: post), p ∈ news') :
    GrowPost h₀ L I oI (J3 pre post a3 m₁ xw (i + 1)) s₁ Q Flow.next { s₁ with heap := h', toks := tk } := by
  refine GrowEnd.intro (nx := pre ++ (a3, oK) :: post) F (fun p hp => N p (hs p hp)) (fun p hm => ?_) ⟨oK, vK, v8, rfl, hk, ?_⟩
  · rcases List.mem_append.mp hm with h | h
    · exact hp p h
    · rcases List.mem_cons.mp h with rfl | h
      · exact h3
      · exact hq p h
  · funext z
    by_cases h1 : z = xw
    · simp [h1]
    · simp [h1]
end
end Mine
namespace Mine
/-- the greatest item of a list that is not empty -/
def top : List Int → Int
  | [] => 0
  | x :: r => r.foldl max x
theorem top_is : ∀ (r : List Int) (x M : Int), M ∈ x :: r → (∀ a ∈ x :: r, a ≤ M) → M = r.foldl max x
  | [], x, M, h, _ => List.mem_singleton.mp h
  | y :: r, x, M, h, hb => by
    refine top_is r (max x y) M ?_ fun a ha => ?_
    · have h1 := hb x (by simp)
      have h2 := hb y (by simp)
      rcases List.mem_cons.mp h with e | h
      · subst e; rw [Int.max_eq_left h2]; exact .head _
      · rcases List.mem_cons.mp h with e | h
        · subst e; rw [Int.max_eq_right h1]; exact .head _
        · exact .tail _ h
    · rcases List.mem_cons.mp ha with e | ha
      · have h1 := hb x (by simp)
        have h2 := hb y (by simp)
        omega
      · exact hb a (by simp [ha])
theorem top_eq {l : List Int} {M : Int} (h : M ∈ l) (hb : ∀ a ∈ l, a ≤ M) : M = top l := by
  cases l with
  | nil => cases h
  | cons x r => exact top_is r x M h hb
theorem top_mx {l : List Int} (h : ∀ x ∈ l, 1 ≤ x) (hl : 0 < l.length) : top l = mx l := by
  cases l with
  | nil => cases hl
  | cons x r =>
    have := h x (.head _)
    show r.foldl max x = r.foldl max (max 0 x)
    rw [Int.max_eq_right (by omega)]
section
variable {prog : Program} {w : World} {A : Around} {E : Value → Shared → Prop} {s : Shared} {h₀ : Heap} {L l : Addr} {m : Str → Option Value} {news : List (Addr × Obj)} {vs : List Value} {ns : List Int} {Q : Value → Shared → Prop}
theorem my_isList (N : News h₀ L s.heap news) (hm : (l, LCg.lst vs) ∈ news) : s.heap.IsList l vs.toArray := ⟨_, (N _ hm).1, rfl, vs.length, rfl⟩
theorem my_max (F : Fr h₀ L s.heap m) (N : News h₀ L s.heap news) (hl : s.heap.IsList l vs.toArray) (hi : IntsAre vs ns) (hne : 0 < ns.length) (hh : A.handled = none)
    (h : ∀ h' (t : Tok) tk, Fr h₀ L h' m → News h₀ L h' news → Q (.int (top ns) t) { s with heap := h', toks := tk }) : wpAny (model prog w) A (call (.builtin "max") [.ref l]) Q E s :=
  kso_max F N hl hi hne hh fun h' M t tk F' N' a b => by
    have e := top_eq a b
    subst e
    exact h h' t tk F' N'
end
end Mine
namespace Mine
theorem mxa (a b T : Int) : max a b + T = max (a + T) (b + T) := by omega
theorem q00 (a T : Int) : a + (0 + 0 - (0 + 0)) * T = a := by omega
theorem q10 (a T : Int) : a + (0 + 1 - (0 + 0)) * T = a + T := by omega
theorem q11 (a T : Int) : a + (0 + 1 - (0 + 1)) * T = a := by omega
theorem q20 (a T : Int) : a + (0 + 2 - (0 + 0)) * T = a + T + T := by omega
theorem q21 (a T : Int) : a + (0 + 2 - (0 + 1)) * T = a + T := by omega
theorem q22 (a T : Int) : a + (0 + 2 - (0 + 2)) * T = a := by omega
theorem q30 (a T : Int) : a + (0 + 3 - (0 + 0)) * T = a + T + T + T := by omega
theorem q31 (a T : Int) : a + (0 + 3 - (0 + 1)) * T = a + T + T := by omega
theorem q32 (a T : Int) : a + (0 + 3 - (0 + 2)) * T = a + T := by omega
theorem q33 (a T : Int) : a + (0 + 3 - (0 + 3)) * T = a := by omega
theorem q40 (a T : Int) : a + (0 + 4 - (0 + 0)) * T = a + T + T + T + T := by omega
theorem q41 (a T : Int) : a + (0 + 4 - (0 + 1)) * T = a + T + T + T := by omega
theorem q42 (a T : Int) : a + (0 + 4 - (0 + 2)) * T = a + T + T := by omega
theorem q43 (a T : Int) : a + (0 + 4 - (0 + 3)) * T = a + T := by omega
theorem q44 (a T : Int) : a + (0 + 4 - (0 + 4)) * T = a := by omega
theorem check_val (c0 c1 c2 c3 c4 S T : Int) (k : Nat) (hk : k < 5) :
    top (List.map (fun k' : Int => ([c0, c1, c2, c3, c4] : List Int).getD k'.toNat 0 + S + (0 + (k : Int) - k') * T) (rangeKs 0 (0 + (k : Int) + 1 - 0).toNat)) = FF (at5 c0 c1 c2 c3 c4) S T k := by
  have r1 : (0 + ((0 : Nat) : Int) + 1 - 0).toNat = 1 := by decide
  have r2 : (0 + ((1 : Nat) : Int) + 1 - 0).toNat = 2 := by decide
  have r3 : (0 + ((2 : Nat) : Int) + 1 - 0).toNat = 3 := by decide
  have r4 : (0 + ((3 : Nat) : Int) + 1 - 0).toNat = 4 := by decide
  have r5 : (0 + ((4 : Nat) : Int) + 1 - 0).toNat = 5 := by decide
  obtain h | h | h | h | h : k = 0 ∨ k = 1 ∨ k = 2 ∨ k = 3 ∨ k = 4 := by omega
  · subst h; rw [r1]
    show c0 + S + (0 + 0 - (0 + 0)) * T = c0 + S
    simp only [q00]
  · subst h; rw [r2]
    show max (c0 + S + (0 + 1 - (0 + 0)) * T) (c1 + S + (0 + 1 - (0 + 1)) * T) = max (c0 + S + T) (c1 + S)
    simp only [q10, q11, mxa]
  · subst h; rw [r3]
    show max (max (c0 + S + (0 + 2 - (0 + 0)) * T) (c1 + S + (0 + 2 - (0 + 1)) * T)) (c2 + S + (0 + 2 - (0 + 2)) * T) = max (max (c0 + S + T) (c1 + S) + T) (c2 + S)
    simp only [q20, q21, q22, mxa]
  · subst h; rw [r4]
    show max (max (max (c0 + S + (0 + 3 - (0 + 0)) * T) (c1 + S + (0 + 3 - (0 + 1)) * T)) (c2 + S + (0 + 3 - (0 + 2)) * T)) (c3 + S + (0 + 3 - (0 + 3)) * T) = max (max (max (c0 + S + T) (c1 + S) + T) (c2 + S) + T) (c3 + S)
    simp only [q30, q31, q32, q33, mxa]
  · subst h; rw [r5]
    show max (max (max (max (c0 + S + (0 + 4 - (0 + 0)) * T) (c1 + S + (0 + 4 - (0 + 1)) * T)) (c2 + S + (0 + 4 - (0 + 2)) * T)) (c3 + S + (0 + 4 - (0 + 3)) * T)) (c4 + S + (0 + 4 - (0 + 4)) * T) = max (max (max (max (c0 + S + T) (c1 + S) + T) (c2 + S) + T) (c3 + S) + T) (c4 + S)
    simp only [q40, q41, q42, q43, q44, mxa]
theorem check_ok {c0 c1 c2 c3 c4 : Int} {t : Nat → Int} {ys sfs : List Int} {s : Int} (hy : ys = [c0, c1, c2, c3, c4]) (h : Rel (at5 c0 c1 c2 c3 c4) t sfs) (h0 : 1 ≤ t 0) (hs : 1 ≤ s) (hf : ∀ x ∈ sfs, 1 ≤ x ∧ x ≤ 4) (k : Nat) (hk : k < 5) :
    DD t s k = top (List.map (fun k' : Int => ys.getD k'.toNat 0 + (sfs ++ [s]).sum + (0 + (k : Int) - k') * top (sfs ++ [s])) (rangeKs 0 (0 + (k : Int) + 1 - 0).toNat)) := by
  subst hy
  have e : top (sfs ++ [s]) = mx (sfs ++ [s]) := top_mx (fun x hx => by
    rcases List.mem_append.mp hx with hx | hx
    · exact (hf x hx).1
    · rw [List.mem_singleton.mp hx]; exact hs) (by simp)
  rw [check_val _ _ _ _ _ _ _ k hk, e]
  exact (rel_turn h h0 hs).2 k (by omega)
theorem check_no {c0 c1 c2 c3 c4 : Int} {t : Nat → Int} {ys sfs dn : List Int} {s : Int} (hy : ys = [c0, c1, c2, c3, c4]) (h : Rel (at5 c0 c1 c2 c3 c4) t sfs) (h0 : 1 ≤ t 0) (hs : 1 ≤ s) (hf : ∀ x ∈ sfs, 1 ≤ x ∧ x ≤ 4) (hd : ∀ k < 5, dn.getD k 0 = DD t s k) {k : Nat} (hk : k < 5)
    (hn : dn.getD (0 + (k : Int)).toNat 0 ≠ top (List.map (fun k' : Int => ys.getD k'.toNat 0 + (sfs ++ [s]).sum + (0 + (k : Int) - k') * top (sfs ++ [s])) (rangeKs 0 (0 + (k : Int) + 1 - 0).toNat))) : False := by
  refine hn ?_
  rw [show (0 + (k : Int)).toNat = k by omega, hd k hk]
  exact check_ok hy h h0 hs hf k hk
end Mine
namespace Mine
theorem pp_congr {f g : Nat → Int} : ∀ k, (∀ j ≤ k, f j = g j) → PP f k = PP g k
  | 0, h => h 0 (Nat.le_refl 0)
  | k + 1, h => by
    simp only [PP]
    rw [pp_congr k fun j hj => h j (by omega), h (k + 1) (Nat.le_refl _)]
theorem sub_perm {α : Type} {a b c : α} {r : List α} : ∀ p ∈ b :: a :: r, p ∈ a :: b :: c :: r := fun p hp => by
  rcases List.mem_cons.mp hp with rfl | hp
  · exact .tail _ (.head _)
  · rcases List.mem_cons.mp hp with rfl | hp
    · exact .head _
    · exact .tail _ (.tail _ (.tail _ hp))
theorem outer_end {h₀ h' : Heap} {L : Addr} {c : Nat → Int} {lo ls D lc lx a1 a2 a3 a4 ld I : Addr} {oo dO cO xO o1 o2 o4 oK oI : Obj} {vK : Option Value} {m₀ m' : Str → Option Value} {xt : Str} {stored : List Str} {i nd n2 tk : Nat} {s₁ : Shared} {Q : Flow → Shared → Prop}
    {usd us2 : List Value} {dn sfs : List Int} {s t0 t1 t2 t3 t4 : Int} {news' : List (Addr × Obj)}
    (ht : m' xt = some (.ref ld)) (hm : ∀ y, y ≠ xt → stored.contains y = false → m' y = m₀ y) (F : Fr h₀ L h' m') (N : News h₀ L h' news')
    (hs : ∀ p ∈ [(I, oI), (ld, listOf usd.toArray nd), (lo, oo), (ls, listOf us2.toArray n2), (D, dO), (lc, cO), (lx, xO), (a4, o4), (a3, oK), (a2, o2), (a1, o1)], p ∈ news')
    (hI : @Ne Nat lo I ∧ @Ne Nat ls I ∧ @Ne Nat D I ∧ @Ne Nat lc I ∧ @Ne Nat lx I ∧ @Ne Nat a4 I ∧ @Ne Nat a3 I ∧ @Ne Nat a2 I ∧ @Ne Nat a1 I) (hl1 : @Ne Nat ld I) (hl2 : @Ne Nat ld ls) (hl3 : @Ne Nat ld a3)
    (e1 : IntsAre usd dn) (e2 : dn.length = 5) (e3 : ∀ k < 5, dn.getD k 0 = DD (at5 t0 t1 t2 t3 t4) s k) (hsf : IntsAre us2 (sfs ++ [s])) (f2 : sfs.length = i) (f3 : ∀ x ∈ sfs, 1 ≤ x ∧ x ≤ 4) (f4 : Rel c (at5 t0 t1 t2 t3 t4) sfs)
    (f5 : ∀ k ≤ 4, 1 ≤ at5 t0 t1 t2 t3 t4 k ∧ at5 t0 t1 t2 t3 t4 k ≤ 16 + 20 * (i : Int)) (hnd : 1 ≤ s ∧ s ≤ 4) (hK : oK.data = .cell vK) :
    GrowPost h₀ L I oI (J2 c lo ls D lc lx a1 a2 a3 a4 oo dO cO xO o1 o2 o4 m₀ xt stored (i + 1)) s₁ Q Flow.next { s₁ with heap := h', toks := tk } := by
  obtain ⟨d0, d1, d2, d3, d4, rfl⟩ := five_ints e2
  obtain ⟨z0, z1, z2, z3, z4, rfl⟩ := five_vals e1
  have hd : ∀ k ≤ 4, at5 d0 d1 d2 d3 d4 k = DD (at5 t0 t1 t2 t3 t4) s k := fun k hk => by
    rw [← e3 k (by omega)]
    obtain h | h | h | h | h : k = 0 ∨ k = 1 ∨ k = 2 ∨ k = 3 ∨ k = 4 := by omega
    all_goals (subst h; rfl)
  have hrel := (rel_turn f4 (f5 0 (by decide)).1 hnd.1).1
  refine GrowEnd.intro (nx := [(ld, listOf #[.int d0 z0, .int d1 z1, .int d2 z2, .int d3 z3, .int d4 z4] nd), (lo, oo), (ls, listOf us2.toArray n2), (D, dO), (lc, cO), (lx, xO), (a4, o4), (a3, oK), (a2, o2), (a1, o1)]) F (fun p hp => N p (hs p hp)) (by simp; exact ⟨hl1, hI⟩)
    ⟨ld, d0, d1, d2, d3, d4, z0, z1, z2, z3, z4, nd, us2, sfs ++ [s], n2, m', oK, vK, rfl, hsf, by simp [f2], fun x hx => ?_, fun k hk => ?_, fun k hk => ?_, hl2, hl3, hK, ?_⟩
  · rcases List.mem_append.mp hx with hx | hx
    · exact f3 x hx
    · rw [List.mem_singleton.mp hx]; exact hnd
  · rw [pp_congr k fun j hj => hd j (by omega)]
    exact hrel k hk
  · rw [hd k hk]
    have := dd_bnd (t := at5 t0 t1 t2 t3 t4) (B := 16 + 20 * (i : Int)) hnd.1 hnd.2 (by omega) k fun j hj => f5 j (by omega)
    omega
  · funext y
    by_cases h1 : y = xt
    · simp [h1, ht]
    · rw [if_neg h1]
      cases h2 : stored.contains y with
      | true => simp
      | false => simp only [Bool.false_eq_true, if_false]; exact hm y h1 h2
end Mine
namespace Mine
local macro_rules | `(tactic| walk_at "binaryOp FloorDiv int int") => `(tactic| (k_here; (refine floordiv_int ?kbe ?_); (case kbe => exact fun h => pow4_ne h)))
local macro_rules | `(tactic| walk_at "call ref") => `(tactic| (k_here; k_dflt ((refine' TellL.use (order_c _ _) ?k1 ?k2 ?k3 ?k4 ?k5 ?kK ?kp ?kd ?ku ?_); (case k1 => k_asm); (case k2 => k_asm); (case k3 => k_asm); (case k4 => k_asm); (case k5 => k_asm); (case kK => exact rfl); (case kp => exact ⟨Int.fmod_nonneg_of_pos _ (by decide), Int.fmod_lt_of_pos _ (by decide)⟩); (case kd => ktr_room); (case ku => ktr_units)); intro l9 us9 xs9 n9 h9 tk9 F9 N9 i9 p9 b9; (try k_lt b9); (try dsimp only); (try k_fold)))
theorem toNat_z (i : Nat) : ((0 + (i : Int) + 1 - 0).toNat : Int) = (i : Int) + 1 := by omega
theorem small_of {come free way : Int} (h1 : 1 ≤ come) (h2 : come ≤ 100) (h3 : 1 ≤ free) (h4 : free ≤ 100) (q : Int) (hq : way = q.fmod 12) : Small come free way := by
  subst hq
  exact ⟨h1, h2, h3, h4, Int.fmod_nonneg_of_pos _ (by decide), Int.fmod_lt_of_pos _ (by decide)⟩
local macro_rules | `(tactic| walk_at "call ref") => `(tactic| (k_here; k_dflt ((refine' Tell.use (begun_c _ _ _ _ _ _ _ _) ?k1 ?k2 ?k3 ?k4 ?k5 ?kK ?kp ?kd ?ku ?_); (case k1 => k_asm); (case k2 => k_asm); (case k3 => k_asm); (case k4 => k_asm); (case k5 => k_asm); (case kK => exact rfl); (case kp => exact ⟨by omega, by omega, small_of (by omega) (by omega) (by omega) (by omega) _ rfl⟩); (case kd => ktr_room); (case ku => ktr_units)); intro t9 h9 tk9 F9 N9; (try dsimp only); (try k_fold)))
local macro_rules | `(tactic| walk_at "call builtin:max") => `(tactic| (k_here; (with_reducible show wpAny _ _ (call (Value.builtin _) [Value.ref _]) _ _ _); (with_unfolding_all refine' my_max ?k1 ?k2 ?k3 ?k4 ?k5 ?k6 ?_; (case k1 => k_asm); (case k2 => k_asm); (case k3 => first | kso_list | exact my_isList (by k_asm) (by k_mem)); (case k4 => l_ints); (case k5 => first | kso_len | (rw [List.length_map, rangeKs_length]; omega)); (case k6 => with_unfolding_all rfl); k_whole); intro h' t' k' F' N'; (try k_sweep)))
set_option maxRecDepth 100000 in
set_option maxHeartbeats 8000000 in
theorem t1 : PySem.Challenge.rw_jc0036_01.Holds := hd ⟨hd_left, (by
  w_top off
  k_go0
  (all_goals try k_fold)
  iterate 28 walk1
  rename Fr _ _ _ _ => lF'
  rename News _ _ _ _ => lN'
  rename IsRange _ _ _ _ _ _ _ _ => rgX
  with_unfolding_all refine' kst_range (σ := List Value × List Int × Nat) (fun c => (_, listOf c.1.toArray c.2.2) :: _) (fun _ => []) (fun c => IntsAre c.1 c.2.1) [] (fun _ c => c.2.1.length = 3) ⟨_, _, _⟩ (by rfl) rgX (small_one (by omega) (by omega) (by omega) (by omega)) (rangeSize_nat _ _) lF' lN' ?kf ?kk ?kp ?_ ?_
  (case kf => exact .cons _ _ (.cons _ _ (.cons _ _ .nil)))
  (case kk => exact fun _ hp => nomatch hp)
  (case kp => rfl)
  clear lF' lN'
  · have mk := kstMark
    intro c pre i t u h tk own hEq hLt hOff hFacts hInv hFr hNews
    obtain ⟨us, xs, k⟩ := c
    dsimp only [List.cons_append] at *
    k_fold
    k_steps
    exact cells_end (by assumption) (by assumption) (by assumption) (by omega) rfl
  · intro c u h tk hFacts hInv hFr hNews
    obtain ⟨us, xs, k⟩ := c
    dsimp only at hFacts hInv hFr hNews
    obtain ⟨x0, x1, x2, hx⟩ := three_ints hInv
    subst hx
    obtain ⟨y0, y1, y2, hy⟩ := three_vals hFacts
    subst hy
    (try k_fold)
    iterate 12 (first | (k_unfold; (try dsimp only)) | walk1 | (dsimp only; walk1))
    rename Fr _ _ _ _ => lF'
    (with_unfolding_all refine' For_turns lF' ?_)
    k_whole
    iterate 7 (first | (k_unfold; (try dsimp only)) | walk1 | (dsimp only; walk1))
    rename Fr _ _ _ _ => lF'
    rename News _ _ _ _ => lN'
    rename IsRange _ _ _ _ _ _ _ _ => rgX
    with_unfolding_all refine' hours_loop (by rfl) rgX lF' lN' (by assumption) ?_ ?_
    · intro i t us ys n hr tkh oK vK h tk I oI h1 h2 h3 h4 h5 h6 h7 h8 hFr hNews
      have hI8 := h8
      obtain ⟨n1, n2, n3, n4, n5, n6⟩ := h8
      clear lF' lN'
      (try k_fold)
      k_steps
      all_goals first | exact (pow4_ne (by assumption)).elim | exact hours_end (by assumption) (by assumption) h2 h3 h4 h5 h6 (by assumption) hI8 h1
    · intro us ys n hr tkh oK vK h tk h2 h3 h6 h7 hFr hNews
      clear lF' lN' hInv hFacts
      obtain ⟨a0, a1, a2, a3, a4, hx⟩ := five_ints h3
      obtain ⟨z0, z1, z2, z3, z4, hy⟩ := five_vals (hx ▸ h2)
      have hcO : listOf us.toArray n = listOf #[.int a0 z0, .int a1 z1, .int a2 z2, .int a3 z3, .int a4 z4] n := by rw [hy]
      have h6' : ∀ y ∈ [a0, a1, a2, a3, a4], 1 ≤ y ∧ y ≤ 16 := hx ▸ h6
      have hz4 : ((4 - 0 : Int).toNat : Int) = 4 := rfl
      clear hy
      (try k_fold)
      iterate 57 (first | (k_unfold; (try dsimp only)) | walk1 | (dsimp only; walk1) | skip)
      iterate 14 walk1
      rename Fr _ _ _ _ => lF'
      rename News _ _ _ _ => lN'
      rename IntsAre _ (List.map _ _) => hI8
      obtain ⟨nl, hnl, hnl4, hnb⟩ := needs_of hI8
      clear hI8
      with_unfolding_all refine' outer_loop [Str.ofString "hand", Str.ofString "free", Str.ofString "done", Str.ofString "come", Str.ofString "ways"] (by rfl) (by assumption) (by assumption) lF' lN' h7 h6' hcO (by omega) (by omega) ?_ ?_
      · intro i n t lt t0 t1 t2 t3 t4 g0 g1 g2 g3 g4 nt usf sfs nsf u oK vK h tk I oI hi hn0 hn4 f1 f2 f3 f4 f5 f6 f6a f7 f8 hFr hNews
        have f8' := f8
        have f1k : ∀ v t, IntsAre (usf ++ [Value.int v t]) (sfs ++ [v]) := fun v t => f1.append (.cons _ _ .nil)
        obtain ⟨n1, n2, n3, n4, n5, n6, n7, n8, n9, n10⟩ := f8
        clear lF' lN'
        have hb0 := f5 0 (by decide)
        have hb1 := f5 1 (by decide)
        have hb2 := f5 2 (by decide)
        have hb3 := f5 3 (by decide)
        have hb4 := f5 4 (by decide)
        simp only [at5] at hb0 hb1 hb2 hb3 hb4
        have hnd := getD_bnd hnl4 hnb hn0 hn4
        (try k_fold)
        iterate 14 walk1
        rename Fr _ _ _ _ => lF'
        rename News _ _ _ _ => lN'
        with_unfolding_all refine' letters_loop (xf := Str.ofString "free") (by decide) (nl.getD n.toNat 0) (16 + 20 * (i : Int)) (by rfl) lF' (by rfl) lN' hnd f5 (by omega) ?_ ?_
        · intro i' n' t' usd dn nd fr tf uc h tk I' oI' hi' d1 d2 d3 d4 d5 d6 d7 d8 d9 hFr hNews
          clear lF' lN'
          (try k_fold)
          have d10 : dn.length = i' := by rw [d2]; simp
          k_steps
          exact letters_end d3 d2 d1 d8 d9 (by assumption) (by assumption)
        · intro usd dn nd fr tf uc h tk e1 e2 e3 hFr hNews
          have e1' : True → IntsAre usd dn := fun _ => e1
          clear lF' lN'
          (try k_fold)
          iterate 15 (first | (k_unfold; (try dsimp only)) | walk1 | (dsimp only; walk1) | skip)
          rename Fr _ _ _ _ => lF'
          (with_unfolding_all refine' For_turns lF' ?_)
          k_whole
          iterate 7 (first | (k_unfold; (try dsimp only)) | walk1 | (dsimp only; walk1))
          rename Fr _ _ _ _ => lF'
          rename News _ _ _ _ => lN'
          rename IsRange _ _ _ _ _ _ _ _ => rgX
          rw [List.push_toArray] at lN'
          generalize hu2 : usf ++ [Value.int (nl.getD n.toNat 0) _] = us2 at lN'
          have hsf : IntsAre us2 (sfs ++ [nl.getD n.toNat 0]) := hu2 ▸ f1k _ _
          clear hu2
          with_unfolding_all refine' check_loop (xw := Str.ofString "ways") [_, _, _, _, _, _, _, _, _] [_, _] (by rfl) rgX lF' lN' f7 ?_ ?_
          · intro i' t' oK' vK' uw h' tk' I' oI' hi' q1 q2 q3 q4 hFr hNews
            clear lF' lN'
            have hsf' := hsf
            have q1' := q1
            have q3' := q3
            have hzi : ((0 + (i' : Int) + 1 - 0).toNat : Int) = (i' : Int) + 1 := toNat_z i'
            simp only [List.forall_mem_cons, List.not_mem_nil, false_implies, implies_true, and_true] at q1 q3
            dsimp only [List.cons_append, List.nil_append] at hNews
            (try k_fold)
            k_steps
            all_goals first | exact (check_no hx f4 hb0.1 hnd.1 f3 e3 hi' (by assumption)).elim | exact check_end q1' q2 q3' (by assumption) (by assumption) (by assumption) (fun p hp => .tail _ hp)
          · intro oK2 vK2 uw2 h2 tk2 q4 hFr hNews
            clear lF' lN'
            dsimp only [List.cons_append, List.nil_append] at hNews
            (try k_fold)
            k_steps
            refine' outer_end (nd := nd) (n2 := nsf + 1) ?ht ?hm (by assumption) (by assumption) ?hs f8'.2 ?hl1 ?hl2 ?hl3 (e1' trivial) e2 e3 hsf f2 f3 f4 f5 hnd q4
            (case ht => exact if_pos rfl)
            (case hl1 => omega)
            (case hl2 => omega)
            (case hl3 => omega)
            (case hs => exact sub_perm)
            (case hm =>
              intro y h1 h2
              have h3 := h2
              simp only [List.contains_cons, List.contains_nil, Bool.or_false, Bool.or_eq_false_iff, beq_eq_false_iff_ne, ne_eq] at h2
              simp only [h1, h2, h3, if_false, Bool.false_eq_true])
      · intro m₁ news₁ h tk hFr hNews
        clear lF' lN'
        (try k_fold)
        k_steps)⟩
end Mine
theorem PySem.Challenge.cw_jc0036_01_holds : PySem.Challenge.rw_jc0036_01.Holds := by
  exact Mine.t1
